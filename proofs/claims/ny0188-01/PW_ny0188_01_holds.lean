import PyProof.Rows.All
import Wide.All
import OpenK.AllK
import Wide.FinOn
import PySem.Challenge.RW_ny0188_01
set_option Elab.async false
section
open PySem PySem.W PySem.Spec PySem.Calls PyProof.Rows
set_option maxRecDepth 100000
set_option maxHeartbeats 0
namespace Mine188
noncomputable def fdOf (i : Nat) : Option (Arguments × List Stmt × Scope) := match (PySem.Challenge.pw_ny0188_01).main.body[i]? with
  | some (.FunctionDef _ a b _ _ _ sc _ _ _) => some (a, b, sc)
  | _ => none
def pick {α : Type} {x : Option α} (b : α) (_ : x = some b) : α := b
noncomputable def foRaw38 : Option Obj := match fdOf 2 with
  | some (a, b, c) => some { cls := Value.type "function", data := Data.func (FuncData.mk (Str.ofString "S_IFMT") (Str.ofString "S_IFMT") a (FuncBody.stmts b) c (3) ([]) (Value.none) (Value.none) (Value.none) (Value.str (Str.ofString "cpy313.stat") 282) (none) (Value.ref 37) (Value.none) (0)) }
  | none => none
noncomputable def fo38 : Obj := pick (x := foRaw38) _ rfl
noncomputable def foRaw78 : Option Obj := match fdOf 23 with
  | some (a, b, c) => some { cls := Value.type "function", data := Data.func (FuncData.mk (Str.ofString "filemode") (Str.ofString "filemode") a (FuncBody.stmts b) c (3) ([]) (Value.none) (Value.none) (Value.none) (Value.str (Str.ofString "cpy313.stat") 282) (none) (Value.ref 77) (Value.none) (0)) }
  | none => none
noncomputable def fo78 : Obj := pick (x := foRaw78) _ rfl
noncomputable def foRaw106 : Option Obj := match fdOf 38 with
  | some (a, b, c) => some { cls := Value.type "function", data := Data.func (FuncData.mk (Str.ofString "unquote") (Str.ofString "unquote") a (FuncBody.stmts b) c (3) ([]) (Value.none) (Value.none) (Value.none) (Value.str (Str.ofString "cpy313.email.quoprimime") 1447) (none) (Value.ref 105) (Value.none) (0)) }
  | none => none
noncomputable def fo106 : Obj := pick (x := foRaw106) _ rfl
noncomputable def foRaw113 : Option Obj := match fdOf 39 with
  | some (a, b, c) => some { cls := Value.type "function", data := Data.func (FuncData.mk (Str.ofString "quote") (Str.ofString "quote") a (FuncBody.stmts b) c (3) ([]) (Value.none) (Value.none) (Value.none) (Value.str (Str.ofString "cpy313.email.quoprimime") 1447) (none) (Value.ref 112) (Value.none) (0)) }
  | none => none
noncomputable def fo113 : Obj := pick (x := foRaw113) _ rfl
noncomputable def foRaw121 : Option Obj := match fdOf 40 with
  | some (a, b, c) => some { cls := Value.type "function", data := Data.func (FuncData.mk (Str.ofString "header_encode") (Str.ofString "header_encode") a (FuncBody.stmts b) c (3) ([]) (Value.ref 114) (Value.none) (Value.none) (Value.str (Str.ofString "cpy313.email.quoprimime") 1447) (none) (Value.ref 120) (Value.none) (0)) }
  | none => none
noncomputable def fo121 : Obj := pick (x := foRaw121) _ rfl
noncomputable def foRaw134 : Option Obj := match fdOf 44 with
  | some (a, b, c) => some { cls := Value.type "function", data := Data.func (FuncData.mk (Str.ofString "decode") (Str.ofString "decode") a (FuncBody.stmts b) c (3) ([]) (Value.ref 127) (Value.none) (Value.none) (Value.str (Str.ofString "cpy313.email.quoprimime") 1447) (none) (Value.ref 133) (Value.none) (0)) }
  | none => none
noncomputable def fo134 : Obj := pick (x := foRaw134) _ rfl
noncomputable def foRaw141 : Option Obj := match fdOf 45 with
  | some (a, b, c) => some { cls := Value.type "function", data := Data.func (FuncData.mk (Str.ofString "_unquote_match") (Str.ofString "_unquote_match") a (FuncBody.stmts b) c (3) ([]) (Value.none) (Value.none) (Value.none) (Value.str (Str.ofString "cpy313.email.quoprimime") 1447) (none) (Value.ref 140) (Value.none) (0)) }
  | none => none
noncomputable def fo141 : Obj := pick (x := foRaw141) _ rfl
noncomputable def foRaw148 : Option Obj := match fdOf 46 with
  | some (a, b, c) => some { cls := Value.type "function", data := Data.func (FuncData.mk (Str.ofString "header_decode") (Str.ofString "header_decode") a (FuncBody.stmts b) c (3) ([]) (Value.none) (Value.none) (Value.none) (Value.str (Str.ofString "cpy313.email.quoprimime") 1447) (none) (Value.ref 147) (Value.none) (0)) }
  | none => none
noncomputable def fo148 : Obj := pick (x := foRaw148) _ rfl
noncomputable def foRaw155 : Option Obj := match fdOf 48 with
  | some (a, b, c) => some { cls := Value.type "function", data := Data.func (FuncData.mk (Str.ofString "_law_row") (Str.ofString "_law_row") a (FuncBody.stmts b) c (3) ([]) (Value.none) (Value.none) (Value.none) (Value.str (Str.ofString "law_ny0188_01") 2006) (none) (Value.ref 154) (Value.none) (0)) }
  | none => none
noncomputable def fo155 : Obj := pick (x := foRaw155) _ rfl
noncomputable def foRaw162 : Option Obj := match fdOf 49 with
  | some (a, b, c) => some { cls := Value.type "function", data := Data.func (FuncData.mk (Str.ofString "_law_four") (Str.ofString "_law_four") a (FuncBody.stmts b) c (3) ([]) (Value.none) (Value.none) (Value.none) (Value.str (Str.ofString "law_ny0188_01") 2006) (none) (Value.ref 161) (Value.none) (0)) }
  | none => none
noncomputable def fo162 : Obj := pick (x := foRaw162) _ rfl
noncomputable def foRaw167 : Option Obj := match fdOf 50 with
  | some (a, b, c) => some { cls := Value.type "function", data := Data.func (FuncData.mk (Str.ofString "law") (Str.ofString "law") a (FuncBody.stmts b) c (3) ([]) (Value.none) (Value.none) (Value.none) (Value.str (Str.ofString "law_ny0188_01") 2006) (none) (Value.ref 166) (Value.none) (0)) }
  | none => none
noncomputable def fo167 : Obj := pick (x := foRaw167) _ rfl
noncomputable def hd.heap_39 : Params → Frag := fun P =>
  (nat_lit 2, { cls := Value.none, data := Data.dict #[{ hash := PyData.keyHash P ((Str.mk #[105, 109, 112, 111, 114, 116, 46, 108, 111, 97, 100, 101, 100, 46, 95, 115, 114, 101])), key := Value.str ((Str.mk #[105, 109, 112, 111, 114, 116, 46, 108, 111, 97, 100, 101, 100, 46, 95, 115, 114, 101])) 183, val := Value.bool true }, { hash := PyData.keyHash P (Str.ofString "class._frozen_importlib.BuiltinImporter"), key := Value.str (Str.ofString "class._frozen_importlib.BuiltinImporter") 185, val := Value.ref 14 }, { hash := PyData.keyHash P ((Str.mk #[119, 97, 116, 99, 104, 101, 100, 46, 105, 109, 112, 111, 114, 116])), key := Value.str ((Str.mk #[119, 97, 116, 99, 104, 101, 100, 46, 105, 109, 112, 111, 114, 116])) 206, val := Value.ref 18 }, { hash := PyData.keyHash P (Str.ofString "class._frozen_importlib.ModuleSpec"), key := Value.str (Str.ofString "class._frozen_importlib.ModuleSpec") 216, val := Value.ref 22 }, { hash := PyData.keyHash P (Str.ofString "sys.modules.booked-epoch"), key := Value.str (Str.ofString "sys.modules.booked-epoch") 245, val := Value.int 3 0 }, { hash := PyData.keyHash P ((Str.mk #[105, 109, 112, 111, 114, 116, 46, 108, 97, 116, 101, 114, 45, 108, 97, 105, 100, 46, 95, 115, 114, 101])), key := Value.str ((Str.mk #[105, 109, 112, 111, 114, 116, 46, 108, 97, 116, 101, 114, 45, 108, 97, 105, 100, 46, 95, 115, 114, 101])) 270, val := Value.bool true }, { hash := PyData.keyHash P (Str.ofString "watched.library"), key := Value.str (Str.ofString "watched.library") 272, val := Value.ref 27 }, { hash := PyData.keyHash P (Str.ofString "watched.library-objects"), key := Value.str (Str.ofString "watched.library-objects") 0, val := Value.str (Str.ofString "\x0c") 0 }, { hash := PyData.keyHash P (Str.ofString "watched.library-deep._sre"), key := Value.str (Str.ofString "watched.library-deep._sre") 273, val := Value.str (Str.ofString "\x04\x00\x00\x0b\x04\x00\x00\x0b\x04\x00\x00\x03\x04\x00\x00\x0b\x08\x04dict\x02") 0 }] 9 }) ::
  (nat_lit 3, { cls := Value.type "dict", data := Data.dict #[{ hash := PyData.keyHash P (Str.ofString "__name__"), key := Value.str (Str.ofString "__name__") 165, val := Value.str (Str.ofString "law_ny0188_01") 2006 }, { hash := PyData.keyHash P (Str.ofString "__doc__"), key := Value.str (Str.ofString "__doc__") 166, val := Value.none }, { hash := PyData.keyHash P (Str.ofString "__package__"), key := Value.str (Str.ofString "__package__") 167, val := Value.none }, { hash := PyData.keyHash P (Str.ofString "__loader__"), key := Value.str (Str.ofString "__loader__") 168, val := Value.builtin "__main__.__loader__#opaque" }, { hash := PyData.keyHash P (Str.ofString "__spec__"), key := Value.str (Str.ofString "__spec__") 169, val := Value.none }, { hash := PyData.keyHash P (Str.ofString "__annotations__"), key := Value.str (Str.ofString "__annotations__") 170, val := Value.ref 6 }, { hash := PyData.keyHash P (Str.ofString "__builtins__"), key := Value.str (Str.ofString "__builtins__") 171, val := Value.ref 4 }, { hash := PyData.keyHash P (Str.ofString "__file__"), key := Value.str (Str.ofString "__file__") 173, val := Value.str (Str.ofString "/claim/cut.py") 172 }, { hash := PyData.keyHash P (Str.ofString "__cached__"), key := Value.str (Str.ofString "__cached__") 174, val := Value.none }, { hash := PyData.keyHash P (Str.ofString "_sre"), key := Value.str (Str.ofString "_sre") 275, val := Value.ref 12 }, { hash := PyData.keyHash P (Str.ofString "S_IFMT"), key := Value.str (Str.ofString "S_IFMT") 290, val := Value.ref 38 }, { hash := PyData.keyHash P (Str.ofString "S_IFDIR"), key := Value.str (Str.ofString "S_IFDIR") 292, val := Value.int 16384 291 }, { hash := PyData.keyHash P (Str.ofString "S_IFCHR"), key := Value.str (Str.ofString "S_IFCHR") 294, val := Value.int 8192 293 }, { hash := PyData.keyHash P (Str.ofString "S_IFBLK"), key := Value.str (Str.ofString "S_IFBLK") 296, val := Value.int 24576 295 }, { hash := PyData.keyHash P (Str.ofString "S_IFREG"), key := Value.str (Str.ofString "S_IFREG") 298, val := Value.int 32768 297 }, { hash := PyData.keyHash P (Str.ofString "S_IFIFO"), key := Value.str (Str.ofString "S_IFIFO") 300, val := Value.int 4096 299 }, { hash := PyData.keyHash P (Str.ofString "S_IFLNK"), key := Value.str (Str.ofString "S_IFLNK") 302, val := Value.int 40960 301 }, { hash := PyData.keyHash P (Str.ofString "S_IFSOCK"), key := Value.str (Str.ofString "S_IFSOCK") 304, val := Value.int 49152 303 }, { hash := PyData.keyHash P (Str.ofString "S_ISUID"), key := Value.str (Str.ofString "S_ISUID") 306, val := Value.int 2048 305 }, { hash := PyData.keyHash P (Str.ofString "S_ISGID"), key := Value.str (Str.ofString "S_ISGID") 308, val := Value.int 1024 307 }, { hash := PyData.keyHash P (Str.ofString "S_ISVTX"), key := Value.str (Str.ofString "S_ISVTX") 310, val := Value.int 512 309 }, { hash := PyData.keyHash P (Str.ofString "S_IRUSR"), key := Value.str (Str.ofString "S_IRUSR") 312, val := Value.int 256 311 }, { hash := PyData.keyHash P (Str.ofString "S_IWUSR"), key := Value.str (Str.ofString "S_IWUSR") 314, val := Value.int 128 313 }, { hash := PyData.keyHash P (Str.ofString "S_IXUSR"), key := Value.str (Str.ofString "S_IXUSR") 316, val := Value.int 64 315 }, { hash := PyData.keyHash P (Str.ofString "S_IRGRP"), key := Value.str (Str.ofString "S_IRGRP") 318, val := Value.int 32 317 }, { hash := PyData.keyHash P (Str.ofString "S_IWGRP"), key := Value.str (Str.ofString "S_IWGRP") 320, val := Value.int 16 319 }, { hash := PyData.keyHash P (Str.ofString "S_IXGRP"), key := Value.str (Str.ofString "S_IXGRP") 322, val := Value.int 8 321 }, { hash := PyData.keyHash P (Str.ofString "S_IROTH"), key := Value.str (Str.ofString "S_IROTH") 324, val := Value.int 4 323 }, { hash := PyData.keyHash P (Str.ofString "S_IWOTH"), key := Value.str (Str.ofString "S_IWOTH") 326, val := Value.int 2 325 }, { hash := PyData.keyHash P (Str.ofString "S_IXOTH"), key := Value.str (Str.ofString "S_IXOTH") 328, val := Value.int 1 327 }, { hash := PyData.keyHash P (Str.ofString "_filemode_table"), key := Value.str (Str.ofString "_filemode_table") 354, val := Value.ref 71 }, { hash := PyData.keyHash P (Str.ofString "filemode"), key := Value.str (Str.ofString "filemode") 366, val := Value.ref 78 }, { hash := PyData.keyHash P (Str.ofString "_twin_re_1"), key := Value.str (Str.ofString "_twin_re_1") 401, val := Value.ref 83 }, { hash := PyData.keyHash P (Str.ofString "NL"), key := Value.str (Str.ofString "NL") 403, val := Value.str (Str.ofString "\n") 402 }, { hash := PyData.keyHash P (Str.ofString "_QUOPRI_MAP"), key := Value.str (Str.ofString "_QUOPRI_MAP") 1431, val := Value.ref 86 }, { hash := PyData.keyHash P (Str.ofString "_QUOPRI_HEADER_MAP"), key := Value.str (Str.ofString "_QUOPRI_HEADER_MAP") 1432, val := Value.ref 91 }, { hash := PyData.keyHash P (Str.ofString "_QUOPRI_BODY_MAP"), key := Value.str (Str.ofString "_QUOPRI_BODY_MAP") 1433, val := Value.ref 93 }, { hash := PyData.keyHash P (Str.ofString "ascii_lowercase"), key := Value.str (Str.ofString "ascii_lowercase") 1435, val := Value.str (Str.ofString "abcdefghijklmnopqrstuvwxyz") 1434 }, { hash := PyData.keyHash P (Str.ofString "ascii_uppercase"), key := Value.str (Str.ofString "ascii_uppercase") 1437, val := Value.str (Str.ofString "ABCDEFGHIJKLMNOPQRSTUVWXYZ") 1436 }, { hash := PyData.keyHash P (Str.ofString "ascii_letters"), key := Value.str (Str.ofString "ascii_letters") 1439, val := Value.str (Str.ofString "abcdefghijklmnopqrstuvwxyzABCDEFGHIJKLMNOPQRSTUVWXYZ") 1438 }, { hash := PyData.keyHash P (Str.ofString "digits"), key := Value.str (Str.ofString "digits") 1441, val := Value.str (Str.ofString "0123456789") 1440 }, { hash := PyData.keyHash P (Str.ofString "hexdigits"), key := Value.str (Str.ofString "hexdigits") 1446, val := Value.str (Str.ofString "0123456789abcdefABCDEF") 1445 }, { hash := PyData.keyHash P (Str.ofString "unquote"), key := Value.str (Str.ofString "unquote") 1952, val := Value.ref 106 }, { hash := PyData.keyHash P (Str.ofString "quote"), key := Value.str (Str.ofString "quote") 1959, val := Value.ref 113 }, { hash := PyData.keyHash P (Str.ofString "header_encode"), key := Value.str (Str.ofString "header_encode") 1969, val := Value.ref 121 }, { hash := PyData.keyHash P (Str.ofString "_QUOPRI_BODY_ENCODE_MAP"), key := Value.str (Str.ofString "_QUOPRI_BODY_ENCODE_MAP") 1970, val := Value.ref 123 }, { hash := PyData.keyHash P (Str.ofString "decode"), key := Value.str (Str.ofString "decode") 1990, val := Value.ref 134 }, { hash := PyData.keyHash P (Str.ofString "_unquote_match"), key := Value.str (Str.ofString "_unquote_match") 1998, val := Value.ref 141 }, { hash := PyData.keyHash P (Str.ofString "header_decode"), key := Value.str (Str.ofString "header_decode") 2005, val := Value.ref 148 }, { hash := PyData.keyHash P (Str.ofString "_law_row"), key := Value.str (Str.ofString "_law_row") 2017, val := Value.ref 155 }, { hash := PyData.keyHash P (Str.ofString "_law_four"), key := Value.str (Str.ofString "_law_four") 2029, val := Value.ref 162 }, { hash := PyData.keyHash P (Str.ofString "law"), key := Value.str (Str.ofString "law") 2035, val := Value.ref 167 }] 54 }) ::
  (nat_lit 6, { cls := Value.type "dict", data := Data.dict #[] }) ::
  (nat_lit 11, { cls := Value.type "dict", data := Data.dict #[{ hash := PyData.keyHash P (Str.ofString "__name__"), key := Value.str (Str.ofString "__name__") 247, val := Value.str (Str.ofString "_sre") 246 }, { hash := PyData.keyHash P (Str.ofString "__doc__"), key := Value.str (Str.ofString "__doc__") 248, val := Value.none }, { hash := PyData.keyHash P (Str.ofString "__package__"), key := Value.str (Str.ofString "__package__") 250, val := Value.str (Str.ofString "") 249 }, { hash := PyData.keyHash P (Str.ofString "__loader__"), key := Value.str (Str.ofString "__loader__") 251, val := Value.builtin "off-the-table:_sre.__loader__:shared#opaque" }, { hash := PyData.keyHash P (Str.ofString "__spec__"), key := Value.str (Str.ofString "__spec__") 252, val := Value.builtin "off-the-table:_sre.__spec__:shared#opaque" }, { hash := PyData.keyHash P (Str.ofString "compile"), key := Value.str (Str.ofString "compile") 253, val := Value.builtin "_sre.compile" }, { hash := PyData.keyHash P (Str.ofString "template"), key := Value.str (Str.ofString "template") 254, val := Value.builtin "off-the-table:_sre.template:shared#opaque" }, { hash := PyData.keyHash P (Str.ofString "getcodesize"), key := Value.str (Str.ofString "getcodesize") 255, val := Value.builtin "off-the-table:_sre.getcodesize:shared#opaque" }, { hash := PyData.keyHash P (Str.ofString "ascii_iscased"), key := Value.str (Str.ofString "ascii_iscased") 256, val := Value.builtin "off-the-table:_sre.ascii_iscased:shared#opaque" }, { hash := PyData.keyHash P (Str.ofString "unicode_iscased"), key := Value.str (Str.ofString "unicode_iscased") 257, val := Value.builtin "off-the-table:_sre.unicode_iscased:shared#opaque" }, { hash := PyData.keyHash P (Str.ofString "ascii_tolower"), key := Value.str (Str.ofString "ascii_tolower") 258, val := Value.builtin "off-the-table:_sre.ascii_tolower:shared#opaque" }, { hash := PyData.keyHash P (Str.ofString "unicode_tolower"), key := Value.str (Str.ofString "unicode_tolower") 259, val := Value.builtin "off-the-table:_sre.unicode_tolower:shared#opaque" }, { hash := PyData.keyHash P (Str.ofString "MAGIC"), key := Value.str (Str.ofString "MAGIC") 261, val := Value.int 20230612 260 }, { hash := PyData.keyHash P (Str.ofString "CODESIZE"), key := Value.str (Str.ofString "CODESIZE") 263, val := Value.int 4 262 }, { hash := PyData.keyHash P (Str.ofString "MAXREPEAT"), key := Value.str (Str.ofString "MAXREPEAT") 265, val := Value.int 4294967295 264 }, { hash := PyData.keyHash P (Str.ofString "MAXGROUPS"), key := Value.str (Str.ofString "MAXGROUPS") 267, val := Value.int 1073741823 266 }, { hash := PyData.keyHash P (Str.ofString "copyright"), key := Value.str (Str.ofString "copyright") 269, val := Value.str (Str.ofString " SRE 2.2.2 Copyright (c) 1997-2002 by Secret Labs AB ") 268 }] 17 }) ::
  (nat_lit 12, { cls := Value.type "module", dict := some 11 }) ::
  (nat_lit 32, { cls := Value.type "tuple", data := Data.seq #[] }) ::
  (nat_lit 34, { cls := Value.type "tuple", data := Data.seq #[Value.str (Str.ofString "mode") 287] }) ::
  (nat_lit 35, { cls := Value.type "tuple", data := Data.seq #[] }) ::
  (nat_lit 37, { cls := Value.type "code", data := Data.fields #[Value.str (Str.ofString "S_IFMT") 284, Value.str (Str.ofString "S_IFMT") 285, Value.str (Str.ofString "/claim/cut.py") 286, Value.int 3 0, Value.int 1 0, Value.int 0 0, Value.int 0 0, Value.int 3 0, Value.ref 32, Value.bool true, Value.int 276 0, Value.ref 33, Value.none, Value.ref 34, Value.ref 35, Value.ref 36, Value.int 288 0, Value.int 3 0, Value.str (Str.ofString "/claim/cut.py") 289] }) ::
  (nat_lit 38, fo38) ::
  (nat_lit 39, { cls := Value.type "tuple", data := Data.seq #[Value.int 40960 301, Value.str (Str.ofString "l") 329] }) ::
  (nat_lit 40, { cls := Value.type "tuple", data := Data.seq #[Value.int 49152 303, Value.str (Str.ofString "s") 330] }) ::
  (nat_lit 41, { cls := Value.type "tuple", data := Data.seq #[Value.int 32768 297, Value.str (Str.ofString "-") 331] }) ::
  (nat_lit 42, { cls := Value.type "tuple", data := Data.seq #[Value.int 24576 295, Value.str (Str.ofString "b") 332] }) ::
  (nat_lit 43, { cls := Value.type "tuple", data := Data.seq #[Value.int 16384 291, Value.str (Str.ofString "d") 333] }) ::
  (nat_lit 44, { cls := Value.type "tuple", data := Data.seq #[Value.int 8192 293, Value.str (Str.ofString "c") 334] }) ::
  (nat_lit 45, { cls := Value.type "tuple", data := Data.seq #[Value.int 4096 299, Value.str (Str.ofString "p") 335] }) ::
  (nat_lit 46, { cls := Value.type "tuple", data := Data.seq #[Value.ref 39, Value.ref 40, Value.ref 41, Value.ref 42, Value.ref 43, Value.ref 44, Value.ref 45] }) ::
  (nat_lit 47, { cls := Value.type "tuple", data := Data.seq #[Value.int 256 311, Value.str (Str.ofString "r") 336] }) ::
  (nat_lit 48, { cls := Value.type "tuple", data := Data.seq #[Value.ref 47] }) ::
  (nat_lit 49, { cls := Value.type "tuple", data := Data.seq #[Value.int 128 313, Value.str (Str.ofString "w") 337] }) ::
  (nat_lit 50, { cls := Value.type "tuple", data := Data.seq #[Value.ref 49] }) ::
  (nat_lit 51, { cls := Value.type "tuple", data := Data.seq #[Value.int 2112 338, Value.str (Str.ofString "s") 339] }) ::
  (nat_lit 52, { cls := Value.type "tuple", data := Data.seq #[Value.int 2048 305, Value.str (Str.ofString "S") 340] }) ::
  (nat_lit 53, { cls := Value.type "tuple", data := Data.seq #[Value.int 64 315, Value.str (Str.ofString "x") 341] }) ::
  (nat_lit 54, { cls := Value.type "tuple", data := Data.seq #[Value.ref 51, Value.ref 52, Value.ref 53] }) ::
  (nat_lit 55, { cls := Value.type "tuple", data := Data.seq #[Value.int 32 317, Value.str (Str.ofString "r") 342] }) ::
  (nat_lit 56, { cls := Value.type "tuple", data := Data.seq #[Value.ref 55] }) ::
  (nat_lit 57, { cls := Value.type "tuple", data := Data.seq #[Value.int 16 319, Value.str (Str.ofString "w") 343] }) ::
  (nat_lit 58, { cls := Value.type "tuple", data := Data.seq #[Value.ref 57] }) ::
  (nat_lit 59, { cls := Value.type "tuple", data := Data.seq #[Value.int 1032 344, Value.str (Str.ofString "s") 345] }) ::
  (nat_lit 60, { cls := Value.type "tuple", data := Data.seq #[Value.int 1024 307, Value.str (Str.ofString "S") 346] }) ::
  (nat_lit 61, { cls := Value.type "tuple", data := Data.seq #[Value.int 8 321, Value.str (Str.ofString "x") 347] }) ::
  (nat_lit 62, { cls := Value.type "tuple", data := Data.seq #[Value.ref 59, Value.ref 60, Value.ref 61] }) ::
  (nat_lit 63, { cls := Value.type "tuple", data := Data.seq #[Value.int 4 323, Value.str (Str.ofString "r") 348] }) ::
  (nat_lit 64, { cls := Value.type "tuple", data := Data.seq #[Value.ref 63] }) ::
  (nat_lit 65, { cls := Value.type "tuple", data := Data.seq #[Value.int 2 325, Value.str (Str.ofString "w") 349] }) ::
  (nat_lit 66, { cls := Value.type "tuple", data := Data.seq #[Value.ref 65] }) ::
  (nat_lit 67, { cls := Value.type "tuple", data := Data.seq #[Value.int 513 350, Value.str (Str.ofString "t") 351] }) ::
  (nat_lit 68, { cls := Value.type "tuple", data := Data.seq #[Value.int 512 309, Value.str (Str.ofString "T") 352] }) ::
  (nat_lit 69, { cls := Value.type "tuple", data := Data.seq #[Value.int 1 327, Value.str (Str.ofString "x") 353] }) ::
  (nat_lit 70, { cls := Value.type "tuple", data := Data.seq #[Value.ref 67, Value.ref 68, Value.ref 69] }) ::
  (nat_lit 71, { cls := Value.type "tuple", data := Data.seq #[Value.ref 46, Value.ref 48, Value.ref 50, Value.ref 54, Value.ref 56, Value.ref 58, Value.ref 62, Value.ref 64, Value.ref 66, Value.ref 70] }) ::
  (nat_lit 72, { cls := Value.type "tuple", data := Data.seq #[] }) ::
  (nat_lit 74, { cls := Value.type "tuple", data := Data.seq #[Value.str (Str.ofString "mode") 358, Value.str (Str.ofString "perm") 359, Value.str (Str.ofString "index") 360, Value.str (Str.ofString "table") 361, Value.str (Str.ofString "bit") 362, Value.str (Str.ofString "char") 363] }) ::
  (nat_lit 75, { cls := Value.type "tuple", data := Data.seq #[] }) ::
  (nat_lit 77, { cls := Value.type "code", data := Data.fields #[Value.str (Str.ofString "filemode") 355, Value.str (Str.ofString "filemode") 356, Value.str (Str.ofString "/claim/cut.py") 357, Value.int 25 0, Value.int 1 0, Value.int 0 0, Value.int 0 0, Value.int 3 0, Value.ref 72, Value.bool true, Value.int 276 0, Value.ref 73, Value.none, Value.ref 74, Value.ref 75, Value.ref 76, Value.int 364 0, Value.int 25 0, Value.str (Str.ofString "/claim/cut.py") 365] }) ::
  (nat_lit 78, fo78) ::
  (nat_lit 82, { cls := Value.type "tuple", data := Data.seq #[Value.int 14 0, Value.int 8 0, Value.int 1 0, Value.int 3 0, Value.int 3 0, Value.int 1 0, Value.int 1 0, Value.int 61 0, Value.int 0 0, Value.int 16 0, Value.int 61 0, Value.int 24 0, Value.int 16 0, Value.int 2 0, Value.int 2 0, Value.int 13 0, Value.int 11 0, Value.int 9 0, Value.int 0 0, Value.int 67043328 0, Value.int 126 0, Value.int 126 0, Value.int 0 0, Value.int 0 0, Value.int 0 0, Value.int 0 0, Value.int 0 0, Value.int 1 0, Value.int 1 0] }) ::
  (nat_lit 83, { cls := Value.type "re.Pattern", data := Data.fields #[Value.str (Str.ofString "=[a-fA-F0-9]{2}") 368, Value.int 256 400, Value.int 0 0, Value.none, Value.none, Value.ref 82, Value.int 0 0] }) ::
  (nat_lit 86, { cls := Value.type "list", data := Data.seq #[Value.str (Str.ofString "=00") 410, Value.str (Str.ofString "=01") 414, Value.str (Str.ofString "=02") 418, Value.str (Str.ofString "=03") 422, Value.str (Str.ofString "=04") 426, Value.str (Str.ofString "=05") 430, Value.str (Str.ofString "=06") 434, Value.str (Str.ofString "=07") 438, Value.str (Str.ofString "=08") 442, Value.str (Str.ofString "=09") 446, Value.str (Str.ofString "=0A") 450, Value.str (Str.ofString "=0B") 454, Value.str (Str.ofString "=0C") 458, Value.str (Str.ofString "=0D") 462, Value.str (Str.ofString "=0E") 466, Value.str (Str.ofString "=0F") 470, Value.str (Str.ofString "=10") 474, Value.str (Str.ofString "=11") 478, Value.str (Str.ofString "=12") 482, Value.str (Str.ofString "=13") 486, Value.str (Str.ofString "=14") 490, Value.str (Str.ofString "=15") 494, Value.str (Str.ofString "=16") 498, Value.str (Str.ofString "=17") 502, Value.str (Str.ofString "=18") 506, Value.str (Str.ofString "=19") 510, Value.str (Str.ofString "=1A") 514, Value.str (Str.ofString "=1B") 518, Value.str (Str.ofString "=1C") 522, Value.str (Str.ofString "=1D") 526, Value.str (Str.ofString "=1E") 530, Value.str (Str.ofString "=1F") 534, Value.str (Str.ofString "=20") 538, Value.str (Str.ofString "=21") 542, Value.str (Str.ofString "=22") 546, Value.str (Str.ofString "=23") 550, Value.str (Str.ofString "=24") 554, Value.str (Str.ofString "=25") 558, Value.str (Str.ofString "=26") 562, Value.str (Str.ofString "=27") 566, Value.str (Str.ofString "=28") 570, Value.str (Str.ofString "=29") 574, Value.str (Str.ofString "=2A") 578, Value.str (Str.ofString "=2B") 582, Value.str (Str.ofString "=2C") 586, Value.str (Str.ofString "=2D") 590, Value.str (Str.ofString "=2E") 594, Value.str (Str.ofString "=2F") 598, Value.str (Str.ofString "=30") 602, Value.str (Str.ofString "=31") 606, Value.str (Str.ofString "=32") 610, Value.str (Str.ofString "=33") 614, Value.str (Str.ofString "=34") 618, Value.str (Str.ofString "=35") 622, Value.str (Str.ofString "=36") 626, Value.str (Str.ofString "=37") 630, Value.str (Str.ofString "=38") 634, Value.str (Str.ofString "=39") 638, Value.str (Str.ofString "=3A") 642, Value.str (Str.ofString "=3B") 646, Value.str (Str.ofString "=3C") 650, Value.str (Str.ofString "=3D") 654, Value.str (Str.ofString "=3E") 658, Value.str (Str.ofString "=3F") 662, Value.str (Str.ofString "=40") 666, Value.str (Str.ofString "=41") 670, Value.str (Str.ofString "=42") 674, Value.str (Str.ofString "=43") 678, Value.str (Str.ofString "=44") 682, Value.str (Str.ofString "=45") 686, Value.str (Str.ofString "=46") 690, Value.str (Str.ofString "=47") 694, Value.str (Str.ofString "=48") 698, Value.str (Str.ofString "=49") 702, Value.str (Str.ofString "=4A") 706, Value.str (Str.ofString "=4B") 710, Value.str (Str.ofString "=4C") 714, Value.str (Str.ofString "=4D") 718, Value.str (Str.ofString "=4E") 722, Value.str (Str.ofString "=4F") 726, Value.str (Str.ofString "=50") 730, Value.str (Str.ofString "=51") 734, Value.str (Str.ofString "=52") 738, Value.str (Str.ofString "=53") 742, Value.str (Str.ofString "=54") 746, Value.str (Str.ofString "=55") 750, Value.str (Str.ofString "=56") 754, Value.str (Str.ofString "=57") 758, Value.str (Str.ofString "=58") 762, Value.str (Str.ofString "=59") 766, Value.str (Str.ofString "=5A") 770, Value.str (Str.ofString "=5B") 774, Value.str (Str.ofString "=5C") 778, Value.str (Str.ofString "=5D") 782, Value.str (Str.ofString "=5E") 786, Value.str (Str.ofString "=5F") 790, Value.str (Str.ofString "=60") 794, Value.str (Str.ofString "=61") 798, Value.str (Str.ofString "=62") 802, Value.str (Str.ofString "=63") 806, Value.str (Str.ofString "=64") 810, Value.str (Str.ofString "=65") 814, Value.str (Str.ofString "=66") 818, Value.str (Str.ofString "=67") 822, Value.str (Str.ofString "=68") 826, Value.str (Str.ofString "=69") 830, Value.str (Str.ofString "=6A") 834, Value.str (Str.ofString "=6B") 838, Value.str (Str.ofString "=6C") 842, Value.str (Str.ofString "=6D") 846, Value.str (Str.ofString "=6E") 850, Value.str (Str.ofString "=6F") 854, Value.str (Str.ofString "=70") 858, Value.str (Str.ofString "=71") 862, Value.str (Str.ofString "=72") 866, Value.str (Str.ofString "=73") 870, Value.str (Str.ofString "=74") 874, Value.str (Str.ofString "=75") 878, Value.str (Str.ofString "=76") 882, Value.str (Str.ofString "=77") 886, Value.str (Str.ofString "=78") 890, Value.str (Str.ofString "=79") 894, Value.str (Str.ofString "=7A") 898, Value.str (Str.ofString "=7B") 902, Value.str (Str.ofString "=7C") 906, Value.str (Str.ofString "=7D") 910, Value.str (Str.ofString "=7E") 914, Value.str (Str.ofString "=7F") 918, Value.str (Str.ofString "=80") 922, Value.str (Str.ofString "=81") 926, Value.str (Str.ofString "=82") 930, Value.str (Str.ofString "=83") 934, Value.str (Str.ofString "=84") 938, Value.str (Str.ofString "=85") 942, Value.str (Str.ofString "=86") 946, Value.str (Str.ofString "=87") 950, Value.str (Str.ofString "=88") 954, Value.str (Str.ofString "=89") 958, Value.str (Str.ofString "=8A") 962, Value.str (Str.ofString "=8B") 966, Value.str (Str.ofString "=8C") 970, Value.str (Str.ofString "=8D") 974, Value.str (Str.ofString "=8E") 978, Value.str (Str.ofString "=8F") 982, Value.str (Str.ofString "=90") 986, Value.str (Str.ofString "=91") 990, Value.str (Str.ofString "=92") 994, Value.str (Str.ofString "=93") 998, Value.str (Str.ofString "=94") 1002, Value.str (Str.ofString "=95") 1006, Value.str (Str.ofString "=96") 1010, Value.str (Str.ofString "=97") 1014, Value.str (Str.ofString "=98") 1018, Value.str (Str.ofString "=99") 1022, Value.str (Str.ofString "=9A") 1026, Value.str (Str.ofString "=9B") 1030, Value.str (Str.ofString "=9C") 1034, Value.str (Str.ofString "=9D") 1038, Value.str (Str.ofString "=9E") 1042, Value.str (Str.ofString "=9F") 1046, Value.str (Str.ofString "=A0") 1050, Value.str (Str.ofString "=A1") 1054, Value.str (Str.ofString "=A2") 1058, Value.str (Str.ofString "=A3") 1062, Value.str (Str.ofString "=A4") 1066, Value.str (Str.ofString "=A5") 1070, Value.str (Str.ofString "=A6") 1074, Value.str (Str.ofString "=A7") 1078, Value.str (Str.ofString "=A8") 1082, Value.str (Str.ofString "=A9") 1086, Value.str (Str.ofString "=AA") 1090, Value.str (Str.ofString "=AB") 1094, Value.str (Str.ofString "=AC") 1098, Value.str (Str.ofString "=AD") 1102, Value.str (Str.ofString "=AE") 1106, Value.str (Str.ofString "=AF") 1110, Value.str (Str.ofString "=B0") 1114, Value.str (Str.ofString "=B1") 1118, Value.str (Str.ofString "=B2") 1122, Value.str (Str.ofString "=B3") 1126, Value.str (Str.ofString "=B4") 1130, Value.str (Str.ofString "=B5") 1134, Value.str (Str.ofString "=B6") 1138, Value.str (Str.ofString "=B7") 1142, Value.str (Str.ofString "=B8") 1146, Value.str (Str.ofString "=B9") 1150, Value.str (Str.ofString "=BA") 1154, Value.str (Str.ofString "=BB") 1158, Value.str (Str.ofString "=BC") 1162, Value.str (Str.ofString "=BD") 1166, Value.str (Str.ofString "=BE") 1170, Value.str (Str.ofString "=BF") 1174, Value.str (Str.ofString "=C0") 1178, Value.str (Str.ofString "=C1") 1182, Value.str (Str.ofString "=C2") 1186, Value.str (Str.ofString "=C3") 1190, Value.str (Str.ofString "=C4") 1194, Value.str (Str.ofString "=C5") 1198, Value.str (Str.ofString "=C6") 1202, Value.str (Str.ofString "=C7") 1206, Value.str (Str.ofString "=C8") 1210, Value.str (Str.ofString "=C9") 1214, Value.str (Str.ofString "=CA") 1218, Value.str (Str.ofString "=CB") 1222, Value.str (Str.ofString "=CC") 1226, Value.str (Str.ofString "=CD") 1230, Value.str (Str.ofString "=CE") 1234, Value.str (Str.ofString "=CF") 1238, Value.str (Str.ofString "=D0") 1242, Value.str (Str.ofString "=D1") 1246, Value.str (Str.ofString "=D2") 1250, Value.str (Str.ofString "=D3") 1254, Value.str (Str.ofString "=D4") 1258, Value.str (Str.ofString "=D5") 1262, Value.str (Str.ofString "=D6") 1266, Value.str (Str.ofString "=D7") 1270, Value.str (Str.ofString "=D8") 1274, Value.str (Str.ofString "=D9") 1278, Value.str (Str.ofString "=DA") 1282, Value.str (Str.ofString "=DB") 1286, Value.str (Str.ofString "=DC") 1290, Value.str (Str.ofString "=DD") 1294, Value.str (Str.ofString "=DE") 1298, Value.str (Str.ofString "=DF") 1302, Value.str (Str.ofString "=E0") 1306, Value.str (Str.ofString "=E1") 1310, Value.str (Str.ofString "=E2") 1314, Value.str (Str.ofString "=E3") 1318, Value.str (Str.ofString "=E4") 1322, Value.str (Str.ofString "=E5") 1326, Value.str (Str.ofString "=E6") 1330, Value.str (Str.ofString "=E7") 1334, Value.str (Str.ofString "=E8") 1338, Value.str (Str.ofString "=E9") 1342, Value.str (Str.ofString "=EA") 1346, Value.str (Str.ofString "=EB") 1350, Value.str (Str.ofString "=EC") 1354, Value.str (Str.ofString "=ED") 1358, Value.str (Str.ofString "=EE") 1362, Value.str (Str.ofString "=EF") 1366, Value.str (Str.ofString "=F0") 1370, Value.str (Str.ofString "=F1") 1374, Value.str (Str.ofString "=F2") 1378, Value.str (Str.ofString "=F3") 1382, Value.str (Str.ofString "=F4") 1386, Value.str (Str.ofString "=F5") 1390, Value.str (Str.ofString "=F6") 1394, Value.str (Str.ofString "=F7") 1398, Value.str (Str.ofString "=F8") 1402, Value.str (Str.ofString "=F9") 1406, Value.str (Str.ofString "=FA") 1410, Value.str (Str.ofString "=FB") 1414, Value.str (Str.ofString "=FC") 1418, Value.str (Str.ofString "=FD") 1422, Value.str (Str.ofString "=FE") 1426, Value.str (Str.ofString "=FF") 1430] 256 }) ::
  (nat_lit 91, { cls := Value.type "list", data := Data.seq #[Value.str (Str.ofString "=00") 410, Value.str (Str.ofString "=01") 414, Value.str (Str.ofString "=02") 418, Value.str (Str.ofString "=03") 422, Value.str (Str.ofString "=04") 426, Value.str (Str.ofString "=05") 430, Value.str (Str.ofString "=06") 434, Value.str (Str.ofString "=07") 438, Value.str (Str.ofString "=08") 442, Value.str (Str.ofString "=09") 446, Value.str (Str.ofString "=0A") 450, Value.str (Str.ofString "=0B") 454, Value.str (Str.ofString "=0C") 458, Value.str (Str.ofString "=0D") 462, Value.str (Str.ofString "=0E") 466, Value.str (Str.ofString "=0F") 470, Value.str (Str.ofString "=10") 474, Value.str (Str.ofString "=11") 478, Value.str (Str.ofString "=12") 482, Value.str (Str.ofString "=13") 486, Value.str (Str.ofString "=14") 490, Value.str (Str.ofString "=15") 494, Value.str (Str.ofString "=16") 498, Value.str (Str.ofString "=17") 502, Value.str (Str.ofString "=18") 506, Value.str (Str.ofString "=19") 510, Value.str (Str.ofString "=1A") 514, Value.str (Str.ofString "=1B") 518, Value.str (Str.ofString "=1C") 522, Value.str (Str.ofString "=1D") 526, Value.str (Str.ofString "=1E") 530, Value.str (Str.ofString "=1F") 534, Value.str (Str.ofString "_") 1657, Value.str (Str.ofString "!") 1461, Value.str (Str.ofString "=22") 546, Value.str (Str.ofString "=23") 550, Value.str (Str.ofString "=24") 554, Value.str (Str.ofString "=25") 558, Value.str (Str.ofString "=26") 562, Value.str (Str.ofString "=27") 566, Value.str (Str.ofString "=28") 570, Value.str (Str.ofString "=29") 574, Value.str (Str.ofString "*") 1464, Value.str (Str.ofString "+") 1467, Value.str (Str.ofString "=2C") 586, Value.str (Str.ofString "-") 1458, Value.str (Str.ofString "=2E") 594, Value.str (Str.ofString "/") 1470, Value.str (Str.ofString "0") 1629, Value.str (Str.ofString "1") 1632, Value.str (Str.ofString "2") 1635, Value.str (Str.ofString "3") 1638, Value.str (Str.ofString "4") 1641, Value.str (Str.ofString "5") 1644, Value.str (Str.ofString "6") 1647, Value.str (Str.ofString "7") 1650, Value.str (Str.ofString "8") 1653, Value.str (Str.ofString "9") 1656, Value.str (Str.ofString "=3A") 642, Value.str (Str.ofString "=3B") 646, Value.str (Str.ofString "=3C") 650, Value.str (Str.ofString "=3D") 654, Value.str (Str.ofString "=3E") 658, Value.str (Str.ofString "=3F") 662, Value.str (Str.ofString "=40") 666, Value.str (Str.ofString "A") 1551, Value.str (Str.ofString "B") 1554, Value.str (Str.ofString "C") 1557, Value.str (Str.ofString "D") 1560, Value.str (Str.ofString "E") 1563, Value.str (Str.ofString "F") 1566, Value.str (Str.ofString "G") 1569, Value.str (Str.ofString "H") 1572, Value.str (Str.ofString "I") 1575, Value.str (Str.ofString "J") 1578, Value.str (Str.ofString "K") 1581, Value.str (Str.ofString "L") 1584, Value.str (Str.ofString "M") 1587, Value.str (Str.ofString "N") 1590, Value.str (Str.ofString "O") 1593, Value.str (Str.ofString "P") 1596, Value.str (Str.ofString "Q") 1599, Value.str (Str.ofString "R") 1602, Value.str (Str.ofString "S") 1605, Value.str (Str.ofString "T") 1608, Value.str (Str.ofString "U") 1611, Value.str (Str.ofString "V") 1614, Value.str (Str.ofString "W") 1617, Value.str (Str.ofString "X") 1620, Value.str (Str.ofString "Y") 1623, Value.str (Str.ofString "Z") 1626, Value.str (Str.ofString "=5B") 774, Value.str (Str.ofString "=5C") 778, Value.str (Str.ofString "=5D") 782, Value.str (Str.ofString "=5E") 786, Value.str (Str.ofString "=5F") 790, Value.str (Str.ofString "=60") 794, Value.str (Str.ofString "a") 1473, Value.str (Str.ofString "b") 1476, Value.str (Str.ofString "c") 1479, Value.str (Str.ofString "d") 1482, Value.str (Str.ofString "e") 1485, Value.str (Str.ofString "f") 1488, Value.str (Str.ofString "g") 1491, Value.str (Str.ofString "h") 1494, Value.str (Str.ofString "i") 1497, Value.str (Str.ofString "j") 1500, Value.str (Str.ofString "k") 1503, Value.str (Str.ofString "l") 1506, Value.str (Str.ofString "m") 1509, Value.str (Str.ofString "n") 1512, Value.str (Str.ofString "o") 1515, Value.str (Str.ofString "p") 1518, Value.str (Str.ofString "q") 1521, Value.str (Str.ofString "r") 1524, Value.str (Str.ofString "s") 1527, Value.str (Str.ofString "t") 1530, Value.str (Str.ofString "u") 1533, Value.str (Str.ofString "v") 1536, Value.str (Str.ofString "w") 1539, Value.str (Str.ofString "x") 1542, Value.str (Str.ofString "y") 1545, Value.str (Str.ofString "z") 1548, Value.str (Str.ofString "=7B") 902, Value.str (Str.ofString "=7C") 906, Value.str (Str.ofString "=7D") 910, Value.str (Str.ofString "=7E") 914, Value.str (Str.ofString "=7F") 918, Value.str (Str.ofString "=80") 922, Value.str (Str.ofString "=81") 926, Value.str (Str.ofString "=82") 930, Value.str (Str.ofString "=83") 934, Value.str (Str.ofString "=84") 938, Value.str (Str.ofString "=85") 942, Value.str (Str.ofString "=86") 946, Value.str (Str.ofString "=87") 950, Value.str (Str.ofString "=88") 954, Value.str (Str.ofString "=89") 958, Value.str (Str.ofString "=8A") 962, Value.str (Str.ofString "=8B") 966, Value.str (Str.ofString "=8C") 970, Value.str (Str.ofString "=8D") 974, Value.str (Str.ofString "=8E") 978, Value.str (Str.ofString "=8F") 982, Value.str (Str.ofString "=90") 986, Value.str (Str.ofString "=91") 990, Value.str (Str.ofString "=92") 994, Value.str (Str.ofString "=93") 998, Value.str (Str.ofString "=94") 1002, Value.str (Str.ofString "=95") 1006, Value.str (Str.ofString "=96") 1010, Value.str (Str.ofString "=97") 1014, Value.str (Str.ofString "=98") 1018, Value.str (Str.ofString "=99") 1022, Value.str (Str.ofString "=9A") 1026, Value.str (Str.ofString "=9B") 1030, Value.str (Str.ofString "=9C") 1034, Value.str (Str.ofString "=9D") 1038, Value.str (Str.ofString "=9E") 1042, Value.str (Str.ofString "=9F") 1046, Value.str (Str.ofString "=A0") 1050, Value.str (Str.ofString "=A1") 1054, Value.str (Str.ofString "=A2") 1058, Value.str (Str.ofString "=A3") 1062, Value.str (Str.ofString "=A4") 1066, Value.str (Str.ofString "=A5") 1070, Value.str (Str.ofString "=A6") 1074, Value.str (Str.ofString "=A7") 1078, Value.str (Str.ofString "=A8") 1082, Value.str (Str.ofString "=A9") 1086, Value.str (Str.ofString "=AA") 1090, Value.str (Str.ofString "=AB") 1094, Value.str (Str.ofString "=AC") 1098, Value.str (Str.ofString "=AD") 1102, Value.str (Str.ofString "=AE") 1106, Value.str (Str.ofString "=AF") 1110, Value.str (Str.ofString "=B0") 1114, Value.str (Str.ofString "=B1") 1118, Value.str (Str.ofString "=B2") 1122, Value.str (Str.ofString "=B3") 1126, Value.str (Str.ofString "=B4") 1130, Value.str (Str.ofString "=B5") 1134, Value.str (Str.ofString "=B6") 1138, Value.str (Str.ofString "=B7") 1142, Value.str (Str.ofString "=B8") 1146, Value.str (Str.ofString "=B9") 1150, Value.str (Str.ofString "=BA") 1154, Value.str (Str.ofString "=BB") 1158, Value.str (Str.ofString "=BC") 1162, Value.str (Str.ofString "=BD") 1166, Value.str (Str.ofString "=BE") 1170, Value.str (Str.ofString "=BF") 1174, Value.str (Str.ofString "=C0") 1178, Value.str (Str.ofString "=C1") 1182, Value.str (Str.ofString "=C2") 1186, Value.str (Str.ofString "=C3") 1190, Value.str (Str.ofString "=C4") 1194, Value.str (Str.ofString "=C5") 1198, Value.str (Str.ofString "=C6") 1202, Value.str (Str.ofString "=C7") 1206, Value.str (Str.ofString "=C8") 1210, Value.str (Str.ofString "=C9") 1214, Value.str (Str.ofString "=CA") 1218, Value.str (Str.ofString "=CB") 1222, Value.str (Str.ofString "=CC") 1226, Value.str (Str.ofString "=CD") 1230, Value.str (Str.ofString "=CE") 1234, Value.str (Str.ofString "=CF") 1238, Value.str (Str.ofString "=D0") 1242, Value.str (Str.ofString "=D1") 1246, Value.str (Str.ofString "=D2") 1250, Value.str (Str.ofString "=D3") 1254, Value.str (Str.ofString "=D4") 1258, Value.str (Str.ofString "=D5") 1262, Value.str (Str.ofString "=D6") 1266, Value.str (Str.ofString "=D7") 1270, Value.str (Str.ofString "=D8") 1274, Value.str (Str.ofString "=D9") 1278, Value.str (Str.ofString "=DA") 1282, Value.str (Str.ofString "=DB") 1286, Value.str (Str.ofString "=DC") 1290, Value.str (Str.ofString "=DD") 1294, Value.str (Str.ofString "=DE") 1298, Value.str (Str.ofString "=DF") 1302, Value.str (Str.ofString "=E0") 1306, Value.str (Str.ofString "=E1") 1310, Value.str (Str.ofString "=E2") 1314, Value.str (Str.ofString "=E3") 1318, Value.str (Str.ofString "=E4") 1322, Value.str (Str.ofString "=E5") 1326, Value.str (Str.ofString "=E6") 1330, Value.str (Str.ofString "=E7") 1334, Value.str (Str.ofString "=E8") 1338, Value.str (Str.ofString "=E9") 1342, Value.str (Str.ofString "=EA") 1346, Value.str (Str.ofString "=EB") 1350, Value.str (Str.ofString "=EC") 1354, Value.str (Str.ofString "=ED") 1358, Value.str (Str.ofString "=EE") 1362, Value.str (Str.ofString "=EF") 1366, Value.str (Str.ofString "=F0") 1370, Value.str (Str.ofString "=F1") 1374, Value.str (Str.ofString "=F2") 1378, Value.str (Str.ofString "=F3") 1382, Value.str (Str.ofString "=F4") 1386, Value.str (Str.ofString "=F5") 1390, Value.str (Str.ofString "=F6") 1394, Value.str (Str.ofString "=F7") 1398, Value.str (Str.ofString "=F8") 1402, Value.str (Str.ofString "=F9") 1406, Value.str (Str.ofString "=FA") 1410, Value.str (Str.ofString "=FB") 1414, Value.str (Str.ofString "=FC") 1418, Value.str (Str.ofString "=FD") 1422, Value.str (Str.ofString "=FE") 1426, Value.str (Str.ofString "=FF") 1430] }) ::
  (nat_lit 93, { cls := Value.type "list", data := Data.seq #[Value.str (Str.ofString "=00") 410, Value.str (Str.ofString "=01") 414, Value.str (Str.ofString "=02") 418, Value.str (Str.ofString "=03") 422, Value.str (Str.ofString "=04") 426, Value.str (Str.ofString "=05") 430, Value.str (Str.ofString "=06") 434, Value.str (Str.ofString "=07") 438, Value.str (Str.ofString "=08") 442, Value.str (Str.ofString "\t") 1945, Value.str (Str.ofString "=0A") 450, Value.str (Str.ofString "=0B") 454, Value.str (Str.ofString "=0C") 458, Value.str (Str.ofString "=0D") 462, Value.str (Str.ofString "=0E") 466, Value.str (Str.ofString "=0F") 470, Value.str (Str.ofString "=10") 474, Value.str (Str.ofString "=11") 478, Value.str (Str.ofString "=12") 482, Value.str (Str.ofString "=13") 486, Value.str (Str.ofString "=14") 490, Value.str (Str.ofString "=15") 494, Value.str (Str.ofString "=16") 498, Value.str (Str.ofString "=17") 502, Value.str (Str.ofString "=18") 506, Value.str (Str.ofString "=19") 510, Value.str (Str.ofString "=1A") 514, Value.str (Str.ofString "=1B") 518, Value.str (Str.ofString "=1C") 522, Value.str (Str.ofString "=1D") 526, Value.str (Str.ofString "=1E") 530, Value.str (Str.ofString "=1F") 534, Value.str (Str.ofString " ") 1663, Value.str (Str.ofString "!") 1666, Value.str (Str.ofString "\"") 1669, Value.str (Str.ofString "#") 1672, Value.str (Str.ofString "$") 1675, Value.str (Str.ofString "%") 1678, Value.str (Str.ofString "&") 1681, Value.str (Str.ofString "'") 1684, Value.str (Str.ofString "(") 1687, Value.str (Str.ofString ")") 1690, Value.str (Str.ofString "*") 1693, Value.str (Str.ofString "+") 1696, Value.str (Str.ofString ",") 1699, Value.str (Str.ofString "-") 1702, Value.str (Str.ofString ".") 1705, Value.str (Str.ofString "/") 1708, Value.str (Str.ofString "0") 1711, Value.str (Str.ofString "1") 1714, Value.str (Str.ofString "2") 1717, Value.str (Str.ofString "3") 1720, Value.str (Str.ofString "4") 1723, Value.str (Str.ofString "5") 1726, Value.str (Str.ofString "6") 1729, Value.str (Str.ofString "7") 1732, Value.str (Str.ofString "8") 1735, Value.str (Str.ofString "9") 1738, Value.str (Str.ofString ":") 1741, Value.str (Str.ofString ";") 1744, Value.str (Str.ofString "<") 1747, Value.str (Str.ofString "=3D") 654, Value.str (Str.ofString ">") 1750, Value.str (Str.ofString "?") 1753, Value.str (Str.ofString "@") 1756, Value.str (Str.ofString "A") 1759, Value.str (Str.ofString "B") 1762, Value.str (Str.ofString "C") 1765, Value.str (Str.ofString "D") 1768, Value.str (Str.ofString "E") 1771, Value.str (Str.ofString "F") 1774, Value.str (Str.ofString "G") 1777, Value.str (Str.ofString "H") 1780, Value.str (Str.ofString "I") 1783, Value.str (Str.ofString "J") 1786, Value.str (Str.ofString "K") 1789, Value.str (Str.ofString "L") 1792, Value.str (Str.ofString "M") 1795, Value.str (Str.ofString "N") 1798, Value.str (Str.ofString "O") 1801, Value.str (Str.ofString "P") 1804, Value.str (Str.ofString "Q") 1807, Value.str (Str.ofString "R") 1810, Value.str (Str.ofString "S") 1813, Value.str (Str.ofString "T") 1816, Value.str (Str.ofString "U") 1819, Value.str (Str.ofString "V") 1822, Value.str (Str.ofString "W") 1825, Value.str (Str.ofString "X") 1828, Value.str (Str.ofString "Y") 1831, Value.str (Str.ofString "Z") 1834, Value.str (Str.ofString "[") 1837, Value.str (Str.ofString "\\") 1840, Value.str (Str.ofString "]") 1843, Value.str (Str.ofString "^") 1846, Value.str (Str.ofString "_") 1849, Value.str (Str.ofString "`") 1852, Value.str (Str.ofString "a") 1855, Value.str (Str.ofString "b") 1858, Value.str (Str.ofString "c") 1861, Value.str (Str.ofString "d") 1864, Value.str (Str.ofString "e") 1867, Value.str (Str.ofString "f") 1870, Value.str (Str.ofString "g") 1873, Value.str (Str.ofString "h") 1876, Value.str (Str.ofString "i") 1879, Value.str (Str.ofString "j") 1882, Value.str (Str.ofString "k") 1885, Value.str (Str.ofString "l") 1888, Value.str (Str.ofString "m") 1891, Value.str (Str.ofString "n") 1894, Value.str (Str.ofString "o") 1897, Value.str (Str.ofString "p") 1900, Value.str (Str.ofString "q") 1903, Value.str (Str.ofString "r") 1906, Value.str (Str.ofString "s") 1909, Value.str (Str.ofString "t") 1912, Value.str (Str.ofString "u") 1915, Value.str (Str.ofString "v") 1918, Value.str (Str.ofString "w") 1921, Value.str (Str.ofString "x") 1924, Value.str (Str.ofString "y") 1927, Value.str (Str.ofString "z") 1930, Value.str (Str.ofString "{") 1933, Value.str (Str.ofString "|") 1936, Value.str (Str.ofString "}") 1939, Value.str (Str.ofString "~") 1942, Value.str (Str.ofString "=7F") 918, Value.str (Str.ofString "=80") 922, Value.str (Str.ofString "=81") 926, Value.str (Str.ofString "=82") 930, Value.str (Str.ofString "=83") 934, Value.str (Str.ofString "=84") 938, Value.str (Str.ofString "=85") 942, Value.str (Str.ofString "=86") 946, Value.str (Str.ofString "=87") 950, Value.str (Str.ofString "=88") 954, Value.str (Str.ofString "=89") 958, Value.str (Str.ofString "=8A") 962, Value.str (Str.ofString "=8B") 966, Value.str (Str.ofString "=8C") 970, Value.str (Str.ofString "=8D") 974, Value.str (Str.ofString "=8E") 978, Value.str (Str.ofString "=8F") 982, Value.str (Str.ofString "=90") 986, Value.str (Str.ofString "=91") 990, Value.str (Str.ofString "=92") 994, Value.str (Str.ofString "=93") 998, Value.str (Str.ofString "=94") 1002, Value.str (Str.ofString "=95") 1006, Value.str (Str.ofString "=96") 1010, Value.str (Str.ofString "=97") 1014, Value.str (Str.ofString "=98") 1018, Value.str (Str.ofString "=99") 1022, Value.str (Str.ofString "=9A") 1026, Value.str (Str.ofString "=9B") 1030, Value.str (Str.ofString "=9C") 1034, Value.str (Str.ofString "=9D") 1038, Value.str (Str.ofString "=9E") 1042, Value.str (Str.ofString "=9F") 1046, Value.str (Str.ofString "=A0") 1050, Value.str (Str.ofString "=A1") 1054, Value.str (Str.ofString "=A2") 1058, Value.str (Str.ofString "=A3") 1062, Value.str (Str.ofString "=A4") 1066, Value.str (Str.ofString "=A5") 1070, Value.str (Str.ofString "=A6") 1074, Value.str (Str.ofString "=A7") 1078, Value.str (Str.ofString "=A8") 1082, Value.str (Str.ofString "=A9") 1086, Value.str (Str.ofString "=AA") 1090, Value.str (Str.ofString "=AB") 1094, Value.str (Str.ofString "=AC") 1098, Value.str (Str.ofString "=AD") 1102, Value.str (Str.ofString "=AE") 1106, Value.str (Str.ofString "=AF") 1110, Value.str (Str.ofString "=B0") 1114, Value.str (Str.ofString "=B1") 1118, Value.str (Str.ofString "=B2") 1122, Value.str (Str.ofString "=B3") 1126, Value.str (Str.ofString "=B4") 1130, Value.str (Str.ofString "=B5") 1134, Value.str (Str.ofString "=B6") 1138, Value.str (Str.ofString "=B7") 1142, Value.str (Str.ofString "=B8") 1146, Value.str (Str.ofString "=B9") 1150, Value.str (Str.ofString "=BA") 1154, Value.str (Str.ofString "=BB") 1158, Value.str (Str.ofString "=BC") 1162, Value.str (Str.ofString "=BD") 1166, Value.str (Str.ofString "=BE") 1170, Value.str (Str.ofString "=BF") 1174, Value.str (Str.ofString "=C0") 1178, Value.str (Str.ofString "=C1") 1182, Value.str (Str.ofString "=C2") 1186, Value.str (Str.ofString "=C3") 1190, Value.str (Str.ofString "=C4") 1194, Value.str (Str.ofString "=C5") 1198, Value.str (Str.ofString "=C6") 1202, Value.str (Str.ofString "=C7") 1206, Value.str (Str.ofString "=C8") 1210, Value.str (Str.ofString "=C9") 1214, Value.str (Str.ofString "=CA") 1218, Value.str (Str.ofString "=CB") 1222, Value.str (Str.ofString "=CC") 1226, Value.str (Str.ofString "=CD") 1230, Value.str (Str.ofString "=CE") 1234, Value.str (Str.ofString "=CF") 1238, Value.str (Str.ofString "=D0") 1242, Value.str (Str.ofString "=D1") 1246, Value.str (Str.ofString "=D2") 1250, Value.str (Str.ofString "=D3") 1254, Value.str (Str.ofString "=D4") 1258, Value.str (Str.ofString "=D5") 1262, Value.str (Str.ofString "=D6") 1266, Value.str (Str.ofString "=D7") 1270, Value.str (Str.ofString "=D8") 1274, Value.str (Str.ofString "=D9") 1278, Value.str (Str.ofString "=DA") 1282, Value.str (Str.ofString "=DB") 1286, Value.str (Str.ofString "=DC") 1290, Value.str (Str.ofString "=DD") 1294, Value.str (Str.ofString "=DE") 1298, Value.str (Str.ofString "=DF") 1302, Value.str (Str.ofString "=E0") 1306, Value.str (Str.ofString "=E1") 1310, Value.str (Str.ofString "=E2") 1314, Value.str (Str.ofString "=E3") 1318, Value.str (Str.ofString "=E4") 1322, Value.str (Str.ofString "=E5") 1326, Value.str (Str.ofString "=E6") 1330, Value.str (Str.ofString "=E7") 1334, Value.str (Str.ofString "=E8") 1338, Value.str (Str.ofString "=E9") 1342, Value.str (Str.ofString "=EA") 1346, Value.str (Str.ofString "=EB") 1350, Value.str (Str.ofString "=EC") 1354, Value.str (Str.ofString "=ED") 1358, Value.str (Str.ofString "=EE") 1362, Value.str (Str.ofString "=EF") 1366, Value.str (Str.ofString "=F0") 1370, Value.str (Str.ofString "=F1") 1374, Value.str (Str.ofString "=F2") 1378, Value.str (Str.ofString "=F3") 1382, Value.str (Str.ofString "=F4") 1386, Value.str (Str.ofString "=F5") 1390, Value.str (Str.ofString "=F6") 1394, Value.str (Str.ofString "=F7") 1398, Value.str (Str.ofString "=F8") 1402, Value.str (Str.ofString "=F9") 1406, Value.str (Str.ofString "=FA") 1410, Value.str (Str.ofString "=FB") 1414, Value.str (Str.ofString "=FC") 1418, Value.str (Str.ofString "=FD") 1422, Value.str (Str.ofString "=FE") 1426, Value.str (Str.ofString "=FF") 1430] }) ::
  (nat_lit 100, { cls := Value.type "tuple", data := Data.seq #[] }) ::
  (nat_lit 102, { cls := Value.type "tuple", data := Data.seq #[Value.str (Str.ofString "s") 1949] }) ::
  (nat_lit 103, { cls := Value.type "tuple", data := Data.seq #[] }) ::
  (nat_lit 105, { cls := Value.type "code", data := Data.fields #[Value.str (Str.ofString "unquote") 1946, Value.str (Str.ofString "unquote") 1947, Value.str (Str.ofString "/claim/cut.py") 1948, Value.int 58 0, Value.int 1 0, Value.int 0 0, Value.int 0 0, Value.int 3 0, Value.ref 100, Value.bool true, Value.int 276 0, Value.ref 101, Value.none, Value.ref 102, Value.ref 103, Value.ref 104, Value.int 1950 0, Value.int 58 0, Value.str (Str.ofString "/claim/cut.py") 1951] }) ::
  (nat_lit 106, fo106) ::
  (nat_lit 107, { cls := Value.type "tuple", data := Data.seq #[] }) ::
  (nat_lit 109, { cls := Value.type "tuple", data := Data.seq #[Value.str (Str.ofString "c") 1956] }) ::
  (nat_lit 110, { cls := Value.type "tuple", data := Data.seq #[] }) ::
  (nat_lit 112, { cls := Value.type "code", data := Data.fields #[Value.str (Str.ofString "quote") 1953, Value.str (Str.ofString "quote") 1954, Value.str (Str.ofString "/claim/cut.py") 1955, Value.int 60 0, Value.int 1 0, Value.int 0 0, Value.int 0 0, Value.int 3 0, Value.ref 107, Value.bool true, Value.int 276 0, Value.ref 108, Value.none, Value.ref 109, Value.ref 110, Value.ref 111, Value.int 1957 0, Value.int 60 0, Value.str (Str.ofString "/claim/cut.py") 1958] }) ::
  (nat_lit 113, fo113) ::
  (nat_lit 114, { cls := Value.type "tuple", data := Data.seq #[Value.str (Str.ofString "iso-8859-1") 1960] }) ::
  (nat_lit 115, { cls := Value.type "tuple", data := Data.seq #[] }) ::
  (nat_lit 117, { cls := Value.type "tuple", data := Data.seq #[Value.str (Str.ofString "header_bytes") 1964, Value.str (Str.ofString "charset") 1965, Value.str (Str.ofString "encoded") 1966] }) ::
  (nat_lit 118, { cls := Value.type "tuple", data := Data.seq #[] }) ::
  (nat_lit 120, { cls := Value.type "code", data := Data.fields #[Value.str (Str.ofString "header_encode") 1961, Value.str (Str.ofString "header_encode") 1962, Value.str (Str.ofString "/claim/cut.py") 1963, Value.int 62 0, Value.int 2 0, Value.int 0 0, Value.int 0 0, Value.int 3 0, Value.ref 115, Value.bool true, Value.int 276 0, Value.ref 116, Value.none, Value.ref 117, Value.ref 118, Value.ref 119, Value.int 1967 0, Value.int 62 0, Value.str (Str.ofString "/claim/cut.py") 1968] }) ::
  (nat_lit 121, fo121) ::
  (nat_lit 123, { cls := Value.type "list", data := Data.seq #[Value.str (Str.ofString "=00") 410, Value.str (Str.ofString "=01") 414, Value.str (Str.ofString "=02") 418, Value.str (Str.ofString "=03") 422, Value.str (Str.ofString "=04") 426, Value.str (Str.ofString "=05") 430, Value.str (Str.ofString "=06") 434, Value.str (Str.ofString "=07") 438, Value.str (Str.ofString "=08") 442, Value.str (Str.ofString "\t") 1945, Value.str (Str.ofString "\n") 1977, Value.str (Str.ofString "=0B") 454, Value.str (Str.ofString "=0C") 458, Value.str (Str.ofString "\x0d") 1974, Value.str (Str.ofString "=0E") 466, Value.str (Str.ofString "=0F") 470, Value.str (Str.ofString "=10") 474, Value.str (Str.ofString "=11") 478, Value.str (Str.ofString "=12") 482, Value.str (Str.ofString "=13") 486, Value.str (Str.ofString "=14") 490, Value.str (Str.ofString "=15") 494, Value.str (Str.ofString "=16") 498, Value.str (Str.ofString "=17") 502, Value.str (Str.ofString "=18") 506, Value.str (Str.ofString "=19") 510, Value.str (Str.ofString "=1A") 514, Value.str (Str.ofString "=1B") 518, Value.str (Str.ofString "=1C") 522, Value.str (Str.ofString "=1D") 526, Value.str (Str.ofString "=1E") 530, Value.str (Str.ofString "=1F") 534, Value.str (Str.ofString " ") 1663, Value.str (Str.ofString "!") 1666, Value.str (Str.ofString "\"") 1669, Value.str (Str.ofString "#") 1672, Value.str (Str.ofString "$") 1675, Value.str (Str.ofString "%") 1678, Value.str (Str.ofString "&") 1681, Value.str (Str.ofString "'") 1684, Value.str (Str.ofString "(") 1687, Value.str (Str.ofString ")") 1690, Value.str (Str.ofString "*") 1693, Value.str (Str.ofString "+") 1696, Value.str (Str.ofString ",") 1699, Value.str (Str.ofString "-") 1702, Value.str (Str.ofString ".") 1705, Value.str (Str.ofString "/") 1708, Value.str (Str.ofString "0") 1711, Value.str (Str.ofString "1") 1714, Value.str (Str.ofString "2") 1717, Value.str (Str.ofString "3") 1720, Value.str (Str.ofString "4") 1723, Value.str (Str.ofString "5") 1726, Value.str (Str.ofString "6") 1729, Value.str (Str.ofString "7") 1732, Value.str (Str.ofString "8") 1735, Value.str (Str.ofString "9") 1738, Value.str (Str.ofString ":") 1741, Value.str (Str.ofString ";") 1744, Value.str (Str.ofString "<") 1747, Value.str (Str.ofString "=3D") 654, Value.str (Str.ofString ">") 1750, Value.str (Str.ofString "?") 1753, Value.str (Str.ofString "@") 1756, Value.str (Str.ofString "A") 1759, Value.str (Str.ofString "B") 1762, Value.str (Str.ofString "C") 1765, Value.str (Str.ofString "D") 1768, Value.str (Str.ofString "E") 1771, Value.str (Str.ofString "F") 1774, Value.str (Str.ofString "G") 1777, Value.str (Str.ofString "H") 1780, Value.str (Str.ofString "I") 1783, Value.str (Str.ofString "J") 1786, Value.str (Str.ofString "K") 1789, Value.str (Str.ofString "L") 1792, Value.str (Str.ofString "M") 1795, Value.str (Str.ofString "N") 1798, Value.str (Str.ofString "O") 1801, Value.str (Str.ofString "P") 1804, Value.str (Str.ofString "Q") 1807, Value.str (Str.ofString "R") 1810, Value.str (Str.ofString "S") 1813, Value.str (Str.ofString "T") 1816, Value.str (Str.ofString "U") 1819, Value.str (Str.ofString "V") 1822, Value.str (Str.ofString "W") 1825, Value.str (Str.ofString "X") 1828, Value.str (Str.ofString "Y") 1831, Value.str (Str.ofString "Z") 1834, Value.str (Str.ofString "[") 1837, Value.str (Str.ofString "\\") 1840, Value.str (Str.ofString "]") 1843, Value.str (Str.ofString "^") 1846, Value.str (Str.ofString "_") 1849, Value.str (Str.ofString "`") 1852, Value.str (Str.ofString "a") 1855, Value.str (Str.ofString "b") 1858, Value.str (Str.ofString "c") 1861, Value.str (Str.ofString "d") 1864, Value.str (Str.ofString "e") 1867, Value.str (Str.ofString "f") 1870, Value.str (Str.ofString "g") 1873, Value.str (Str.ofString "h") 1876, Value.str (Str.ofString "i") 1879, Value.str (Str.ofString "j") 1882, Value.str (Str.ofString "k") 1885, Value.str (Str.ofString "l") 1888, Value.str (Str.ofString "m") 1891, Value.str (Str.ofString "n") 1894, Value.str (Str.ofString "o") 1897, Value.str (Str.ofString "p") 1900, Value.str (Str.ofString "q") 1903, Value.str (Str.ofString "r") 1906, Value.str (Str.ofString "s") 1909, Value.str (Str.ofString "t") 1912, Value.str (Str.ofString "u") 1915, Value.str (Str.ofString "v") 1918, Value.str (Str.ofString "w") 1921, Value.str (Str.ofString "x") 1924, Value.str (Str.ofString "y") 1927, Value.str (Str.ofString "z") 1930, Value.str (Str.ofString "{") 1933, Value.str (Str.ofString "|") 1936, Value.str (Str.ofString "}") 1939, Value.str (Str.ofString "~") 1942, Value.str (Str.ofString "=7F") 918, Value.str (Str.ofString "=80") 922, Value.str (Str.ofString "=81") 926, Value.str (Str.ofString "=82") 930, Value.str (Str.ofString "=83") 934, Value.str (Str.ofString "=84") 938, Value.str (Str.ofString "=85") 942, Value.str (Str.ofString "=86") 946, Value.str (Str.ofString "=87") 950, Value.str (Str.ofString "=88") 954, Value.str (Str.ofString "=89") 958, Value.str (Str.ofString "=8A") 962, Value.str (Str.ofString "=8B") 966, Value.str (Str.ofString "=8C") 970, Value.str (Str.ofString "=8D") 974, Value.str (Str.ofString "=8E") 978, Value.str (Str.ofString "=8F") 982, Value.str (Str.ofString "=90") 986, Value.str (Str.ofString "=91") 990, Value.str (Str.ofString "=92") 994, Value.str (Str.ofString "=93") 998, Value.str (Str.ofString "=94") 1002, Value.str (Str.ofString "=95") 1006, Value.str (Str.ofString "=96") 1010, Value.str (Str.ofString "=97") 1014, Value.str (Str.ofString "=98") 1018, Value.str (Str.ofString "=99") 1022, Value.str (Str.ofString "=9A") 1026, Value.str (Str.ofString "=9B") 1030, Value.str (Str.ofString "=9C") 1034, Value.str (Str.ofString "=9D") 1038, Value.str (Str.ofString "=9E") 1042, Value.str (Str.ofString "=9F") 1046, Value.str (Str.ofString "=A0") 1050, Value.str (Str.ofString "=A1") 1054, Value.str (Str.ofString "=A2") 1058, Value.str (Str.ofString "=A3") 1062, Value.str (Str.ofString "=A4") 1066, Value.str (Str.ofString "=A5") 1070, Value.str (Str.ofString "=A6") 1074, Value.str (Str.ofString "=A7") 1078, Value.str (Str.ofString "=A8") 1082, Value.str (Str.ofString "=A9") 1086, Value.str (Str.ofString "=AA") 1090, Value.str (Str.ofString "=AB") 1094, Value.str (Str.ofString "=AC") 1098, Value.str (Str.ofString "=AD") 1102, Value.str (Str.ofString "=AE") 1106, Value.str (Str.ofString "=AF") 1110, Value.str (Str.ofString "=B0") 1114, Value.str (Str.ofString "=B1") 1118, Value.str (Str.ofString "=B2") 1122, Value.str (Str.ofString "=B3") 1126, Value.str (Str.ofString "=B4") 1130, Value.str (Str.ofString "=B5") 1134, Value.str (Str.ofString "=B6") 1138, Value.str (Str.ofString "=B7") 1142, Value.str (Str.ofString "=B8") 1146, Value.str (Str.ofString "=B9") 1150, Value.str (Str.ofString "=BA") 1154, Value.str (Str.ofString "=BB") 1158, Value.str (Str.ofString "=BC") 1162, Value.str (Str.ofString "=BD") 1166, Value.str (Str.ofString "=BE") 1170, Value.str (Str.ofString "=BF") 1174, Value.str (Str.ofString "=C0") 1178, Value.str (Str.ofString "=C1") 1182, Value.str (Str.ofString "=C2") 1186, Value.str (Str.ofString "=C3") 1190, Value.str (Str.ofString "=C4") 1194, Value.str (Str.ofString "=C5") 1198, Value.str (Str.ofString "=C6") 1202, Value.str (Str.ofString "=C7") 1206, Value.str (Str.ofString "=C8") 1210, Value.str (Str.ofString "=C9") 1214, Value.str (Str.ofString "=CA") 1218, Value.str (Str.ofString "=CB") 1222, Value.str (Str.ofString "=CC") 1226, Value.str (Str.ofString "=CD") 1230, Value.str (Str.ofString "=CE") 1234, Value.str (Str.ofString "=CF") 1238, Value.str (Str.ofString "=D0") 1242, Value.str (Str.ofString "=D1") 1246, Value.str (Str.ofString "=D2") 1250, Value.str (Str.ofString "=D3") 1254, Value.str (Str.ofString "=D4") 1258, Value.str (Str.ofString "=D5") 1262, Value.str (Str.ofString "=D6") 1266, Value.str (Str.ofString "=D7") 1270, Value.str (Str.ofString "=D8") 1274, Value.str (Str.ofString "=D9") 1278, Value.str (Str.ofString "=DA") 1282, Value.str (Str.ofString "=DB") 1286, Value.str (Str.ofString "=DC") 1290, Value.str (Str.ofString "=DD") 1294, Value.str (Str.ofString "=DE") 1298, Value.str (Str.ofString "=DF") 1302, Value.str (Str.ofString "=E0") 1306, Value.str (Str.ofString "=E1") 1310, Value.str (Str.ofString "=E2") 1314, Value.str (Str.ofString "=E3") 1318, Value.str (Str.ofString "=E4") 1322, Value.str (Str.ofString "=E5") 1326, Value.str (Str.ofString "=E6") 1330, Value.str (Str.ofString "=E7") 1334, Value.str (Str.ofString "=E8") 1338, Value.str (Str.ofString "=E9") 1342, Value.str (Str.ofString "=EA") 1346, Value.str (Str.ofString "=EB") 1350, Value.str (Str.ofString "=EC") 1354, Value.str (Str.ofString "=ED") 1358, Value.str (Str.ofString "=EE") 1362, Value.str (Str.ofString "=EF") 1366, Value.str (Str.ofString "=F0") 1370, Value.str (Str.ofString "=F1") 1374, Value.str (Str.ofString "=F2") 1378, Value.str (Str.ofString "=F3") 1382, Value.str (Str.ofString "=F4") 1386, Value.str (Str.ofString "=F5") 1390, Value.str (Str.ofString "=F6") 1394, Value.str (Str.ofString "=F7") 1398, Value.str (Str.ofString "=F8") 1402, Value.str (Str.ofString "=F9") 1406, Value.str (Str.ofString "=FA") 1410, Value.str (Str.ofString "=FB") 1414, Value.str (Str.ofString "=FC") 1418, Value.str (Str.ofString "=FD") 1422, Value.str (Str.ofString "=FE") 1426, Value.str (Str.ofString "=FF") 1430] }) ::
  (nat_lit 127, { cls := Value.type "tuple", data := Data.seq #[Value.str (Str.ofString "\n") 402] }) ::
  (nat_lit 128, { cls := Value.type "tuple", data := Data.seq #[] }) ::
  (nat_lit 130, { cls := Value.type "tuple", data := Data.seq #[Value.str (Str.ofString "encoded") 1981, Value.str (Str.ofString "eol") 1982, Value.str (Str.ofString "decoded") 1983, Value.str (Str.ofString "line") 1984, Value.str (Str.ofString "i") 1985, Value.str (Str.ofString "n") 1986, Value.str (Str.ofString "c") 1987] }) ::
  (nat_lit 131, { cls := Value.type "tuple", data := Data.seq #[] }) ::
  (nat_lit 133, { cls := Value.type "code", data := Data.fields #[Value.str (Str.ofString "decode") 1978, Value.str (Str.ofString "decode") 1979, Value.str (Str.ofString "/claim/cut.py") 1980, Value.int 71 0, Value.int 2 0, Value.int 0 0, Value.int 0 0, Value.int 3 0, Value.ref 128, Value.bool true, Value.int 276 0, Value.ref 129, Value.none, Value.ref 130, Value.ref 131, Value.ref 132, Value.int 1988 0, Value.int 71 0, Value.str (Str.ofString "/claim/cut.py") 1989] }) ::
  (nat_lit 134, fo134) ::
  (nat_lit 135, { cls := Value.type "tuple", data := Data.seq #[] }) ::
  (nat_lit 137, { cls := Value.type "tuple", data := Data.seq #[Value.str (Str.ofString "match") 1994, Value.str (Str.ofString "s") 1995] }) ::
  (nat_lit 138, { cls := Value.type "tuple", data := Data.seq #[] }) ::
  (nat_lit 140, { cls := Value.type "code", data := Data.fields #[Value.str (Str.ofString "_unquote_match") 1991, Value.str (Str.ofString "_unquote_match") 1992, Value.str (Str.ofString "/claim/cut.py") 1993, Value.int 101 0, Value.int 1 0, Value.int 0 0, Value.int 0 0, Value.int 3 0, Value.ref 135, Value.bool true, Value.int 276 0, Value.ref 136, Value.none, Value.ref 137, Value.ref 138, Value.ref 139, Value.int 1996 0, Value.int 101 0, Value.str (Str.ofString "/claim/cut.py") 1997] }) ::
  (nat_lit 141, fo141) ::
  (nat_lit 142, { cls := Value.type "tuple", data := Data.seq #[] }) ::
  (nat_lit 144, { cls := Value.type "tuple", data := Data.seq #[Value.str (Str.ofString "s") 2002] }) ::
  (nat_lit 145, { cls := Value.type "tuple", data := Data.seq #[] }) ::
  (nat_lit 147, { cls := Value.type "code", data := Data.fields #[Value.str (Str.ofString "header_decode") 1999, Value.str (Str.ofString "header_decode") 2000, Value.str (Str.ofString "/claim/cut.py") 2001, Value.int 104 0, Value.int 1 0, Value.int 0 0, Value.int 0 0, Value.int 3 0, Value.ref 142, Value.bool true, Value.int 276 0, Value.ref 143, Value.none, Value.ref 144, Value.ref 145, Value.ref 146, Value.int 2003 0, Value.int 104 0, Value.str (Str.ofString "/claim/cut.py") 2004] }) ::
  (nat_lit 148, fo148) ::
  (nat_lit 149, { cls := Value.type "tuple", data := Data.seq #[] }) ::
  (nat_lit 151, { cls := Value.type "tuple", data := Data.seq #[Value.str (Str.ofString "number") 2011, Value.str (Str.ofString "row") 2012, Value.str (Str.ofString "place") 2013, Value.str (Str.ofString "figure") 2014] }) ::
  (nat_lit 152, { cls := Value.type "tuple", data := Data.seq #[] }) ::
  (nat_lit 154, { cls := Value.type "code", data := Data.fields #[Value.str (Str.ofString "_law_row") 2008, Value.str (Str.ofString "_law_row") 2009, Value.str (Str.ofString "/claim/cut.py") 2010, Value.int 108 0, Value.int 1 0, Value.int 0 0, Value.int 0 0, Value.int 3 0, Value.ref 149, Value.bool true, Value.int 276 0, Value.ref 150, Value.none, Value.ref 151, Value.ref 152, Value.ref 153, Value.int 2015 0, Value.int 108 0, Value.str (Str.ofString "/claim/cut.py") 2016] }) ::
  (nat_lit 155, fo155) ::
  (nat_lit 156, { cls := Value.type "tuple", data := Data.seq #[] }) ::
  (nat_lit 158, { cls := Value.type "tuple", data := Data.seq #[Value.str (Str.ofString "kind") 2021, Value.str (Str.ofString "row") 2022, Value.str (Str.ofString "above") 2023, Value.str (Str.ofString "second") 2024, Value.str (Str.ofString "third") 2025, Value.str (Str.ofString "fourth") 2026] }) ::
  (nat_lit 159, { cls := Value.type "tuple", data := Data.seq #[] }) ::
  (nat_lit 161, { cls := Value.type "code", data := Data.fields #[Value.str (Str.ofString "_law_four") 2018, Value.str (Str.ofString "_law_four") 2019, Value.str (Str.ofString "/claim/cut.py") 2020, Value.int 115 0, Value.int 2 0, Value.int 0 0, Value.int 0 0, Value.int 3 0, Value.ref 156, Value.bool true, Value.int 276 0, Value.ref 157, Value.none, Value.ref 158, Value.ref 159, Value.ref 160, Value.int 2027 0, Value.int 115 0, Value.str (Str.ofString "/claim/cut.py") 2028] }) ::
  (nat_lit 162, fo162) ::
  (nat_lit 163, { cls := Value.type "tuple", data := Data.seq #[] }) ::
  (nat_lit 166, { cls := Value.type "code", data := Data.fields #[Value.str (Str.ofString "law") 2030, Value.str (Str.ofString "law") 2031, Value.str (Str.ofString "/claim/cut.py") 2032, Value.int 123 0, Value.int 1 0, Value.int 0 0, Value.int 0 0, Value.int 3 0, Value.ref 163, Value.bool true, Value.int 276 0, Value.ref 164, Value.none, Value.none, Value.none, Value.ref 165, Value.int 2033 0, Value.int 123 0, Value.str (Str.ofString "/claim/cut.py") 2034] }) ::
  (nat_lit 167, fo167) :: []
noncomputable def hd.view_39 : Program := view PySem.Challenge.pw_ny0188_01 [0, 2, 3, 4, 5, 6, 7, 8, 9, 10, 11, 12, 13, 14, 15, 16, 17, 18, 19, 20, 21, 22, 23, 24, 25, 26, 27, 28, 29, 30, 31, 32, 33, 38, 39, 41, 45, 46, 48, 49, 50]
end Mine188
end
section
open PySem PySem.W PySem.Spec PySem.Calls PyProof.Rows
set_option maxRecDepth 100000
set_option maxHeartbeats 0
namespace Mine188
noncomputable def hs.c0 : Str := ⟨⟨[nat_lit 95, nat_lit 95, nat_lit 110, nat_lit 97, nat_lit 109, nat_lit 101, nat_lit 95, nat_lit 95]⟩⟩
noncomputable def hs.c1 : Str := ⟨⟨[nat_lit 98, nat_lit 117, nat_lit 105, nat_lit 108, nat_lit 116, nat_lit 105, nat_lit 110, nat_lit 115]⟩⟩
noncomputable def hs.c2 : Str := ⟨⟨[nat_lit 95, nat_lit 95, nat_lit 100, nat_lit 111, nat_lit 99, nat_lit 95, nat_lit 95]⟩⟩
noncomputable def hs.c3 : Str := ⟨⟨[nat_lit 95, nat_lit 95, nat_lit 112, nat_lit 97, nat_lit 99, nat_lit 107, nat_lit 97, nat_lit 103, nat_lit 101, nat_lit 95, nat_lit 95]⟩⟩
noncomputable def hs.c4 : Str := ⟨⟨[nat_lit 95, nat_lit 95, nat_lit 108, nat_lit 111, nat_lit 97, nat_lit 100, nat_lit 101, nat_lit 114, nat_lit 95, nat_lit 95]⟩⟩
noncomputable def hs.c5 : Str := ⟨⟨[nat_lit 95, nat_lit 95, nat_lit 115, nat_lit 112, nat_lit 101, nat_lit 99, nat_lit 95, nat_lit 95]⟩⟩
noncomputable def hs.c6 : Str := ⟨⟨[nat_lit 99, nat_lit 111, nat_lit 109, nat_lit 112, nat_lit 105, nat_lit 108, nat_lit 101]⟩⟩
noncomputable def hs.c7 : Str := ⟨⟨[nat_lit 99, nat_lit 111, nat_lit 112, nat_lit 121, nat_lit 114, nat_lit 105, nat_lit 103, nat_lit 104, nat_lit 116]⟩⟩
noncomputable def hs.c8 : Str := ⟨⟨[nat_lit 95, nat_lit 95, nat_lit 109, nat_lit 97, nat_lit 105, nat_lit 110, nat_lit 95, nat_lit 95]⟩⟩
noncomputable def hs.c9 : Str := ⟨⟨[nat_lit 95, nat_lit 115, nat_lit 114, nat_lit 101]⟩⟩
noncomputable def hs.c10 : Str := ⟨⟨[nat_lit 95, nat_lit 95, nat_lit 97, nat_lit 110, nat_lit 110, nat_lit 111, nat_lit 116, nat_lit 97, nat_lit 116, nat_lit 105, nat_lit 111, nat_lit 110, nat_lit 115, nat_lit 95, nat_lit 95]⟩⟩
noncomputable def hs.c11 : Str := ⟨⟨[nat_lit 95, nat_lit 95, nat_lit 98, nat_lit 117, nat_lit 105, nat_lit 108, nat_lit 116, nat_lit 105, nat_lit 110, nat_lit 115, nat_lit 95, nat_lit 95]⟩⟩
noncomputable def hs.c12 : Str := ⟨⟨[nat_lit 95, nat_lit 95, nat_lit 102, nat_lit 105, nat_lit 108, nat_lit 101, nat_lit 95, nat_lit 95]⟩⟩
noncomputable def hs.c13 : Str := ⟨⟨[nat_lit 47, nat_lit 99, nat_lit 108, nat_lit 97, nat_lit 105, nat_lit 109, nat_lit 47, nat_lit 99, nat_lit 117, nat_lit 116, nat_lit 46, nat_lit 112, nat_lit 121]⟩⟩
noncomputable def hs.c14 : Str := ⟨⟨[nat_lit 95, nat_lit 95, nat_lit 99, nat_lit 97, nat_lit 99, nat_lit 104, nat_lit 101, nat_lit 100, nat_lit 95, nat_lit 95]⟩⟩
noncomputable def hs.c15 : Str := ⟨⟨[nat_lit 60, nat_lit 109, nat_lit 111, nat_lit 100, nat_lit 117, nat_lit 108, nat_lit 101, nat_lit 62]⟩⟩
noncomputable def hs.c16 : Str := ⟨⟨[nat_lit 95, nat_lit 95, nat_lit 109, nat_lit 111, nat_lit 100, nat_lit 117, nat_lit 108, nat_lit 101, nat_lit 95, nat_lit 95]⟩⟩
noncomputable def hs.c17 : Str := ⟨⟨[nat_lit 95, nat_lit 102, nat_lit 114, nat_lit 111, nat_lit 122, nat_lit 101, nat_lit 110, nat_lit 95, nat_lit 105, nat_lit 109, nat_lit 112, nat_lit 111, nat_lit 114, nat_lit 116, nat_lit 108, nat_lit 105, nat_lit 98]⟩⟩
noncomputable def hs.c18 : Str := ⟨⟨[nat_lit 95, nat_lit 95, nat_lit 102, nat_lit 105, nat_lit 114, nat_lit 115, nat_lit 116, nat_lit 108, nat_lit 105, nat_lit 110, nat_lit 101, nat_lit 110, nat_lit 111, nat_lit 95, nat_lit 95]⟩⟩
noncomputable def hs.c19 : Str := ⟨⟨[nat_lit 98, nat_lit 117, nat_lit 105, nat_lit 108, nat_lit 116, nat_lit 45, nat_lit 105, nat_lit 110]⟩⟩
noncomputable def hs.c20 : Str := ⟨⟨[nat_lit 95, nat_lit 95, nat_lit 115, nat_lit 116, nat_lit 97, nat_lit 116, nat_lit 105, nat_lit 99, nat_lit 95, nat_lit 97, nat_lit 116, nat_lit 116, nat_lit 114, nat_lit 105, nat_lit 98, nat_lit 117, nat_lit 116, nat_lit 101, nat_lit 115, nat_lit 95, nat_lit 95]⟩⟩
noncomputable def hs.c21 : Str := ⟨⟨[nat_lit 95, nat_lit 95, nat_lit 100, nat_lit 105, nat_lit 99, nat_lit 116, nat_lit 95, nat_lit 95]⟩⟩
noncomputable def hs.c22 : Str := ⟨⟨[nat_lit 95, nat_lit 95, nat_lit 119, nat_lit 101, nat_lit 97, nat_lit 107, nat_lit 114, nat_lit 101, nat_lit 102, nat_lit 95, nat_lit 95]⟩⟩
noncomputable def hs.c23 : Str := ⟨⟨[nat_lit 66, nat_lit 117, nat_lit 105, nat_lit 108, nat_lit 116, nat_lit 105, nat_lit 110, nat_lit 73, nat_lit 109, nat_lit 112, nat_lit 111, nat_lit 114, nat_lit 116, nat_lit 101, nat_lit 114]⟩⟩
noncomputable def hs.c24 : Str := ⟨⟨[nat_lit 110, nat_lit 97, nat_lit 109, nat_lit 101]⟩⟩
noncomputable def hs.c25 : Str := ⟨⟨[nat_lit 108, nat_lit 111, nat_lit 97, nat_lit 100, nat_lit 101, nat_lit 114]⟩⟩
noncomputable def hs.c26 : Str := ⟨⟨[nat_lit 111, nat_lit 114, nat_lit 105, nat_lit 103, nat_lit 105, nat_lit 110]⟩⟩
noncomputable def hs.c27 : Str := ⟨⟨[nat_lit 108, nat_lit 111, nat_lit 97, nat_lit 100, nat_lit 101, nat_lit 114, nat_lit 95, nat_lit 115, nat_lit 116, nat_lit 97, nat_lit 116, nat_lit 101]⟩⟩
noncomputable def hs.c28 : Str := ⟨⟨[nat_lit 115, nat_lit 117, nat_lit 98, nat_lit 109, nat_lit 111, nat_lit 100, nat_lit 117, nat_lit 108, nat_lit 101, nat_lit 95, nat_lit 115, nat_lit 101, nat_lit 97, nat_lit 114, nat_lit 99, nat_lit 104, nat_lit 95, nat_lit 108, nat_lit 111, nat_lit 99, nat_lit 97, nat_lit 116, nat_lit 105, nat_lit 111, nat_lit 110, nat_lit 115]⟩⟩
noncomputable def hs.c29 : Str := ⟨⟨[nat_lit 95, nat_lit 117, nat_lit 110, nat_lit 105, nat_lit 110, nat_lit 105, nat_lit 116, nat_lit 105, nat_lit 97, nat_lit 108, nat_lit 105, nat_lit 122, nat_lit 101, nat_lit 100, nat_lit 95, nat_lit 115, nat_lit 117, nat_lit 98, nat_lit 109, nat_lit 111, nat_lit 100, nat_lit 117, nat_lit 108, nat_lit 101, nat_lit 115]⟩⟩
noncomputable def hs.c30 : Str := ⟨⟨[nat_lit 95, nat_lit 115, nat_lit 101, nat_lit 116, nat_lit 95, nat_lit 102, nat_lit 105, nat_lit 108, nat_lit 101, nat_lit 97, nat_lit 116, nat_lit 116, nat_lit 114]⟩⟩
noncomputable def hs.c31 : Str := ⟨⟨[nat_lit 95, nat_lit 99, nat_lit 97, nat_lit 99, nat_lit 104, nat_lit 101, nat_lit 100]⟩⟩
noncomputable def hs.c32 : Str := ⟨⟨[nat_lit 77, nat_lit 111, nat_lit 100, nat_lit 117, nat_lit 108, nat_lit 101, nat_lit 83, nat_lit 112, nat_lit 101, nat_lit 99]⟩⟩
noncomputable def hs.c33 : Str := ⟨⟨[nat_lit 99, nat_lit 112, nat_lit 121, nat_lit 51, nat_lit 49, nat_lit 51, nat_lit 46, nat_lit 115, nat_lit 116, nat_lit 97, nat_lit 116]⟩⟩
noncomputable def hs.c34 : Str := ⟨⟨[nat_lit 83, nat_lit 95, nat_lit 73, nat_lit 70, nat_lit 77, nat_lit 84]⟩⟩
noncomputable def hs.c35 : Str := ⟨⟨[nat_lit 83, nat_lit 95, nat_lit 73, nat_lit 70, nat_lit 68, nat_lit 73, nat_lit 82]⟩⟩
noncomputable def hs.c36 : Str := ⟨⟨[nat_lit 83, nat_lit 95, nat_lit 73, nat_lit 70, nat_lit 67, nat_lit 72, nat_lit 82]⟩⟩
noncomputable def hs.c37 : Str := ⟨⟨[nat_lit 83, nat_lit 95, nat_lit 73, nat_lit 70, nat_lit 66, nat_lit 76, nat_lit 75]⟩⟩
noncomputable def hs.c38 : Str := ⟨⟨[nat_lit 83, nat_lit 95, nat_lit 73, nat_lit 70, nat_lit 82, nat_lit 69, nat_lit 71]⟩⟩
noncomputable def hs.c39 : Str := ⟨⟨[nat_lit 83, nat_lit 95, nat_lit 73, nat_lit 70, nat_lit 73, nat_lit 70, nat_lit 79]⟩⟩
noncomputable def hs.c40 : Str := ⟨⟨[nat_lit 83, nat_lit 95, nat_lit 73, nat_lit 70, nat_lit 76, nat_lit 78, nat_lit 75]⟩⟩
noncomputable def hs.c41 : Str := ⟨⟨[nat_lit 83, nat_lit 95, nat_lit 73, nat_lit 70, nat_lit 83, nat_lit 79, nat_lit 67, nat_lit 75]⟩⟩
noncomputable def hs.c42 : Str := ⟨⟨[nat_lit 83, nat_lit 95, nat_lit 73, nat_lit 83, nat_lit 85, nat_lit 73, nat_lit 68]⟩⟩
noncomputable def hs.c43 : Str := ⟨⟨[nat_lit 83, nat_lit 95, nat_lit 73, nat_lit 83, nat_lit 71, nat_lit 73, nat_lit 68]⟩⟩
noncomputable def hs.c44 : Str := ⟨⟨[nat_lit 83, nat_lit 95, nat_lit 73, nat_lit 83, nat_lit 86, nat_lit 84, nat_lit 88]⟩⟩
noncomputable def hs.c45 : Str := ⟨⟨[nat_lit 83, nat_lit 95, nat_lit 73, nat_lit 82, nat_lit 85, nat_lit 83, nat_lit 82]⟩⟩
noncomputable def hs.c46 : Str := ⟨⟨[nat_lit 83, nat_lit 95, nat_lit 73, nat_lit 87, nat_lit 85, nat_lit 83, nat_lit 82]⟩⟩
noncomputable def hs.c47 : Str := ⟨⟨[nat_lit 83, nat_lit 95, nat_lit 73, nat_lit 88, nat_lit 85, nat_lit 83, nat_lit 82]⟩⟩
noncomputable def hs.c48 : Str := ⟨⟨[nat_lit 83, nat_lit 95, nat_lit 73, nat_lit 82, nat_lit 71, nat_lit 82, nat_lit 80]⟩⟩
noncomputable def hs.c49 : Str := ⟨⟨[nat_lit 83, nat_lit 95, nat_lit 73, nat_lit 87, nat_lit 71, nat_lit 82, nat_lit 80]⟩⟩
noncomputable def hs.c50 : Str := ⟨⟨[nat_lit 83, nat_lit 95, nat_lit 73, nat_lit 88, nat_lit 71, nat_lit 82, nat_lit 80]⟩⟩
noncomputable def hs.c51 : Str := ⟨⟨[nat_lit 83, nat_lit 95, nat_lit 73, nat_lit 82, nat_lit 79, nat_lit 84, nat_lit 72]⟩⟩
noncomputable def hs.c52 : Str := ⟨⟨[nat_lit 83, nat_lit 95, nat_lit 73, nat_lit 87, nat_lit 79, nat_lit 84, nat_lit 72]⟩⟩
noncomputable def hs.c53 : Str := ⟨⟨[nat_lit 83, nat_lit 95, nat_lit 73, nat_lit 88, nat_lit 79, nat_lit 84, nat_lit 72]⟩⟩
noncomputable def hs.c54 : Str := ⟨⟨[nat_lit 95, nat_lit 102, nat_lit 105, nat_lit 108, nat_lit 101, nat_lit 109, nat_lit 111, nat_lit 100, nat_lit 101, nat_lit 95, nat_lit 116, nat_lit 97, nat_lit 98, nat_lit 108, nat_lit 101]⟩⟩
noncomputable def hs.c55 : Str := ⟨⟨[nat_lit 102, nat_lit 105, nat_lit 108, nat_lit 101, nat_lit 109, nat_lit 111, nat_lit 100, nat_lit 101]⟩⟩
noncomputable def hs.c56 : Str := ⟨⟨[nat_lit 95, nat_lit 116, nat_lit 119, nat_lit 105, nat_lit 110, nat_lit 95, nat_lit 114, nat_lit 101, nat_lit 95, nat_lit 49]⟩⟩
noncomputable def hs.c57 : Str := ⟨⟨[nat_lit 109, nat_lit 111, nat_lit 100, nat_lit 101]⟩⟩
noncomputable def hs.c58 : Str := ⟨⟨[nat_lit 61, nat_lit 48, nat_lit 48]⟩⟩
noncomputable def hs.c59 : Str := ⟨⟨[nat_lit 61, nat_lit 48, nat_lit 49]⟩⟩
noncomputable def hs.c60 : Str := ⟨⟨[nat_lit 61, nat_lit 48, nat_lit 50]⟩⟩
noncomputable def hs.c61 : Str := ⟨⟨[nat_lit 61, nat_lit 48, nat_lit 51]⟩⟩
noncomputable def hs.c62 : Str := ⟨⟨[nat_lit 61, nat_lit 48, nat_lit 52]⟩⟩
noncomputable def hs.c63 : Str := ⟨⟨[nat_lit 61, nat_lit 48, nat_lit 53]⟩⟩
noncomputable def hs.c64 : Str := ⟨⟨[nat_lit 61, nat_lit 48, nat_lit 54]⟩⟩
noncomputable def hs.c65 : Str := ⟨⟨[nat_lit 61, nat_lit 48, nat_lit 55]⟩⟩
noncomputable def hs.c66 : Str := ⟨⟨[nat_lit 61, nat_lit 48, nat_lit 56]⟩⟩
noncomputable def hs.c67 : Str := ⟨⟨[nat_lit 61, nat_lit 48, nat_lit 57]⟩⟩
noncomputable def hs.c68 : Str := ⟨⟨[nat_lit 61, nat_lit 48, nat_lit 65]⟩⟩
noncomputable def hs.c69 : Str := ⟨⟨[nat_lit 61, nat_lit 48, nat_lit 66]⟩⟩
noncomputable def hs.c70 : Str := ⟨⟨[nat_lit 61, nat_lit 48, nat_lit 67]⟩⟩
noncomputable def hs.c71 : Str := ⟨⟨[nat_lit 61, nat_lit 48, nat_lit 68]⟩⟩
noncomputable def hs.c72 : Str := ⟨⟨[nat_lit 61, nat_lit 48, nat_lit 69]⟩⟩
noncomputable def hs.c73 : Str := ⟨⟨[nat_lit 61, nat_lit 48, nat_lit 70]⟩⟩
noncomputable def hs.c74 : Str := ⟨⟨[nat_lit 61, nat_lit 49, nat_lit 48]⟩⟩
noncomputable def hs.c75 : Str := ⟨⟨[nat_lit 61, nat_lit 49, nat_lit 49]⟩⟩
noncomputable def hs.c76 : Str := ⟨⟨[nat_lit 61, nat_lit 49, nat_lit 50]⟩⟩
noncomputable def hs.c77 : Str := ⟨⟨[nat_lit 61, nat_lit 49, nat_lit 51]⟩⟩
noncomputable def hs.c78 : Str := ⟨⟨[nat_lit 61, nat_lit 49, nat_lit 52]⟩⟩
noncomputable def hs.c79 : Str := ⟨⟨[nat_lit 61, nat_lit 49, nat_lit 53]⟩⟩
noncomputable def hs.c80 : Str := ⟨⟨[nat_lit 61, nat_lit 49, nat_lit 54]⟩⟩
noncomputable def hs.c81 : Str := ⟨⟨[nat_lit 61, nat_lit 49, nat_lit 55]⟩⟩
noncomputable def hs.c82 : Str := ⟨⟨[nat_lit 61, nat_lit 49, nat_lit 56]⟩⟩
noncomputable def hs.c83 : Str := ⟨⟨[nat_lit 61, nat_lit 49, nat_lit 57]⟩⟩
noncomputable def hs.c84 : Str := ⟨⟨[nat_lit 61, nat_lit 49, nat_lit 65]⟩⟩
noncomputable def hs.c85 : Str := ⟨⟨[nat_lit 61, nat_lit 49, nat_lit 66]⟩⟩
noncomputable def hs.c86 : Str := ⟨⟨[nat_lit 61, nat_lit 49, nat_lit 67]⟩⟩
noncomputable def hs.c87 : Str := ⟨⟨[nat_lit 61, nat_lit 49, nat_lit 68]⟩⟩
noncomputable def hs.c88 : Str := ⟨⟨[nat_lit 61, nat_lit 49, nat_lit 69]⟩⟩
noncomputable def hs.c89 : Str := ⟨⟨[nat_lit 61, nat_lit 49, nat_lit 70]⟩⟩
noncomputable def hs.c90 : Str := ⟨⟨[nat_lit 61, nat_lit 50, nat_lit 48]⟩⟩
noncomputable def hs.c91 : Str := ⟨⟨[nat_lit 61, nat_lit 50, nat_lit 49]⟩⟩
noncomputable def hs.c92 : Str := ⟨⟨[nat_lit 61, nat_lit 50, nat_lit 50]⟩⟩
noncomputable def hs.c93 : Str := ⟨⟨[nat_lit 61, nat_lit 50, nat_lit 51]⟩⟩
noncomputable def hs.c94 : Str := ⟨⟨[nat_lit 61, nat_lit 50, nat_lit 52]⟩⟩
noncomputable def hs.c95 : Str := ⟨⟨[nat_lit 61, nat_lit 50, nat_lit 53]⟩⟩
noncomputable def hs.c96 : Str := ⟨⟨[nat_lit 61, nat_lit 50, nat_lit 54]⟩⟩
noncomputable def hs.c97 : Str := ⟨⟨[nat_lit 61, nat_lit 50, nat_lit 55]⟩⟩
noncomputable def hs.c98 : Str := ⟨⟨[nat_lit 61, nat_lit 50, nat_lit 56]⟩⟩
noncomputable def hs.c99 : Str := ⟨⟨[nat_lit 61, nat_lit 50, nat_lit 57]⟩⟩
noncomputable def hs.c100 : Str := ⟨⟨[nat_lit 61, nat_lit 50, nat_lit 65]⟩⟩
noncomputable def hs.c101 : Str := ⟨⟨[nat_lit 61, nat_lit 50, nat_lit 66]⟩⟩
noncomputable def hs.c102 : Str := ⟨⟨[nat_lit 61, nat_lit 50, nat_lit 67]⟩⟩
noncomputable def hs.c103 : Str := ⟨⟨[nat_lit 61, nat_lit 50, nat_lit 68]⟩⟩
noncomputable def hs.c104 : Str := ⟨⟨[nat_lit 61, nat_lit 50, nat_lit 69]⟩⟩
noncomputable def hs.c105 : Str := ⟨⟨[nat_lit 61, nat_lit 50, nat_lit 70]⟩⟩
noncomputable def hs.c106 : Str := ⟨⟨[nat_lit 61, nat_lit 51, nat_lit 48]⟩⟩
noncomputable def hs.c107 : Str := ⟨⟨[nat_lit 61, nat_lit 51, nat_lit 49]⟩⟩
noncomputable def hs.c108 : Str := ⟨⟨[nat_lit 61, nat_lit 51, nat_lit 50]⟩⟩
noncomputable def hs.c109 : Str := ⟨⟨[nat_lit 61, nat_lit 51, nat_lit 51]⟩⟩
noncomputable def hs.c110 : Str := ⟨⟨[nat_lit 61, nat_lit 51, nat_lit 52]⟩⟩
noncomputable def hs.c111 : Str := ⟨⟨[nat_lit 61, nat_lit 51, nat_lit 53]⟩⟩
noncomputable def hs.c112 : Str := ⟨⟨[nat_lit 61, nat_lit 51, nat_lit 54]⟩⟩
noncomputable def hs.c113 : Str := ⟨⟨[nat_lit 61, nat_lit 51, nat_lit 55]⟩⟩
noncomputable def hs.c114 : Str := ⟨⟨[nat_lit 61, nat_lit 51, nat_lit 56]⟩⟩
noncomputable def hs.c115 : Str := ⟨⟨[nat_lit 61, nat_lit 51, nat_lit 57]⟩⟩
noncomputable def hs.c116 : Str := ⟨⟨[nat_lit 61, nat_lit 51, nat_lit 65]⟩⟩
noncomputable def hs.c117 : Str := ⟨⟨[nat_lit 61, nat_lit 51, nat_lit 66]⟩⟩
noncomputable def hs.c118 : Str := ⟨⟨[nat_lit 61, nat_lit 51, nat_lit 67]⟩⟩
noncomputable def hs.c119 : Str := ⟨⟨[nat_lit 61, nat_lit 51, nat_lit 68]⟩⟩
noncomputable def hs.c120 : Str := ⟨⟨[nat_lit 61, nat_lit 51, nat_lit 69]⟩⟩
noncomputable def hs.c121 : Str := ⟨⟨[nat_lit 61, nat_lit 51, nat_lit 70]⟩⟩
noncomputable def hs.c122 : Str := ⟨⟨[nat_lit 61, nat_lit 52, nat_lit 48]⟩⟩
noncomputable def hs.c123 : Str := ⟨⟨[nat_lit 61, nat_lit 52, nat_lit 49]⟩⟩
noncomputable def hs.c124 : Str := ⟨⟨[nat_lit 61, nat_lit 52, nat_lit 50]⟩⟩
noncomputable def hs.c125 : Str := ⟨⟨[nat_lit 61, nat_lit 52, nat_lit 51]⟩⟩
noncomputable def hs.c126 : Str := ⟨⟨[nat_lit 61, nat_lit 52, nat_lit 52]⟩⟩
noncomputable def hs.c127 : Str := ⟨⟨[nat_lit 61, nat_lit 52, nat_lit 53]⟩⟩
noncomputable def hs.c128 : Str := ⟨⟨[nat_lit 61, nat_lit 52, nat_lit 54]⟩⟩
noncomputable def hs.c129 : Str := ⟨⟨[nat_lit 61, nat_lit 52, nat_lit 55]⟩⟩
noncomputable def hs.c130 : Str := ⟨⟨[nat_lit 61, nat_lit 52, nat_lit 56]⟩⟩
noncomputable def hs.c131 : Str := ⟨⟨[nat_lit 61, nat_lit 52, nat_lit 57]⟩⟩
noncomputable def hs.c132 : Str := ⟨⟨[nat_lit 61, nat_lit 52, nat_lit 65]⟩⟩
noncomputable def hs.c133 : Str := ⟨⟨[nat_lit 61, nat_lit 52, nat_lit 66]⟩⟩
noncomputable def hs.c134 : Str := ⟨⟨[nat_lit 61, nat_lit 52, nat_lit 67]⟩⟩
noncomputable def hs.c135 : Str := ⟨⟨[nat_lit 61, nat_lit 52, nat_lit 68]⟩⟩
noncomputable def hs.c136 : Str := ⟨⟨[nat_lit 61, nat_lit 52, nat_lit 69]⟩⟩
noncomputable def hs.c137 : Str := ⟨⟨[nat_lit 61, nat_lit 52, nat_lit 70]⟩⟩
noncomputable def hs.c138 : Str := ⟨⟨[nat_lit 61, nat_lit 53, nat_lit 48]⟩⟩
noncomputable def hs.c139 : Str := ⟨⟨[nat_lit 61, nat_lit 53, nat_lit 49]⟩⟩
noncomputable def hs.c140 : Str := ⟨⟨[nat_lit 61, nat_lit 53, nat_lit 50]⟩⟩
noncomputable def hs.c141 : Str := ⟨⟨[nat_lit 61, nat_lit 53, nat_lit 51]⟩⟩
noncomputable def hs.c142 : Str := ⟨⟨[nat_lit 61, nat_lit 53, nat_lit 52]⟩⟩
noncomputable def hs.c143 : Str := ⟨⟨[nat_lit 61, nat_lit 53, nat_lit 53]⟩⟩
noncomputable def hs.c144 : Str := ⟨⟨[nat_lit 61, nat_lit 53, nat_lit 54]⟩⟩
noncomputable def hs.c145 : Str := ⟨⟨[nat_lit 61, nat_lit 53, nat_lit 55]⟩⟩
noncomputable def hs.c146 : Str := ⟨⟨[nat_lit 61, nat_lit 53, nat_lit 56]⟩⟩
noncomputable def hs.c147 : Str := ⟨⟨[nat_lit 61, nat_lit 53, nat_lit 57]⟩⟩
noncomputable def hs.c148 : Str := ⟨⟨[nat_lit 61, nat_lit 53, nat_lit 65]⟩⟩
noncomputable def hs.c149 : Str := ⟨⟨[nat_lit 61, nat_lit 53, nat_lit 66]⟩⟩
noncomputable def hs.c150 : Str := ⟨⟨[nat_lit 61, nat_lit 53, nat_lit 67]⟩⟩
noncomputable def hs.c151 : Str := ⟨⟨[nat_lit 61, nat_lit 53, nat_lit 68]⟩⟩
noncomputable def hs.c152 : Str := ⟨⟨[nat_lit 61, nat_lit 53, nat_lit 69]⟩⟩
noncomputable def hs.c153 : Str := ⟨⟨[nat_lit 61, nat_lit 53, nat_lit 70]⟩⟩
noncomputable def hs.c154 : Str := ⟨⟨[nat_lit 61, nat_lit 54, nat_lit 48]⟩⟩
noncomputable def hs.c155 : Str := ⟨⟨[nat_lit 61, nat_lit 54, nat_lit 49]⟩⟩
noncomputable def hs.c156 : Str := ⟨⟨[nat_lit 61, nat_lit 54, nat_lit 50]⟩⟩
noncomputable def hs.c157 : Str := ⟨⟨[nat_lit 61, nat_lit 54, nat_lit 51]⟩⟩
noncomputable def hs.c158 : Str := ⟨⟨[nat_lit 61, nat_lit 54, nat_lit 52]⟩⟩
noncomputable def hs.c159 : Str := ⟨⟨[nat_lit 61, nat_lit 54, nat_lit 53]⟩⟩
noncomputable def hs.c160 : Str := ⟨⟨[nat_lit 61, nat_lit 54, nat_lit 54]⟩⟩
noncomputable def hs.c161 : Str := ⟨⟨[nat_lit 61, nat_lit 54, nat_lit 55]⟩⟩
noncomputable def hs.c162 : Str := ⟨⟨[nat_lit 61, nat_lit 54, nat_lit 56]⟩⟩
noncomputable def hs.c163 : Str := ⟨⟨[nat_lit 61, nat_lit 54, nat_lit 57]⟩⟩
noncomputable def hs.c164 : Str := ⟨⟨[nat_lit 61, nat_lit 54, nat_lit 65]⟩⟩
noncomputable def hs.c165 : Str := ⟨⟨[nat_lit 61, nat_lit 54, nat_lit 66]⟩⟩
noncomputable def hs.c166 : Str := ⟨⟨[nat_lit 61, nat_lit 54, nat_lit 67]⟩⟩
noncomputable def hs.c167 : Str := ⟨⟨[nat_lit 61, nat_lit 54, nat_lit 68]⟩⟩
noncomputable def hs.c168 : Str := ⟨⟨[nat_lit 61, nat_lit 54, nat_lit 69]⟩⟩
noncomputable def hs.c169 : Str := ⟨⟨[nat_lit 61, nat_lit 54, nat_lit 70]⟩⟩
noncomputable def hs.c170 : Str := ⟨⟨[nat_lit 61, nat_lit 55, nat_lit 48]⟩⟩
noncomputable def hs.c171 : Str := ⟨⟨[nat_lit 61, nat_lit 55, nat_lit 49]⟩⟩
noncomputable def hs.c172 : Str := ⟨⟨[nat_lit 61, nat_lit 55, nat_lit 50]⟩⟩
noncomputable def hs.c173 : Str := ⟨⟨[nat_lit 61, nat_lit 55, nat_lit 51]⟩⟩
noncomputable def hs.c174 : Str := ⟨⟨[nat_lit 61, nat_lit 55, nat_lit 52]⟩⟩
noncomputable def hs.c175 : Str := ⟨⟨[nat_lit 61, nat_lit 55, nat_lit 53]⟩⟩
noncomputable def hs.c176 : Str := ⟨⟨[nat_lit 61, nat_lit 55, nat_lit 54]⟩⟩
noncomputable def hs.c177 : Str := ⟨⟨[nat_lit 61, nat_lit 55, nat_lit 55]⟩⟩
noncomputable def hs.c178 : Str := ⟨⟨[nat_lit 61, nat_lit 55, nat_lit 56]⟩⟩
noncomputable def hs.c179 : Str := ⟨⟨[nat_lit 61, nat_lit 55, nat_lit 57]⟩⟩
noncomputable def hs.c180 : Str := ⟨⟨[nat_lit 61, nat_lit 55, nat_lit 65]⟩⟩
noncomputable def hs.c181 : Str := ⟨⟨[nat_lit 61, nat_lit 55, nat_lit 66]⟩⟩
noncomputable def hs.c182 : Str := ⟨⟨[nat_lit 61, nat_lit 55, nat_lit 67]⟩⟩
noncomputable def hs.c183 : Str := ⟨⟨[nat_lit 61, nat_lit 55, nat_lit 68]⟩⟩
noncomputable def hs.c184 : Str := ⟨⟨[nat_lit 61, nat_lit 55, nat_lit 69]⟩⟩
noncomputable def hs.c185 : Str := ⟨⟨[nat_lit 61, nat_lit 55, nat_lit 70]⟩⟩
noncomputable def hs.c186 : Str := ⟨⟨[nat_lit 61, nat_lit 56, nat_lit 48]⟩⟩
noncomputable def hs.c187 : Str := ⟨⟨[nat_lit 61, nat_lit 56, nat_lit 49]⟩⟩
noncomputable def hs.c188 : Str := ⟨⟨[nat_lit 61, nat_lit 56, nat_lit 50]⟩⟩
noncomputable def hs.c189 : Str := ⟨⟨[nat_lit 61, nat_lit 56, nat_lit 51]⟩⟩
noncomputable def hs.c190 : Str := ⟨⟨[nat_lit 61, nat_lit 56, nat_lit 52]⟩⟩
noncomputable def hs.c191 : Str := ⟨⟨[nat_lit 61, nat_lit 56, nat_lit 53]⟩⟩
noncomputable def hs.c192 : Str := ⟨⟨[nat_lit 61, nat_lit 56, nat_lit 54]⟩⟩
noncomputable def hs.c193 : Str := ⟨⟨[nat_lit 61, nat_lit 56, nat_lit 55]⟩⟩
noncomputable def hs.c194 : Str := ⟨⟨[nat_lit 61, nat_lit 56, nat_lit 56]⟩⟩
noncomputable def hs.c195 : Str := ⟨⟨[nat_lit 61, nat_lit 56, nat_lit 57]⟩⟩
noncomputable def hs.c196 : Str := ⟨⟨[nat_lit 61, nat_lit 56, nat_lit 65]⟩⟩
noncomputable def hs.c197 : Str := ⟨⟨[nat_lit 61, nat_lit 56, nat_lit 66]⟩⟩
noncomputable def hs.c198 : Str := ⟨⟨[nat_lit 61, nat_lit 56, nat_lit 67]⟩⟩
noncomputable def hs.c199 : Str := ⟨⟨[nat_lit 61, nat_lit 56, nat_lit 68]⟩⟩
noncomputable def hs.c200 : Str := ⟨⟨[nat_lit 61, nat_lit 56, nat_lit 69]⟩⟩
noncomputable def hs.c201 : Str := ⟨⟨[nat_lit 61, nat_lit 56, nat_lit 70]⟩⟩
noncomputable def hs.c202 : Str := ⟨⟨[nat_lit 61, nat_lit 57, nat_lit 48]⟩⟩
noncomputable def hs.c203 : Str := ⟨⟨[nat_lit 61, nat_lit 57, nat_lit 49]⟩⟩
noncomputable def hs.c204 : Str := ⟨⟨[nat_lit 61, nat_lit 57, nat_lit 50]⟩⟩
noncomputable def hs.c205 : Str := ⟨⟨[nat_lit 61, nat_lit 57, nat_lit 51]⟩⟩
noncomputable def hs.c206 : Str := ⟨⟨[nat_lit 61, nat_lit 57, nat_lit 52]⟩⟩
noncomputable def hs.c207 : Str := ⟨⟨[nat_lit 61, nat_lit 57, nat_lit 53]⟩⟩
noncomputable def hs.c208 : Str := ⟨⟨[nat_lit 61, nat_lit 57, nat_lit 54]⟩⟩
noncomputable def hs.c209 : Str := ⟨⟨[nat_lit 61, nat_lit 57, nat_lit 55]⟩⟩
noncomputable def hs.c210 : Str := ⟨⟨[nat_lit 61, nat_lit 57, nat_lit 56]⟩⟩
noncomputable def hs.c211 : Str := ⟨⟨[nat_lit 61, nat_lit 57, nat_lit 57]⟩⟩
noncomputable def hs.c212 : Str := ⟨⟨[nat_lit 61, nat_lit 57, nat_lit 65]⟩⟩
noncomputable def hs.c213 : Str := ⟨⟨[nat_lit 61, nat_lit 57, nat_lit 66]⟩⟩
noncomputable def hs.c214 : Str := ⟨⟨[nat_lit 61, nat_lit 57, nat_lit 67]⟩⟩
noncomputable def hs.c215 : Str := ⟨⟨[nat_lit 61, nat_lit 57, nat_lit 68]⟩⟩
noncomputable def hs.c216 : Str := ⟨⟨[nat_lit 61, nat_lit 57, nat_lit 69]⟩⟩
noncomputable def hs.c217 : Str := ⟨⟨[nat_lit 61, nat_lit 57, nat_lit 70]⟩⟩
noncomputable def hs.c218 : Str := ⟨⟨[nat_lit 61, nat_lit 65, nat_lit 48]⟩⟩
noncomputable def hs.c219 : Str := ⟨⟨[nat_lit 61, nat_lit 65, nat_lit 49]⟩⟩
noncomputable def hs.c220 : Str := ⟨⟨[nat_lit 61, nat_lit 65, nat_lit 50]⟩⟩
noncomputable def hs.c221 : Str := ⟨⟨[nat_lit 61, nat_lit 65, nat_lit 51]⟩⟩
noncomputable def hs.c222 : Str := ⟨⟨[nat_lit 61, nat_lit 65, nat_lit 52]⟩⟩
noncomputable def hs.c223 : Str := ⟨⟨[nat_lit 61, nat_lit 65, nat_lit 53]⟩⟩
noncomputable def hs.c224 : Str := ⟨⟨[nat_lit 61, nat_lit 65, nat_lit 54]⟩⟩
noncomputable def hs.c225 : Str := ⟨⟨[nat_lit 61, nat_lit 65, nat_lit 55]⟩⟩
noncomputable def hs.c226 : Str := ⟨⟨[nat_lit 61, nat_lit 65, nat_lit 56]⟩⟩
noncomputable def hs.c227 : Str := ⟨⟨[nat_lit 61, nat_lit 65, nat_lit 57]⟩⟩
noncomputable def hs.c228 : Str := ⟨⟨[nat_lit 61, nat_lit 65, nat_lit 65]⟩⟩
noncomputable def hs.c229 : Str := ⟨⟨[nat_lit 61, nat_lit 65, nat_lit 66]⟩⟩
noncomputable def hs.c230 : Str := ⟨⟨[nat_lit 61, nat_lit 65, nat_lit 67]⟩⟩
noncomputable def hs.c231 : Str := ⟨⟨[nat_lit 61, nat_lit 65, nat_lit 68]⟩⟩
noncomputable def hs.c232 : Str := ⟨⟨[nat_lit 61, nat_lit 65, nat_lit 69]⟩⟩
noncomputable def hs.c233 : Str := ⟨⟨[nat_lit 61, nat_lit 65, nat_lit 70]⟩⟩
noncomputable def hs.c234 : Str := ⟨⟨[nat_lit 61, nat_lit 66, nat_lit 48]⟩⟩
noncomputable def hs.c235 : Str := ⟨⟨[nat_lit 61, nat_lit 66, nat_lit 49]⟩⟩
noncomputable def hs.c236 : Str := ⟨⟨[nat_lit 61, nat_lit 66, nat_lit 50]⟩⟩
noncomputable def hs.c237 : Str := ⟨⟨[nat_lit 61, nat_lit 66, nat_lit 51]⟩⟩
noncomputable def hs.c238 : Str := ⟨⟨[nat_lit 61, nat_lit 66, nat_lit 52]⟩⟩
noncomputable def hs.c239 : Str := ⟨⟨[nat_lit 61, nat_lit 66, nat_lit 53]⟩⟩
noncomputable def hs.c240 : Str := ⟨⟨[nat_lit 61, nat_lit 66, nat_lit 54]⟩⟩
noncomputable def hs.c241 : Str := ⟨⟨[nat_lit 61, nat_lit 66, nat_lit 55]⟩⟩
noncomputable def hs.c242 : Str := ⟨⟨[nat_lit 61, nat_lit 66, nat_lit 56]⟩⟩
noncomputable def hs.c243 : Str := ⟨⟨[nat_lit 61, nat_lit 66, nat_lit 57]⟩⟩
noncomputable def hs.c244 : Str := ⟨⟨[nat_lit 61, nat_lit 66, nat_lit 65]⟩⟩
noncomputable def hs.c245 : Str := ⟨⟨[nat_lit 61, nat_lit 66, nat_lit 66]⟩⟩
noncomputable def hs.c246 : Str := ⟨⟨[nat_lit 61, nat_lit 66, nat_lit 67]⟩⟩
noncomputable def hs.c247 : Str := ⟨⟨[nat_lit 61, nat_lit 66, nat_lit 68]⟩⟩
noncomputable def hs.c248 : Str := ⟨⟨[nat_lit 61, nat_lit 66, nat_lit 69]⟩⟩
noncomputable def hs.c249 : Str := ⟨⟨[nat_lit 61, nat_lit 66, nat_lit 70]⟩⟩
noncomputable def hs.c250 : Str := ⟨⟨[nat_lit 61, nat_lit 67, nat_lit 48]⟩⟩
noncomputable def hs.c251 : Str := ⟨⟨[nat_lit 61, nat_lit 67, nat_lit 49]⟩⟩
noncomputable def hs.c252 : Str := ⟨⟨[nat_lit 61, nat_lit 67, nat_lit 50]⟩⟩
noncomputable def hs.c253 : Str := ⟨⟨[nat_lit 61, nat_lit 67, nat_lit 51]⟩⟩
noncomputable def hs.c254 : Str := ⟨⟨[nat_lit 61, nat_lit 67, nat_lit 52]⟩⟩
noncomputable def hs.c255 : Str := ⟨⟨[nat_lit 61, nat_lit 67, nat_lit 53]⟩⟩
noncomputable def hs.c256 : Str := ⟨⟨[nat_lit 61, nat_lit 67, nat_lit 54]⟩⟩
noncomputable def hs.c257 : Str := ⟨⟨[nat_lit 61, nat_lit 67, nat_lit 55]⟩⟩
noncomputable def hs.c258 : Str := ⟨⟨[nat_lit 61, nat_lit 67, nat_lit 56]⟩⟩
noncomputable def hs.c259 : Str := ⟨⟨[nat_lit 61, nat_lit 67, nat_lit 57]⟩⟩
noncomputable def hs.c260 : Str := ⟨⟨[nat_lit 61, nat_lit 67, nat_lit 65]⟩⟩
noncomputable def hs.c261 : Str := ⟨⟨[nat_lit 61, nat_lit 67, nat_lit 66]⟩⟩
noncomputable def hs.c262 : Str := ⟨⟨[nat_lit 61, nat_lit 67, nat_lit 67]⟩⟩
noncomputable def hs.c263 : Str := ⟨⟨[nat_lit 61, nat_lit 67, nat_lit 68]⟩⟩
noncomputable def hs.c264 : Str := ⟨⟨[nat_lit 61, nat_lit 67, nat_lit 69]⟩⟩
noncomputable def hs.c265 : Str := ⟨⟨[nat_lit 61, nat_lit 67, nat_lit 70]⟩⟩
noncomputable def hs.c266 : Str := ⟨⟨[nat_lit 61, nat_lit 68, nat_lit 48]⟩⟩
noncomputable def hs.c267 : Str := ⟨⟨[nat_lit 61, nat_lit 68, nat_lit 49]⟩⟩
noncomputable def hs.c268 : Str := ⟨⟨[nat_lit 61, nat_lit 68, nat_lit 50]⟩⟩
noncomputable def hs.c269 : Str := ⟨⟨[nat_lit 61, nat_lit 68, nat_lit 51]⟩⟩
noncomputable def hs.c270 : Str := ⟨⟨[nat_lit 61, nat_lit 68, nat_lit 52]⟩⟩
noncomputable def hs.c271 : Str := ⟨⟨[nat_lit 61, nat_lit 68, nat_lit 53]⟩⟩
noncomputable def hs.c272 : Str := ⟨⟨[nat_lit 61, nat_lit 68, nat_lit 54]⟩⟩
noncomputable def hs.c273 : Str := ⟨⟨[nat_lit 61, nat_lit 68, nat_lit 55]⟩⟩
noncomputable def hs.c274 : Str := ⟨⟨[nat_lit 61, nat_lit 68, nat_lit 56]⟩⟩
noncomputable def hs.c275 : Str := ⟨⟨[nat_lit 61, nat_lit 68, nat_lit 57]⟩⟩
noncomputable def hs.c276 : Str := ⟨⟨[nat_lit 61, nat_lit 68, nat_lit 65]⟩⟩
noncomputable def hs.c277 : Str := ⟨⟨[nat_lit 61, nat_lit 68, nat_lit 66]⟩⟩
noncomputable def hs.c278 : Str := ⟨⟨[nat_lit 61, nat_lit 68, nat_lit 67]⟩⟩
noncomputable def hs.c279 : Str := ⟨⟨[nat_lit 61, nat_lit 68, nat_lit 68]⟩⟩
noncomputable def hs.c280 : Str := ⟨⟨[nat_lit 61, nat_lit 68, nat_lit 69]⟩⟩
noncomputable def hs.c281 : Str := ⟨⟨[nat_lit 61, nat_lit 68, nat_lit 70]⟩⟩
noncomputable def hs.c282 : Str := ⟨⟨[nat_lit 61, nat_lit 69, nat_lit 48]⟩⟩
noncomputable def hs.c283 : Str := ⟨⟨[nat_lit 61, nat_lit 69, nat_lit 49]⟩⟩
noncomputable def hs.c284 : Str := ⟨⟨[nat_lit 61, nat_lit 69, nat_lit 50]⟩⟩
noncomputable def hs.c285 : Str := ⟨⟨[nat_lit 61, nat_lit 69, nat_lit 51]⟩⟩
noncomputable def hs.c286 : Str := ⟨⟨[nat_lit 61, nat_lit 69, nat_lit 52]⟩⟩
noncomputable def hs.c287 : Str := ⟨⟨[nat_lit 61, nat_lit 69, nat_lit 53]⟩⟩
noncomputable def hs.c288 : Str := ⟨⟨[nat_lit 61, nat_lit 69, nat_lit 54]⟩⟩
noncomputable def hs.c289 : Str := ⟨⟨[nat_lit 61, nat_lit 69, nat_lit 55]⟩⟩
noncomputable def hs.c290 : Str := ⟨⟨[nat_lit 61, nat_lit 69, nat_lit 56]⟩⟩
noncomputable def hs.c291 : Str := ⟨⟨[nat_lit 61, nat_lit 69, nat_lit 57]⟩⟩
noncomputable def hs.c292 : Str := ⟨⟨[nat_lit 61, nat_lit 69, nat_lit 65]⟩⟩
noncomputable def hs.c293 : Str := ⟨⟨[nat_lit 61, nat_lit 69, nat_lit 66]⟩⟩
noncomputable def hs.c294 : Str := ⟨⟨[nat_lit 61, nat_lit 69, nat_lit 67]⟩⟩
noncomputable def hs.c295 : Str := ⟨⟨[nat_lit 61, nat_lit 69, nat_lit 68]⟩⟩
noncomputable def hs.c296 : Str := ⟨⟨[nat_lit 61, nat_lit 69, nat_lit 69]⟩⟩
noncomputable def hs.c297 : Str := ⟨⟨[nat_lit 61, nat_lit 69, nat_lit 70]⟩⟩
noncomputable def hs.c298 : Str := ⟨⟨[nat_lit 61, nat_lit 70, nat_lit 48]⟩⟩
noncomputable def hs.c299 : Str := ⟨⟨[nat_lit 61, nat_lit 70, nat_lit 49]⟩⟩
noncomputable def hs.c300 : Str := ⟨⟨[nat_lit 61, nat_lit 70, nat_lit 50]⟩⟩
noncomputable def hs.c301 : Str := ⟨⟨[nat_lit 61, nat_lit 70, nat_lit 51]⟩⟩
noncomputable def hs.c302 : Str := ⟨⟨[nat_lit 61, nat_lit 70, nat_lit 52]⟩⟩
noncomputable def hs.c303 : Str := ⟨⟨[nat_lit 61, nat_lit 70, nat_lit 53]⟩⟩
noncomputable def hs.c304 : Str := ⟨⟨[nat_lit 61, nat_lit 70, nat_lit 54]⟩⟩
noncomputable def hs.c305 : Str := ⟨⟨[nat_lit 61, nat_lit 70, nat_lit 55]⟩⟩
noncomputable def hs.c306 : Str := ⟨⟨[nat_lit 61, nat_lit 70, nat_lit 56]⟩⟩
noncomputable def hs.c307 : Str := ⟨⟨[nat_lit 61, nat_lit 70, nat_lit 57]⟩⟩
noncomputable def hs.c308 : Str := ⟨⟨[nat_lit 61, nat_lit 70, nat_lit 65]⟩⟩
noncomputable def hs.c309 : Str := ⟨⟨[nat_lit 61, nat_lit 70, nat_lit 66]⟩⟩
noncomputable def hs.c310 : Str := ⟨⟨[nat_lit 61, nat_lit 70, nat_lit 67]⟩⟩
noncomputable def hs.c311 : Str := ⟨⟨[nat_lit 61, nat_lit 70, nat_lit 68]⟩⟩
noncomputable def hs.c312 : Str := ⟨⟨[nat_lit 61, nat_lit 70, nat_lit 69]⟩⟩
noncomputable def hs.c313 : Str := ⟨⟨[nat_lit 61, nat_lit 70, nat_lit 70]⟩⟩
noncomputable def hs.c314 : Str := ⟨⟨[nat_lit 95, nat_lit 81, nat_lit 85, nat_lit 79, nat_lit 80, nat_lit 82, nat_lit 73, nat_lit 95, nat_lit 77, nat_lit 65, nat_lit 80]⟩⟩
noncomputable def hs.c315 : Str := ⟨⟨[nat_lit 99, nat_lit 112, nat_lit 121, nat_lit 51, nat_lit 49, nat_lit 51, nat_lit 46, nat_lit 101, nat_lit 109, nat_lit 97, nat_lit 105, nat_lit 108, nat_lit 46, nat_lit 113, nat_lit 117, nat_lit 111, nat_lit 112, nat_lit 114, nat_lit 105, nat_lit 109, nat_lit 105, nat_lit 109, nat_lit 101]⟩⟩
noncomputable def hs.c316 : Str := ⟨⟨[nat_lit 95, nat_lit 81, nat_lit 85, nat_lit 79, nat_lit 80, nat_lit 82, nat_lit 73, nat_lit 95, nat_lit 72, nat_lit 69, nat_lit 65, nat_lit 68, nat_lit 69, nat_lit 82, nat_lit 95, nat_lit 77, nat_lit 65, nat_lit 80]⟩⟩
noncomputable def hs.c317 : Str := ⟨⟨[nat_lit 95, nat_lit 81, nat_lit 85, nat_lit 79, nat_lit 80, nat_lit 82, nat_lit 73, nat_lit 95, nat_lit 66, nat_lit 79, nat_lit 68, nat_lit 89, nat_lit 95, nat_lit 77, nat_lit 65, nat_lit 80]⟩⟩
noncomputable def hs.c318 : Str := ⟨⟨[nat_lit 97, nat_lit 115, nat_lit 99, nat_lit 105, nat_lit 105, nat_lit 95, nat_lit 108, nat_lit 111, nat_lit 119, nat_lit 101, nat_lit 114, nat_lit 99, nat_lit 97, nat_lit 115, nat_lit 101]⟩⟩
noncomputable def hs.c319 : Str := ⟨⟨[nat_lit 97, nat_lit 98, nat_lit 99, nat_lit 100, nat_lit 101, nat_lit 102, nat_lit 103, nat_lit 104, nat_lit 105, nat_lit 106, nat_lit 107, nat_lit 108, nat_lit 109, nat_lit 110, nat_lit 111, nat_lit 112, nat_lit 113, nat_lit 114, nat_lit 115, nat_lit 116, nat_lit 117, nat_lit 118, nat_lit 119, nat_lit 120, nat_lit 121, nat_lit 122]⟩⟩
noncomputable def hs.c320 : Str := ⟨⟨[nat_lit 97, nat_lit 115, nat_lit 99, nat_lit 105, nat_lit 105, nat_lit 95, nat_lit 117, nat_lit 112, nat_lit 112, nat_lit 101, nat_lit 114, nat_lit 99, nat_lit 97, nat_lit 115, nat_lit 101]⟩⟩
noncomputable def hs.c321 : Str := ⟨⟨[nat_lit 65, nat_lit 66, nat_lit 67, nat_lit 68, nat_lit 69, nat_lit 70, nat_lit 71, nat_lit 72, nat_lit 73, nat_lit 74, nat_lit 75, nat_lit 76, nat_lit 77, nat_lit 78, nat_lit 79, nat_lit 80, nat_lit 81, nat_lit 82, nat_lit 83, nat_lit 84, nat_lit 85, nat_lit 86, nat_lit 87, nat_lit 88, nat_lit 89, nat_lit 90]⟩⟩
noncomputable def hs.c322 : Str := ⟨⟨[nat_lit 97, nat_lit 115, nat_lit 99, nat_lit 105, nat_lit 105, nat_lit 95, nat_lit 108, nat_lit 101, nat_lit 116, nat_lit 116, nat_lit 101, nat_lit 114, nat_lit 115]⟩⟩
noncomputable def hs.c323 : Str := ⟨⟨[nat_lit 97, nat_lit 98, nat_lit 99, nat_lit 100, nat_lit 101, nat_lit 102, nat_lit 103, nat_lit 104, nat_lit 105, nat_lit 106, nat_lit 107, nat_lit 108, nat_lit 109, nat_lit 110, nat_lit 111, nat_lit 112, nat_lit 113, nat_lit 114, nat_lit 115, nat_lit 116, nat_lit 117, nat_lit 118, nat_lit 119, nat_lit 120, nat_lit 121, nat_lit 122, nat_lit 65, nat_lit 66, nat_lit 67, nat_lit 68, nat_lit 69, nat_lit 70, nat_lit 71, nat_lit 72, nat_lit 73, nat_lit 74, nat_lit 75, nat_lit 76, nat_lit 77, nat_lit 78, nat_lit 79, nat_lit 80, nat_lit 81, nat_lit 82, nat_lit 83, nat_lit 84, nat_lit 85, nat_lit 86, nat_lit 87, nat_lit 88, nat_lit 89, nat_lit 90]⟩⟩
noncomputable def hs.c324 : Str := ⟨⟨[nat_lit 100, nat_lit 105, nat_lit 103, nat_lit 105, nat_lit 116, nat_lit 115]⟩⟩
noncomputable def hs.c325 : Str := ⟨⟨[nat_lit 48, nat_lit 49, nat_lit 50, nat_lit 51, nat_lit 52, nat_lit 53, nat_lit 54, nat_lit 55, nat_lit 56, nat_lit 57]⟩⟩
noncomputable def hs.c326 : Str := ⟨⟨[nat_lit 104, nat_lit 101, nat_lit 120, nat_lit 100, nat_lit 105, nat_lit 103, nat_lit 105, nat_lit 116, nat_lit 115]⟩⟩
noncomputable def hs.c327 : Str := ⟨⟨[nat_lit 48, nat_lit 49, nat_lit 50, nat_lit 51, nat_lit 52, nat_lit 53, nat_lit 54, nat_lit 55, nat_lit 56, nat_lit 57, nat_lit 97, nat_lit 98, nat_lit 99, nat_lit 100, nat_lit 101, nat_lit 102, nat_lit 65, nat_lit 66, nat_lit 67, nat_lit 68, nat_lit 69, nat_lit 70]⟩⟩
noncomputable def hs.c328 : Str := ⟨⟨[nat_lit 117, nat_lit 110, nat_lit 113, nat_lit 117, nat_lit 111, nat_lit 116, nat_lit 101]⟩⟩
noncomputable def hs.c329 : Str := ⟨⟨[nat_lit 113, nat_lit 117, nat_lit 111, nat_lit 116, nat_lit 101]⟩⟩
noncomputable def hs.c330 : Str := ⟨⟨[nat_lit 104, nat_lit 101, nat_lit 97, nat_lit 100, nat_lit 101, nat_lit 114, nat_lit 95, nat_lit 101, nat_lit 110, nat_lit 99, nat_lit 111, nat_lit 100, nat_lit 101]⟩⟩
noncomputable def hs.c331 : Str := ⟨⟨[nat_lit 100, nat_lit 101, nat_lit 99, nat_lit 111, nat_lit 100, nat_lit 101]⟩⟩
noncomputable def hs.c332 : Str := ⟨⟨[nat_lit 95, nat_lit 117, nat_lit 110, nat_lit 113, nat_lit 117, nat_lit 111, nat_lit 116, nat_lit 101, nat_lit 95, nat_lit 109, nat_lit 97, nat_lit 116, nat_lit 99, nat_lit 104]⟩⟩
noncomputable def hs.c333 : Str := ⟨⟨[nat_lit 104, nat_lit 101, nat_lit 97, nat_lit 100, nat_lit 101, nat_lit 114, nat_lit 95, nat_lit 100, nat_lit 101, nat_lit 99, nat_lit 111, nat_lit 100, nat_lit 101]⟩⟩
noncomputable def hs.c334 : Str := ⟨⟨[nat_lit 95, nat_lit 108, nat_lit 97, nat_lit 119, nat_lit 95, nat_lit 114, nat_lit 111, nat_lit 119]⟩⟩
noncomputable def hs.c335 : Str := ⟨⟨[nat_lit 95, nat_lit 108, nat_lit 97, nat_lit 119, nat_lit 95, nat_lit 102, nat_lit 111, nat_lit 117, nat_lit 114]⟩⟩
noncomputable def hs.c336 : Str := ⟨⟨[nat_lit 108, nat_lit 97, nat_lit 119]⟩⟩
noncomputable def hs.c337 : Str := ⟨⟨[nat_lit 101, nat_lit 110, nat_lit 99, nat_lit 111, nat_lit 100, nat_lit 101, nat_lit 100]⟩⟩
noncomputable def hs.c338 : Str := ⟨⟨[nat_lit 114, nat_lit 111, nat_lit 119]⟩⟩
def de (P : Params) (s : Str) (t : Nat) (v : Value) : DictEntry := ⟨PyData.keyHash P s, .str s t, v⟩
def protoOf : Obj → Obj
  | ⟨_, _, .func ⟨a, b, c, d, e, _, _, _, _, _, _, _, _, _, _⟩, _⟩ => ⟨.none, none, .func ⟨a, b, c, d, e, nat_lit 0, [], .none, .none, .none, .none, none, .none, .none, nat_lit 0⟩, ⟨[]⟩⟩
  | o => o
def hs.life : Life := ⟨[], [], [], nat_lit 0, [], [], false, ⟨[]⟩, [], nat_lit 0, false, false, false, (.ofNat (nat_lit 0)), [(.ofNat (nat_lit 2000)), (.ofNat (nat_lit 10)), (.ofNat (nat_lit 10))], false, nat_lit 0, true, [], [], nat_lit 0, false⟩
noncomputable def hs.o0v0 (P : Params) : Obj := ⟨.type "dict", none, .dict ⟨[de P hs.c0 (nat_lit 1) (.str hs.c1 (nat_lit 160)), de P hs.c2 (nat_lit 2) (.builtin "builtins.__doc__:str#opaque"), de P hs.c3 (nat_lit 3) (.builtin "builtins.__package__:str#opaque"), de P hs.c4 (nat_lit 4) (.builtin "builtins.__loader__:shared#opaque"), de P hs.c5 (nat_lit 5) (.builtin "builtins.__spec__#opaque"), de P ⟨⟨[nat_lit 95, nat_lit 95, nat_lit 98, nat_lit 117, nat_lit 105, nat_lit 108, nat_lit 100, nat_lit 95, nat_lit 99, nat_lit 108, nat_lit 97, nat_lit 115, nat_lit 115, nat_lit 95, nat_lit 95]⟩⟩ (nat_lit 6) (.builtin "__build_class__"), de P ⟨⟨[nat_lit 95, nat_lit 95, nat_lit 105, nat_lit 109, nat_lit 112, nat_lit 111, nat_lit 114, nat_lit 116, nat_lit 95, nat_lit 95]⟩⟩ (nat_lit 7) (.builtin "__import__"), de P ⟨⟨[nat_lit 97, nat_lit 98, nat_lit 115]⟩⟩ (nat_lit 8) (.builtin "abs"), de P ⟨⟨[nat_lit 97, nat_lit 108, nat_lit 108]⟩⟩ (nat_lit 9) (.builtin "all"), de P ⟨⟨[nat_lit 97, nat_lit 110, nat_lit 121]⟩⟩ (nat_lit 10) (.builtin "any"), de P ⟨⟨[nat_lit 97, nat_lit 115, nat_lit 99, nat_lit 105, nat_lit 105]⟩⟩ (nat_lit 11) (.builtin "ascii"), de P ⟨⟨[nat_lit 98, nat_lit 105, nat_lit 110]⟩⟩ (nat_lit 12) (.builtin "bin"), de P ⟨⟨[nat_lit 98, nat_lit 114, nat_lit 101, nat_lit 97, nat_lit 107, nat_lit 112, nat_lit 111, nat_lit 105, nat_lit 110, nat_lit 116]⟩⟩ (nat_lit 13) (.builtin "breakpoint"), de P ⟨⟨[nat_lit 99, nat_lit 97, nat_lit 108, nat_lit 108, nat_lit 97, nat_lit 98, nat_lit 108, nat_lit 101]⟩⟩ (nat_lit 14) (.builtin "callable"), de P ⟨⟨[nat_lit 99, nat_lit 104, nat_lit 114]⟩⟩ (nat_lit 15) (.builtin "chr"), de P hs.c6 (nat_lit 16) (.builtin "compile"), de P ⟨⟨[nat_lit 100, nat_lit 101, nat_lit 108, nat_lit 97, nat_lit 116, nat_lit 116, nat_lit 114]⟩⟩ (nat_lit 17) (.builtin "delattr"), de P ⟨⟨[nat_lit 100, nat_lit 105, nat_lit 114]⟩⟩ (nat_lit 18) (.builtin "dir"), de P ⟨⟨[nat_lit 100, nat_lit 105, nat_lit 118, nat_lit 109, nat_lit 111, nat_lit 100]⟩⟩ (nat_lit 19) (.builtin "divmod"), de P ⟨⟨[nat_lit 101, nat_lit 118, nat_lit 97, nat_lit 108]⟩⟩ (nat_lit 20) (.builtin "eval"), de P ⟨⟨[nat_lit 101, nat_lit 120, nat_lit 101, nat_lit 99]⟩⟩ (nat_lit 21) (.builtin "exec"), de P ⟨⟨[nat_lit 102, nat_lit 111, nat_lit 114, nat_lit 109, nat_lit 97, nat_lit 116]⟩⟩ (nat_lit 22) (.builtin "format"), de P ⟨⟨[nat_lit 103, nat_lit 101, nat_lit 116, nat_lit 97, nat_lit 116, nat_lit 116, nat_lit 114]⟩⟩ (nat_lit 23) (.builtin "getattr"), de P ⟨⟨[nat_lit 103, nat_lit 108, nat_lit 111, nat_lit 98, nat_lit 97, nat_lit 108, nat_lit 115]⟩⟩ (nat_lit 24) (.builtin "globals"), de P ⟨⟨[nat_lit 104, nat_lit 97, nat_lit 115, nat_lit 97, nat_lit 116, nat_lit 116, nat_lit 114]⟩⟩ (nat_lit 25) (.builtin "hasattr"), de P ⟨⟨[nat_lit 104, nat_lit 97, nat_lit 115, nat_lit 104]⟩⟩ (nat_lit 26) (.builtin "hash"), de P ⟨⟨[nat_lit 104, nat_lit 101, nat_lit 120]⟩⟩ (nat_lit 27) (.builtin "hex"), de P ⟨⟨[nat_lit 105, nat_lit 100]⟩⟩ (nat_lit 28) (.builtin "id"), de P ⟨⟨[nat_lit 105, nat_lit 110, nat_lit 112, nat_lit 117, nat_lit 116]⟩⟩ (nat_lit 29) (.builtin "input"), de P ⟨⟨[nat_lit 105, nat_lit 115, nat_lit 105, nat_lit 110, nat_lit 115, nat_lit 116, nat_lit 97, nat_lit 110, nat_lit 99, nat_lit 101]⟩⟩ (nat_lit 30) (.builtin "isinstance"), de P ⟨⟨[nat_lit 105, nat_lit 115, nat_lit 115, nat_lit 117, nat_lit 98, nat_lit 99, nat_lit 108, nat_lit 97, nat_lit 115, nat_lit 115]⟩⟩ (nat_lit 31) (.builtin "issubclass"), de P ⟨⟨[nat_lit 105, nat_lit 116, nat_lit 101, nat_lit 114]⟩⟩ (nat_lit 32) (.builtin "iter"), de P ⟨⟨[nat_lit 97, nat_lit 105, nat_lit 116, nat_lit 101, nat_lit 114]⟩⟩ (nat_lit 33) (.builtin "aiter"), de P ⟨⟨[nat_lit 108, nat_lit 101, nat_lit 110]⟩⟩ (nat_lit 34) (.builtin "len"), de P ⟨⟨[nat_lit 108, nat_lit 111, nat_lit 99, nat_lit 97, nat_lit 108, nat_lit 115]⟩⟩ (nat_lit 35) (.builtin "locals"), de P ⟨⟨[nat_lit 109, nat_lit 97, nat_lit 120]⟩⟩ (nat_lit 36) (.builtin "max"), de P ⟨⟨[nat_lit 109, nat_lit 105, nat_lit 110]⟩⟩ (nat_lit 37) (.builtin "min"), de P ⟨⟨[nat_lit 110, nat_lit 101, nat_lit 120, nat_lit 116]⟩⟩ (nat_lit 38) (.builtin "next"), de P ⟨⟨[nat_lit 97, nat_lit 110, nat_lit 101, nat_lit 120, nat_lit 116]⟩⟩ (nat_lit 39) (.builtin "anext"), de P ⟨⟨[nat_lit 111, nat_lit 99, nat_lit 116]⟩⟩ (nat_lit 40) (.builtin "oct"), de P ⟨⟨[nat_lit 111, nat_lit 114, nat_lit 100]⟩⟩ (nat_lit 41) (.builtin "ord"), de P ⟨⟨[nat_lit 112, nat_lit 111, nat_lit 119]⟩⟩ (nat_lit 42) (.builtin "pow"), de P ⟨⟨[nat_lit 112, nat_lit 114, nat_lit 105, nat_lit 110, nat_lit 116]⟩⟩ (nat_lit 43) (.builtin "print"), de P ⟨⟨[nat_lit 114, nat_lit 101, nat_lit 112, nat_lit 114]⟩⟩ (nat_lit 44) (.builtin "repr"), de P ⟨⟨[nat_lit 114, nat_lit 111, nat_lit 117, nat_lit 110, nat_lit 100]⟩⟩ (nat_lit 45) (.builtin "round"), de P ⟨⟨[nat_lit 115, nat_lit 101, nat_lit 116, nat_lit 97, nat_lit 116, nat_lit 116, nat_lit 114]⟩⟩ (nat_lit 46) (.builtin "setattr"), de P ⟨⟨[nat_lit 115, nat_lit 111, nat_lit 114, nat_lit 116, nat_lit 101, nat_lit 100]⟩⟩ (nat_lit 47) (.builtin "sorted"), de P ⟨⟨[nat_lit 115, nat_lit 117, nat_lit 109]⟩⟩ (nat_lit 48) (.builtin "sum"), de P ⟨⟨[nat_lit 118, nat_lit 97, nat_lit 114, nat_lit 115]⟩⟩ (nat_lit 49) (.builtin "vars"), de P ⟨⟨[nat_lit 78, nat_lit 111, nat_lit 110, nat_lit 101]⟩⟩ (nat_lit 50) (.none), de P ⟨⟨[nat_lit 69, nat_lit 108, nat_lit 108, nat_lit 105, nat_lit 112, nat_lit 115, nat_lit 105, nat_lit 115]⟩⟩ (nat_lit 51) (.ellipsis), de P ⟨⟨[nat_lit 78, nat_lit 111, nat_lit 116, nat_lit 73, nat_lit 109, nat_lit 112, nat_lit 108, nat_lit 101, nat_lit 109, nat_lit 101, nat_lit 110, nat_lit 116, nat_lit 101, nat_lit 100]⟩⟩ (nat_lit 52) (.notImplemented), de P ⟨⟨[nat_lit 70, nat_lit 97, nat_lit 108, nat_lit 115, nat_lit 101]⟩⟩ (nat_lit 53) (.bool false), de P ⟨⟨[nat_lit 84, nat_lit 114, nat_lit 117, nat_lit 101]⟩⟩ (nat_lit 54) (.bool true), de P ⟨⟨[nat_lit 98, nat_lit 111, nat_lit 111, nat_lit 108]⟩⟩ (nat_lit 55) (.type "bool"), de P ⟨⟨[nat_lit 109, nat_lit 101, nat_lit 109, nat_lit 111, nat_lit 114, nat_lit 121, nat_lit 118, nat_lit 105, nat_lit 101, nat_lit 119]⟩⟩ (nat_lit 56) (.type "memoryview"), de P ⟨⟨[nat_lit 98, nat_lit 121, nat_lit 116, nat_lit 101, nat_lit 97, nat_lit 114, nat_lit 114, nat_lit 97, nat_lit 121]⟩⟩ (nat_lit 57) (.type "bytearray"), de P ⟨⟨[nat_lit 98, nat_lit 121, nat_lit 116, nat_lit 101, nat_lit 115]⟩⟩ (nat_lit 58) (.type "bytes"), de P ⟨⟨[nat_lit 99, nat_lit 108, nat_lit 97, nat_lit 115, nat_lit 115, nat_lit 109, nat_lit 101, nat_lit 116, nat_lit 104, nat_lit 111, nat_lit 100]⟩⟩ (nat_lit 59) (.type "classmethod"), de P ⟨⟨[nat_lit 99, nat_lit 111, nat_lit 109, nat_lit 112, nat_lit 108, nat_lit 101, nat_lit 120]⟩⟩ (nat_lit 60) (.type "complex"), de P ⟨⟨[nat_lit 100, nat_lit 105, nat_lit 99, nat_lit 116]⟩⟩ (nat_lit 61) (.type "dict"), de P ⟨⟨[nat_lit 101, nat_lit 110, nat_lit 117, nat_lit 109, nat_lit 101, nat_lit 114, nat_lit 97, nat_lit 116, nat_lit 101]⟩⟩ (nat_lit 62) (.type "enumerate"), de P ⟨⟨[nat_lit 102, nat_lit 105, nat_lit 108, nat_lit 116, nat_lit 101, nat_lit 114]⟩⟩ (nat_lit 63) (.type "filter"), de P ⟨⟨[nat_lit 102, nat_lit 108, nat_lit 111, nat_lit 97, nat_lit 116]⟩⟩ (nat_lit 64) (.type "float"), de P ⟨⟨[nat_lit 102, nat_lit 114, nat_lit 111, nat_lit 122, nat_lit 101, nat_lit 110, nat_lit 115, nat_lit 101, nat_lit 116]⟩⟩ (nat_lit 65) (.type "frozenset"), de P ⟨⟨[nat_lit 112, nat_lit 114, nat_lit 111, nat_lit 112, nat_lit 101, nat_lit 114, nat_lit 116, nat_lit 121]⟩⟩ (nat_lit 66) (.type "property"), de P ⟨⟨[nat_lit 105, nat_lit 110, nat_lit 116]⟩⟩ (nat_lit 67) (.type "int"), de P ⟨⟨[nat_lit 108, nat_lit 105, nat_lit 115, nat_lit 116]⟩⟩ (nat_lit 68) (.type "list"), de P ⟨⟨[nat_lit 109, nat_lit 97, nat_lit 112]⟩⟩ (nat_lit 69) (.type "map"), de P ⟨⟨[nat_lit 111, nat_lit 98, nat_lit 106, nat_lit 101, nat_lit 99, nat_lit 116]⟩⟩ (nat_lit 70) (.type "object"), de P ⟨⟨[nat_lit 114, nat_lit 97, nat_lit 110, nat_lit 103, nat_lit 101]⟩⟩ (nat_lit 71) (.type "range"), de P ⟨⟨[nat_lit 114, nat_lit 101, nat_lit 118, nat_lit 101, nat_lit 114, nat_lit 115, nat_lit 101, nat_lit 100]⟩⟩ (nat_lit 72) (.type "reversed"), de P ⟨⟨[nat_lit 115, nat_lit 101, nat_lit 116]⟩⟩ (nat_lit 73) (.type "set"), de P ⟨⟨[nat_lit 115, nat_lit 108, nat_lit 105, nat_lit 99, nat_lit 101]⟩⟩ (nat_lit 74) (.type "slice"), de P ⟨⟨[nat_lit 115, nat_lit 116, nat_lit 97, nat_lit 116, nat_lit 105, nat_lit 99, nat_lit 109, nat_lit 101, nat_lit 116, nat_lit 104, nat_lit 111, nat_lit 100]⟩⟩ (nat_lit 75) (.type "staticmethod"), de P ⟨⟨[nat_lit 115, nat_lit 116, nat_lit 114]⟩⟩ (nat_lit 76) (.type "str"), de P ⟨⟨[nat_lit 115, nat_lit 117, nat_lit 112, nat_lit 101, nat_lit 114]⟩⟩ (nat_lit 77) (.type "super"), de P ⟨⟨[nat_lit 116, nat_lit 117, nat_lit 112, nat_lit 108, nat_lit 101]⟩⟩ (nat_lit 78) (.type "tuple"), de P ⟨⟨[nat_lit 116, nat_lit 121, nat_lit 112, nat_lit 101]⟩⟩ (nat_lit 79) (.type "type"), de P ⟨⟨[nat_lit 122, nat_lit 105, nat_lit 112]⟩⟩ (nat_lit 80) (.type "zip"), de P ⟨⟨[nat_lit 95, nat_lit 95, nat_lit 100, nat_lit 101, nat_lit 98, nat_lit 117, nat_lit 103, nat_lit 95, nat_lit 95]⟩⟩ (nat_lit 81) (.bool true), de P ⟨⟨[nat_lit 66, nat_lit 97, nat_lit 115, nat_lit 101, nat_lit 69, nat_lit 120, nat_lit 99, nat_lit 101, nat_lit 112, nat_lit 116, nat_lit 105, nat_lit 111, nat_lit 110]⟩⟩ (nat_lit 82) (.type "BaseException"), de P ⟨⟨[nat_lit 66, nat_lit 97, nat_lit 115, nat_lit 101, nat_lit 69, nat_lit 120, nat_lit 99, nat_lit 101, nat_lit 112, nat_lit 116, nat_lit 105, nat_lit 111, nat_lit 110, nat_lit 71, nat_lit 114, nat_lit 111, nat_lit 117, nat_lit 112]⟩⟩ (nat_lit 83) (.type "BaseExceptionGroup"), de P ⟨⟨[nat_lit 69, nat_lit 120, nat_lit 99, nat_lit 101, nat_lit 112, nat_lit 116, nat_lit 105, nat_lit 111, nat_lit 110]⟩⟩ (nat_lit 84) (.type "Exception"), de P ⟨⟨[nat_lit 71, nat_lit 101, nat_lit 110, nat_lit 101, nat_lit 114, nat_lit 97, nat_lit 116, nat_lit 111, nat_lit 114, nat_lit 69, nat_lit 120, nat_lit 105, nat_lit 116]⟩⟩ (nat_lit 85) (.type "GeneratorExit"), de P ⟨⟨[nat_lit 75, nat_lit 101, nat_lit 121, nat_lit 98, nat_lit 111, nat_lit 97, nat_lit 114, nat_lit 100, nat_lit 73, nat_lit 110, nat_lit 116, nat_lit 101, nat_lit 114, nat_lit 114, nat_lit 117, nat_lit 112, nat_lit 116]⟩⟩ (nat_lit 86) (.type "KeyboardInterrupt"), de P ⟨⟨[nat_lit 83, nat_lit 121, nat_lit 115, nat_lit 116, nat_lit 101, nat_lit 109, nat_lit 69, nat_lit 120, nat_lit 105, nat_lit 116]⟩⟩ (nat_lit 87) (.type "SystemExit"), de P ⟨⟨[nat_lit 65, nat_lit 114, nat_lit 105, nat_lit 116, nat_lit 104, nat_lit 109, nat_lit 101, nat_lit 116, nat_lit 105, nat_lit 99, nat_lit 69, nat_lit 114, nat_lit 114, nat_lit 111, nat_lit 114]⟩⟩ (nat_lit 88) (.type "ArithmeticError"), de P ⟨⟨[nat_lit 65, nat_lit 115, nat_lit 115, nat_lit 101, nat_lit 114, nat_lit 116, nat_lit 105, nat_lit 111, nat_lit 110, nat_lit 69, nat_lit 114, nat_lit 114, nat_lit 111, nat_lit 114]⟩⟩ (nat_lit 89) (.type "AssertionError"), de P ⟨⟨[nat_lit 65, nat_lit 116, nat_lit 116, nat_lit 114, nat_lit 105, nat_lit 98, nat_lit 117, nat_lit 116, nat_lit 101, nat_lit 69, nat_lit 114, nat_lit 114, nat_lit 111, nat_lit 114]⟩⟩ (nat_lit 90) (.type "AttributeError"), de P ⟨⟨[nat_lit 66, nat_lit 117, nat_lit 102, nat_lit 102, nat_lit 101, nat_lit 114, nat_lit 69, nat_lit 114, nat_lit 114, nat_lit 111, nat_lit 114]⟩⟩ (nat_lit 91) (.type "BufferError"), de P ⟨⟨[nat_lit 69, nat_lit 79, nat_lit 70, nat_lit 69, nat_lit 114, nat_lit 114, nat_lit 111, nat_lit 114]⟩⟩ (nat_lit 92) (.type "EOFError"), de P ⟨⟨[nat_lit 73, nat_lit 109, nat_lit 112, nat_lit 111, nat_lit 114, nat_lit 116, nat_lit 69, nat_lit 114, nat_lit 114, nat_lit 111, nat_lit 114]⟩⟩ (nat_lit 93) (.type "ImportError"), de P ⟨⟨[nat_lit 76, nat_lit 111, nat_lit 111, nat_lit 107, nat_lit 117, nat_lit 112, nat_lit 69, nat_lit 114, nat_lit 114, nat_lit 111, nat_lit 114]⟩⟩ (nat_lit 94) (.type "LookupError"), de P ⟨⟨[nat_lit 77, nat_lit 101, nat_lit 109, nat_lit 111, nat_lit 114, nat_lit 121, nat_lit 69, nat_lit 114, nat_lit 114, nat_lit 111, nat_lit 114]⟩⟩ (nat_lit 95) (.type "MemoryError"), de P ⟨⟨[nat_lit 78, nat_lit 97, nat_lit 109, nat_lit 101, nat_lit 69, nat_lit 114, nat_lit 114, nat_lit 111, nat_lit 114]⟩⟩ (nat_lit 96) (.type "NameError"), de P ⟨⟨[nat_lit 79, nat_lit 83, nat_lit 69, nat_lit 114, nat_lit 114, nat_lit 111, nat_lit 114]⟩⟩ (nat_lit 97) (.type "OSError"), de P ⟨⟨[nat_lit 82, nat_lit 101, nat_lit 102, nat_lit 101, nat_lit 114, nat_lit 101, nat_lit 110, nat_lit 99, nat_lit 101, nat_lit 69, nat_lit 114, nat_lit 114, nat_lit 111, nat_lit 114]⟩⟩ (nat_lit 98) (.type "ReferenceError"), de P ⟨⟨[nat_lit 82, nat_lit 117, nat_lit 110, nat_lit 116, nat_lit 105, nat_lit 109, nat_lit 101, nat_lit 69, nat_lit 114, nat_lit 114, nat_lit 111, nat_lit 114]⟩⟩ (nat_lit 99) (.type "RuntimeError"), de P ⟨⟨[nat_lit 83, nat_lit 116, nat_lit 111, nat_lit 112, nat_lit 65, nat_lit 115, nat_lit 121, nat_lit 110, nat_lit 99, nat_lit 73, nat_lit 116, nat_lit 101, nat_lit 114, nat_lit 97, nat_lit 116, nat_lit 105, nat_lit 111, nat_lit 110]⟩⟩ (nat_lit 100) (.type "StopAsyncIteration"), de P ⟨⟨[nat_lit 83, nat_lit 116, nat_lit 111, nat_lit 112, nat_lit 73, nat_lit 116, nat_lit 101, nat_lit 114, nat_lit 97, nat_lit 116, nat_lit 105, nat_lit 111, nat_lit 110]⟩⟩ (nat_lit 101) (.type "StopIteration"), de P ⟨⟨[nat_lit 83, nat_lit 121, nat_lit 110, nat_lit 116, nat_lit 97, nat_lit 120, nat_lit 69, nat_lit 114, nat_lit 114, nat_lit 111, nat_lit 114]⟩⟩ (nat_lit 102) (.type "SyntaxError"), de P ⟨⟨[nat_lit 83, nat_lit 121, nat_lit 115, nat_lit 116, nat_lit 101, nat_lit 109, nat_lit 69, nat_lit 114, nat_lit 114, nat_lit 111, nat_lit 114]⟩⟩ (nat_lit 103) (.type "SystemError"), de P ⟨⟨[nat_lit 84, nat_lit 121, nat_lit 112, nat_lit 101, nat_lit 69, nat_lit 114, nat_lit 114, nat_lit 111, nat_lit 114]⟩⟩ (nat_lit 104) (.type "TypeError"), de P ⟨⟨[nat_lit 86, nat_lit 97, nat_lit 108, nat_lit 117, nat_lit 101, nat_lit 69, nat_lit 114, nat_lit 114, nat_lit 111, nat_lit 114]⟩⟩ (nat_lit 105) (.type "ValueError"), de P ⟨⟨[nat_lit 87, nat_lit 97, nat_lit 114, nat_lit 110, nat_lit 105, nat_lit 110, nat_lit 103]⟩⟩ (nat_lit 106) (.type "Warning"), de P ⟨⟨[nat_lit 70, nat_lit 108, nat_lit 111, nat_lit 97, nat_lit 116, nat_lit 105, nat_lit 110, nat_lit 103, nat_lit 80, nat_lit 111, nat_lit 105, nat_lit 110, nat_lit 116, nat_lit 69, nat_lit 114, nat_lit 114, nat_lit 111, nat_lit 114]⟩⟩ (nat_lit 107) (.type "FloatingPointError"), de P ⟨⟨[nat_lit 79, nat_lit 118, nat_lit 101, nat_lit 114, nat_lit 102, nat_lit 108, nat_lit 111, nat_lit 119, nat_lit 69, nat_lit 114, nat_lit 114, nat_lit 111, nat_lit 114]⟩⟩ (nat_lit 108) (.type "OverflowError"), de P ⟨⟨[nat_lit 90, nat_lit 101, nat_lit 114, nat_lit 111, nat_lit 68, nat_lit 105, nat_lit 118, nat_lit 105, nat_lit 115, nat_lit 105, nat_lit 111, nat_lit 110, nat_lit 69, nat_lit 114, nat_lit 114, nat_lit 111, nat_lit 114]⟩⟩ (nat_lit 109) (.type "ZeroDivisionError"), de P ⟨⟨[nat_lit 66, nat_lit 121, nat_lit 116, nat_lit 101, nat_lit 115, nat_lit 87, nat_lit 97, nat_lit 114, nat_lit 110, nat_lit 105, nat_lit 110, nat_lit 103]⟩⟩ (nat_lit 110) (.type "BytesWarning"), de P ⟨⟨[nat_lit 68, nat_lit 101, nat_lit 112, nat_lit 114, nat_lit 101, nat_lit 99, nat_lit 97, nat_lit 116, nat_lit 105, nat_lit 111, nat_lit 110, nat_lit 87, nat_lit 97, nat_lit 114, nat_lit 110, nat_lit 105, nat_lit 110, nat_lit 103]⟩⟩ (nat_lit 111) (.type "DeprecationWarning"), de P ⟨⟨[nat_lit 69, nat_lit 110, nat_lit 99, nat_lit 111, nat_lit 100, nat_lit 105, nat_lit 110, nat_lit 103, nat_lit 87, nat_lit 97, nat_lit 114, nat_lit 110, nat_lit 105, nat_lit 110, nat_lit 103]⟩⟩ (nat_lit 112) (.type "EncodingWarning"), de P ⟨⟨[nat_lit 70, nat_lit 117, nat_lit 116, nat_lit 117, nat_lit 114, nat_lit 101, nat_lit 87, nat_lit 97, nat_lit 114, nat_lit 110, nat_lit 105, nat_lit 110, nat_lit 103]⟩⟩ (nat_lit 113) (.type "FutureWarning"), de P ⟨⟨[nat_lit 73, nat_lit 109, nat_lit 112, nat_lit 111, nat_lit 114, nat_lit 116, nat_lit 87, nat_lit 97, nat_lit 114, nat_lit 110, nat_lit 105, nat_lit 110, nat_lit 103]⟩⟩ (nat_lit 114) (.type "ImportWarning"), de P ⟨⟨[nat_lit 80, nat_lit 101, nat_lit 110, nat_lit 100, nat_lit 105, nat_lit 110, nat_lit 103, nat_lit 68, nat_lit 101, nat_lit 112, nat_lit 114, nat_lit 101, nat_lit 99, nat_lit 97, nat_lit 116, nat_lit 105, nat_lit 111, nat_lit 110, nat_lit 87, nat_lit 97, nat_lit 114, nat_lit 110, nat_lit 105, nat_lit 110, nat_lit 103]⟩⟩ (nat_lit 115) (.type "PendingDeprecationWarning"), de P ⟨⟨[nat_lit 82, nat_lit 101, nat_lit 115, nat_lit 111, nat_lit 117, nat_lit 114, nat_lit 99, nat_lit 101, nat_lit 87, nat_lit 97, nat_lit 114, nat_lit 110, nat_lit 105, nat_lit 110, nat_lit 103]⟩⟩ (nat_lit 116) (.type "ResourceWarning"), de P ⟨⟨[nat_lit 82, nat_lit 117, nat_lit 110, nat_lit 116, nat_lit 105, nat_lit 109, nat_lit 101, nat_lit 87, nat_lit 97, nat_lit 114, nat_lit 110, nat_lit 105, nat_lit 110, nat_lit 103]⟩⟩ (nat_lit 117) (.type "RuntimeWarning"), de P ⟨⟨[nat_lit 83, nat_lit 121, nat_lit 110, nat_lit 116, nat_lit 97, nat_lit 120, nat_lit 87, nat_lit 97, nat_lit 114, nat_lit 110, nat_lit 105, nat_lit 110, nat_lit 103]⟩⟩ (nat_lit 118) (.type "SyntaxWarning"), de P ⟨⟨[nat_lit 85, nat_lit 110, nat_lit 105, nat_lit 99, nat_lit 111, nat_lit 100, nat_lit 101, nat_lit 87, nat_lit 97, nat_lit 114, nat_lit 110, nat_lit 105, nat_lit 110, nat_lit 103]⟩⟩ (nat_lit 119) (.type "UnicodeWarning"), de P ⟨⟨[nat_lit 85, nat_lit 115, nat_lit 101, nat_lit 114, nat_lit 87, nat_lit 97, nat_lit 114, nat_lit 110, nat_lit 105, nat_lit 110, nat_lit 103]⟩⟩ (nat_lit 120) (.type "UserWarning"), de P ⟨⟨[nat_lit 66, nat_lit 108, nat_lit 111, nat_lit 99, nat_lit 107, nat_lit 105, nat_lit 110, nat_lit 103, nat_lit 73, nat_lit 79, nat_lit 69, nat_lit 114, nat_lit 114, nat_lit 111, nat_lit 114]⟩⟩ (nat_lit 121) (.type "BlockingIOError"), de P ⟨⟨[nat_lit 67, nat_lit 104, nat_lit 105, nat_lit 108, nat_lit 100, nat_lit 80, nat_lit 114, nat_lit 111, nat_lit 99, nat_lit 101, nat_lit 115, nat_lit 115, nat_lit 69, nat_lit 114, nat_lit 114, nat_lit 111, nat_lit 114]⟩⟩ (nat_lit 122) (.type "ChildProcessError"), de P ⟨⟨[nat_lit 67, nat_lit 111, nat_lit 110, nat_lit 110, nat_lit 101, nat_lit 99, nat_lit 116, nat_lit 105, nat_lit 111, nat_lit 110, nat_lit 69, nat_lit 114, nat_lit 114, nat_lit 111, nat_lit 114]⟩⟩ (nat_lit 123) (.type "ConnectionError"), de P ⟨⟨[nat_lit 70, nat_lit 105, nat_lit 108, nat_lit 101, nat_lit 69, nat_lit 120, nat_lit 105, nat_lit 115, nat_lit 116, nat_lit 115, nat_lit 69, nat_lit 114, nat_lit 114, nat_lit 111, nat_lit 114]⟩⟩ (nat_lit 124) (.type "FileExistsError"), de P ⟨⟨[nat_lit 70, nat_lit 105, nat_lit 108, nat_lit 101, nat_lit 78, nat_lit 111, nat_lit 116, nat_lit 70, nat_lit 111, nat_lit 117, nat_lit 110, nat_lit 100, nat_lit 69, nat_lit 114, nat_lit 114, nat_lit 111, nat_lit 114]⟩⟩ (nat_lit 125) (.type "FileNotFoundError"), de P ⟨⟨[nat_lit 73, nat_lit 110, nat_lit 116, nat_lit 101, nat_lit 114, nat_lit 114, nat_lit 117, nat_lit 112, nat_lit 116, nat_lit 101, nat_lit 100, nat_lit 69, nat_lit 114, nat_lit 114, nat_lit 111, nat_lit 114]⟩⟩ (nat_lit 126) (.type "InterruptedError"), de P ⟨⟨[nat_lit 73, nat_lit 115, nat_lit 65, nat_lit 68, nat_lit 105, nat_lit 114, nat_lit 101, nat_lit 99, nat_lit 116, nat_lit 111, nat_lit 114, nat_lit 121, nat_lit 69, nat_lit 114, nat_lit 114, nat_lit 111, nat_lit 114]⟩⟩ (nat_lit 127) (.type "IsADirectoryError"), de P ⟨⟨[nat_lit 78, nat_lit 111, nat_lit 116, nat_lit 65, nat_lit 68, nat_lit 105, nat_lit 114, nat_lit 101, nat_lit 99, nat_lit 116, nat_lit 111, nat_lit 114, nat_lit 121, nat_lit 69, nat_lit 114, nat_lit 114, nat_lit 111, nat_lit 114]⟩⟩ (nat_lit 128) (.type "NotADirectoryError"), de P ⟨⟨[nat_lit 80, nat_lit 101, nat_lit 114, nat_lit 109, nat_lit 105, nat_lit 115, nat_lit 115, nat_lit 105, nat_lit 111, nat_lit 110, nat_lit 69, nat_lit 114, nat_lit 114, nat_lit 111, nat_lit 114]⟩⟩ (nat_lit 129) (.type "PermissionError"), de P ⟨⟨[nat_lit 80, nat_lit 114, nat_lit 111, nat_lit 99, nat_lit 101, nat_lit 115, nat_lit 115, nat_lit 76, nat_lit 111, nat_lit 111, nat_lit 107, nat_lit 117, nat_lit 112, nat_lit 69, nat_lit 114, nat_lit 114, nat_lit 111, nat_lit 114]⟩⟩ (nat_lit 130) (.type "ProcessLookupError"), de P ⟨⟨[nat_lit 84, nat_lit 105, nat_lit 109, nat_lit 101, nat_lit 111, nat_lit 117, nat_lit 116, nat_lit 69, nat_lit 114, nat_lit 114, nat_lit 111, nat_lit 114]⟩⟩ (nat_lit 131) (.type "TimeoutError"), de P ⟨⟨[nat_lit 73, nat_lit 110, nat_lit 100, nat_lit 101, nat_lit 110, nat_lit 116, nat_lit 97, nat_lit 116, nat_lit 105, nat_lit 111, nat_lit 110, nat_lit 69, nat_lit 114, nat_lit 114, nat_lit 111, nat_lit 114]⟩⟩ (nat_lit 132) (.type "IndentationError"), de P ⟨⟨[nat_lit 95, nat_lit 73, nat_lit 110, nat_lit 99, nat_lit 111, nat_lit 109, nat_lit 112, nat_lit 108, nat_lit 101, nat_lit 116, nat_lit 101, nat_lit 73, nat_lit 110, nat_lit 112, nat_lit 117, nat_lit 116, nat_lit 69, nat_lit 114, nat_lit 114, nat_lit 111, nat_lit 114]⟩⟩ (nat_lit 133) (.type "_IncompleteInputError"), de P ⟨⟨[nat_lit 73, nat_lit 110, nat_lit 100, nat_lit 101, nat_lit 120, nat_lit 69, nat_lit 114, nat_lit 114, nat_lit 111, nat_lit 114]⟩⟩ (nat_lit 134) (.type "IndexError"), de P ⟨⟨[nat_lit 75, nat_lit 101, nat_lit 121, nat_lit 69, nat_lit 114, nat_lit 114, nat_lit 111, nat_lit 114]⟩⟩ (nat_lit 135) (.type "KeyError"), de P ⟨⟨[nat_lit 77, nat_lit 111, nat_lit 100, nat_lit 117, nat_lit 108, nat_lit 101, nat_lit 78, nat_lit 111, nat_lit 116, nat_lit 70, nat_lit 111, nat_lit 117, nat_lit 110, nat_lit 100, nat_lit 69, nat_lit 114, nat_lit 114, nat_lit 111, nat_lit 114]⟩⟩ (nat_lit 136) (.type "ModuleNotFoundError"), de P ⟨⟨[nat_lit 78, nat_lit 111, nat_lit 116, nat_lit 73, nat_lit 109, nat_lit 112, nat_lit 108, nat_lit 101, nat_lit 109, nat_lit 101, nat_lit 110, nat_lit 116, nat_lit 101, nat_lit 100, nat_lit 69, nat_lit 114, nat_lit 114, nat_lit 111, nat_lit 114]⟩⟩ (nat_lit 137) (.type "NotImplementedError"), de P ⟨⟨[nat_lit 80, nat_lit 121, nat_lit 116, nat_lit 104, nat_lit 111, nat_lit 110, nat_lit 70, nat_lit 105, nat_lit 110, nat_lit 97, nat_lit 108, nat_lit 105, nat_lit 122, nat_lit 97, nat_lit 116, nat_lit 105, nat_lit 111, nat_lit 110, nat_lit 69, nat_lit 114, nat_lit 114, nat_lit 111, nat_lit 114]⟩⟩ (nat_lit 138) (.type "PythonFinalizationError"), de P ⟨⟨[nat_lit 82, nat_lit 101, nat_lit 99, nat_lit 117, nat_lit 114, nat_lit 115, nat_lit 105, nat_lit 111, nat_lit 110, nat_lit 69, nat_lit 114, nat_lit 114, nat_lit 111, nat_lit 114]⟩⟩ (nat_lit 139) (.type "RecursionError"), de P ⟨⟨[nat_lit 85, nat_lit 110, nat_lit 98, nat_lit 111, nat_lit 117, nat_lit 110, nat_lit 100, nat_lit 76, nat_lit 111, nat_lit 99, nat_lit 97, nat_lit 108, nat_lit 69, nat_lit 114, nat_lit 114, nat_lit 111, nat_lit 114]⟩⟩ (nat_lit 140) (.type "UnboundLocalError"), de P ⟨⟨[nat_lit 85, nat_lit 110, nat_lit 105, nat_lit 99, nat_lit 111, nat_lit 100, nat_lit 101, nat_lit 69, nat_lit 114, nat_lit 114, nat_lit 111, nat_lit 114]⟩⟩ (nat_lit 141) (.type "UnicodeError"), de P ⟨⟨[nat_lit 66, nat_lit 114, nat_lit 111, nat_lit 107, nat_lit 101, nat_lit 110, nat_lit 80, nat_lit 105, nat_lit 112, nat_lit 101, nat_lit 69, nat_lit 114, nat_lit 114, nat_lit 111, nat_lit 114]⟩⟩ (nat_lit 142) (.type "BrokenPipeError"), de P ⟨⟨[nat_lit 67, nat_lit 111, nat_lit 110, nat_lit 110, nat_lit 101, nat_lit 99, nat_lit 116, nat_lit 105, nat_lit 111, nat_lit 110, nat_lit 65, nat_lit 98, nat_lit 111, nat_lit 114, nat_lit 116, nat_lit 101, nat_lit 100, nat_lit 69, nat_lit 114, nat_lit 114, nat_lit 111, nat_lit 114]⟩⟩ (nat_lit 143) (.type "ConnectionAbortedError"), de P ⟨⟨[nat_lit 67, nat_lit 111, nat_lit 110, nat_lit 110, nat_lit 101, nat_lit 99, nat_lit 116, nat_lit 105, nat_lit 111, nat_lit 110, nat_lit 82, nat_lit 101, nat_lit 102, nat_lit 117, nat_lit 115, nat_lit 101, nat_lit 100, nat_lit 69, nat_lit 114, nat_lit 114, nat_lit 111, nat_lit 114]⟩⟩ (nat_lit 144) (.type "ConnectionRefusedError"), de P ⟨⟨[nat_lit 67, nat_lit 111, nat_lit 110, nat_lit 110, nat_lit 101, nat_lit 99, nat_lit 116, nat_lit 105, nat_lit 111, nat_lit 110, nat_lit 82, nat_lit 101, nat_lit 115, nat_lit 101, nat_lit 116, nat_lit 69, nat_lit 114, nat_lit 114, nat_lit 111, nat_lit 114]⟩⟩ (nat_lit 145) (.type "ConnectionResetError"), de P ⟨⟨[nat_lit 84, nat_lit 97, nat_lit 98, nat_lit 69, nat_lit 114, nat_lit 114, nat_lit 111, nat_lit 114]⟩⟩ (nat_lit 146) (.type "TabError"), de P ⟨⟨[nat_lit 85, nat_lit 110, nat_lit 105, nat_lit 99, nat_lit 111, nat_lit 100, nat_lit 101, nat_lit 68, nat_lit 101, nat_lit 99, nat_lit 111, nat_lit 100, nat_lit 101, nat_lit 69, nat_lit 114, nat_lit 114, nat_lit 111, nat_lit 114]⟩⟩ (nat_lit 147) (.type "UnicodeDecodeError"), de P ⟨⟨[nat_lit 85, nat_lit 110, nat_lit 105, nat_lit 99, nat_lit 111, nat_lit 100, nat_lit 101, nat_lit 69, nat_lit 110, nat_lit 99, nat_lit 111, nat_lit 100, nat_lit 101, nat_lit 69, nat_lit 114, nat_lit 114, nat_lit 111, nat_lit 114]⟩⟩ (nat_lit 148) (.type "UnicodeEncodeError"), de P ⟨⟨[nat_lit 85, nat_lit 110, nat_lit 105, nat_lit 99, nat_lit 111, nat_lit 100, nat_lit 101, nat_lit 84, nat_lit 114, nat_lit 97, nat_lit 110, nat_lit 115, nat_lit 108, nat_lit 97, nat_lit 116, nat_lit 101, nat_lit 69, nat_lit 114, nat_lit 114, nat_lit 111, nat_lit 114]⟩⟩ (nat_lit 149) (.type "UnicodeTranslateError"), de P ⟨⟨[nat_lit 69, nat_lit 120, nat_lit 99, nat_lit 101, nat_lit 112, nat_lit 116, nat_lit 105, nat_lit 111, nat_lit 110, nat_lit 71, nat_lit 114, nat_lit 111, nat_lit 117, nat_lit 112]⟩⟩ (nat_lit 150) (.type "ExceptionGroup"), de P ⟨⟨[nat_lit 69, nat_lit 110, nat_lit 118, nat_lit 105, nat_lit 114, nat_lit 111, nat_lit 110, nat_lit 109, nat_lit 101, nat_lit 110, nat_lit 116, nat_lit 69, nat_lit 114, nat_lit 114, nat_lit 111, nat_lit 114]⟩⟩ (nat_lit 151) (.type "OSError"), de P ⟨⟨[nat_lit 73, nat_lit 79, nat_lit 69, nat_lit 114, nat_lit 114, nat_lit 111, nat_lit 114]⟩⟩ (nat_lit 152) (.type "OSError"), de P ⟨⟨[nat_lit 111, nat_lit 112, nat_lit 101, nat_lit 110]⟩⟩ (nat_lit 153) (.builtin "open"), de P ⟨⟨[nat_lit 113, nat_lit 117, nat_lit 105, nat_lit 116]⟩⟩ (nat_lit 154) (.builtin "builtins.quit#opaque"), de P ⟨⟨[nat_lit 101, nat_lit 120, nat_lit 105, nat_lit 116]⟩⟩ (nat_lit 155) (.builtin "builtins.exit#opaque"), de P hs.c7 (nat_lit 156) (.builtin "builtins.copyright#opaque"), de P ⟨⟨[nat_lit 99, nat_lit 114, nat_lit 101, nat_lit 100, nat_lit 105, nat_lit 116, nat_lit 115]⟩⟩ (nat_lit 157) (.builtin "builtins.credits#opaque"), de P ⟨⟨[nat_lit 108, nat_lit 105, nat_lit 99, nat_lit 101, nat_lit 110, nat_lit 115, nat_lit 101]⟩⟩ (nat_lit 158) (.builtin "builtins.license#opaque"), de P ⟨⟨[nat_lit 104, nat_lit 101, nat_lit 108, nat_lit 112]⟩⟩ (nat_lit 159) (.builtin "builtins.help#opaque")]⟩ (nat_lit 159), ⟨[]⟩⟩
noncomputable def hs.o1v0 (P : Params) : Obj := ⟨.type "dict", none, .dict ⟨[de P hs.c1 (nat_lit 162) (.ref (nat_lit 4)), de P hs.c8 (nat_lit 163) (.ref (nat_lit 5)), de P hs.c9 (nat_lit 244) (.ref (nat_lit 12))]⟩ (nat_lit 3), ⟨[]⟩⟩
noncomputable def hs.o2v0 (P : Params) : Obj := ⟨.none, none, .dict ⟨[de P ⟨⟨[nat_lit 105, nat_lit 109, nat_lit 112, nat_lit 111, nat_lit 114, nat_lit 116, nat_lit 46, nat_lit 108, nat_lit 111, nat_lit 97, nat_lit 100, nat_lit 101, nat_lit 100, nat_lit 46, nat_lit 95, nat_lit 115, nat_lit 114, nat_lit 101]⟩⟩ (nat_lit 183) (.bool true), de P ⟨⟨[nat_lit 99, nat_lit 108, nat_lit 97, nat_lit 115, nat_lit 115, nat_lit 46, nat_lit 95, nat_lit 102, nat_lit 114, nat_lit 111, nat_lit 122, nat_lit 101, nat_lit 110, nat_lit 95, nat_lit 105, nat_lit 109, nat_lit 112, nat_lit 111, nat_lit 114, nat_lit 116, nat_lit 108, nat_lit 105, nat_lit 98, nat_lit 46, nat_lit 66, nat_lit 117, nat_lit 105, nat_lit 108, nat_lit 116, nat_lit 105, nat_lit 110, nat_lit 73, nat_lit 109, nat_lit 112, nat_lit 111, nat_lit 114, nat_lit 116, nat_lit 101, nat_lit 114]⟩⟩ (nat_lit 185) (.ref (nat_lit 14)), de P ⟨⟨[nat_lit 119, nat_lit 97, nat_lit 116, nat_lit 99, nat_lit 104, nat_lit 101, nat_lit 100, nat_lit 46, nat_lit 105, nat_lit 109, nat_lit 112, nat_lit 111, nat_lit 114, nat_lit 116]⟩⟩ (nat_lit 206) (.ref (nat_lit 18)), de P ⟨⟨[nat_lit 99, nat_lit 108, nat_lit 97, nat_lit 115, nat_lit 115, nat_lit 46, nat_lit 95, nat_lit 102, nat_lit 114, nat_lit 111, nat_lit 122, nat_lit 101, nat_lit 110, nat_lit 95, nat_lit 105, nat_lit 109, nat_lit 112, nat_lit 111, nat_lit 114, nat_lit 116, nat_lit 108, nat_lit 105, nat_lit 98, nat_lit 46, nat_lit 77, nat_lit 111, nat_lit 100, nat_lit 117, nat_lit 108, nat_lit 101, nat_lit 83, nat_lit 112, nat_lit 101, nat_lit 99]⟩⟩ (nat_lit 216) (.ref (nat_lit 22)), de P ⟨⟨[nat_lit 115, nat_lit 121, nat_lit 115, nat_lit 46, nat_lit 109, nat_lit 111, nat_lit 100, nat_lit 117, nat_lit 108, nat_lit 101, nat_lit 115, nat_lit 46, nat_lit 98, nat_lit 111, nat_lit 111, nat_lit 107, nat_lit 101, nat_lit 100, nat_lit 45, nat_lit 101, nat_lit 112, nat_lit 111, nat_lit 99, nat_lit 104]⟩⟩ (nat_lit 245) (.int (.ofNat (nat_lit 3)) (nat_lit 0)), de P ⟨⟨[nat_lit 105, nat_lit 109, nat_lit 112, nat_lit 111, nat_lit 114, nat_lit 116, nat_lit 46, nat_lit 108, nat_lit 97, nat_lit 116, nat_lit 101, nat_lit 114, nat_lit 45, nat_lit 108, nat_lit 97, nat_lit 105, nat_lit 100, nat_lit 46, nat_lit 95, nat_lit 115, nat_lit 114, nat_lit 101]⟩⟩ (nat_lit 270) (.bool true), de P ⟨⟨[nat_lit 119, nat_lit 97, nat_lit 116, nat_lit 99, nat_lit 104, nat_lit 101, nat_lit 100, nat_lit 46, nat_lit 108, nat_lit 105, nat_lit 98, nat_lit 114, nat_lit 97, nat_lit 114, nat_lit 121]⟩⟩ (nat_lit 272) (.ref (nat_lit 27)), de P ⟨⟨[nat_lit 119, nat_lit 97, nat_lit 116, nat_lit 99, nat_lit 104, nat_lit 101, nat_lit 100, nat_lit 46, nat_lit 108, nat_lit 105, nat_lit 98, nat_lit 114, nat_lit 97, nat_lit 114, nat_lit 121, nat_lit 45, nat_lit 111, nat_lit 98, nat_lit 106, nat_lit 101, nat_lit 99, nat_lit 116, nat_lit 115]⟩⟩ (nat_lit 0) (.str ⟨⟨[nat_lit 12]⟩⟩ (nat_lit 0)), de P ⟨⟨[nat_lit 119, nat_lit 97, nat_lit 116, nat_lit 99, nat_lit 104, nat_lit 101, nat_lit 100, nat_lit 46, nat_lit 108, nat_lit 105, nat_lit 98, nat_lit 114, nat_lit 97, nat_lit 114, nat_lit 121, nat_lit 45, nat_lit 100, nat_lit 101, nat_lit 101, nat_lit 112, nat_lit 46, nat_lit 95, nat_lit 115, nat_lit 114, nat_lit 101]⟩⟩ (nat_lit 273) (.str ⟨⟨[nat_lit 4, nat_lit 0, nat_lit 0, nat_lit 11, nat_lit 4, nat_lit 0, nat_lit 0, nat_lit 11, nat_lit 4, nat_lit 0, nat_lit 0, nat_lit 3, nat_lit 4, nat_lit 0, nat_lit 0, nat_lit 11, nat_lit 8, nat_lit 4, nat_lit 100, nat_lit 105, nat_lit 99, nat_lit 116, nat_lit 2]⟩⟩ (nat_lit 0))]⟩ (nat_lit 9), ⟨[]⟩⟩
noncomputable def hs.o3v0 (P : Params) : Obj := ⟨.type "dict", none, .dict ⟨[de P hs.c0 (nat_lit 165) (.str hs.c8 (nat_lit 164)), de P hs.c2 (nat_lit 166) (.none), de P hs.c3 (nat_lit 167) (.none), de P hs.c4 (nat_lit 168) (.builtin "__main__.__loader__#opaque"), de P hs.c5 (nat_lit 169) (.none), de P hs.c10 (nat_lit 170) (.ref (nat_lit 6)), de P hs.c11 (nat_lit 171) (.ref (nat_lit 4)), de P hs.c12 (nat_lit 173) (.str hs.c13 (nat_lit 172)), de P hs.c14 (nat_lit 174) (.none), de P hs.c9 (nat_lit 275) (.ref (nat_lit 12))]⟩ (nat_lit 10), ⟨[]⟩⟩
noncomputable def hs.o4v0 (_ : Params) : Obj := ⟨.type "module", (some (nat_lit 0)), .plain, ⟨[]⟩⟩
noncomputable def hs.o5v0 (_ : Params) : Obj := ⟨.type "module", (some (nat_lit 3)), .plain, ⟨[]⟩⟩
noncomputable def hs.o6v0 (_ : Params) : Obj := ⟨.type "dict", none, .dict ⟨[]⟩ (nat_lit 0), ⟨[]⟩⟩
noncomputable def hs.o7v0 (_ : Params) : Obj := ⟨.type "tuple", none, .seq ⟨[]⟩ (nat_lit 0), ⟨[]⟩⟩
noncomputable def hs.o8v0 (_ : Params) : Obj := ⟨.none, none, .fields ⟨[]⟩, ⟨[]⟩⟩
noncomputable def hs.o9v0 (_ : Params) : Obj := ⟨.type "code", none, .fields ⟨[.str hs.c15 (nat_lit 176), .str hs.c15 (nat_lit 177), .str hs.c13 (nat_lit 178), .int (.ofNat (nat_lit 1)) (nat_lit 0), .int (.ofNat (nat_lit 0)) (nat_lit 0), .int (.ofNat (nat_lit 0)) (nat_lit 0), .int (.ofNat (nat_lit 0)) (nat_lit 0), .int (.ofNat (nat_lit 0)) (nat_lit 0), .ref (nat_lit 7), .bool false, .int (.ofNat (nat_lit 175)) (nat_lit 0), .ref (nat_lit 8), .none, .none, .none, .none, .int (.ofNat (nat_lit 179)) (nat_lit 0), .int (.ofNat (nat_lit 1)) (nat_lit 0), .str hs.c13 (nat_lit 180)]⟩, ⟨[]⟩⟩
noncomputable def hs.o10v0 (_ : Params) : Obj := ⟨.type "frame", none, .plain, ⟨[(some (.ref (nat_lit 9))), (some (.ref (nat_lit 3))), (some (.ref (nat_lit 3))), none, (some (.str hs.c8 (nat_lit 164))), none, (some (.ref (nat_lit 0)))]⟩⟩
noncomputable def hs.o11v0 (P : Params) : Obj := ⟨.type "dict", none, .dict ⟨[de P hs.c0 (nat_lit 247) (.str hs.c9 (nat_lit 246)), de P hs.c2 (nat_lit 248) (.none), de P hs.c3 (nat_lit 250) (.str ⟨⟨[]⟩⟩ (nat_lit 249)), de P hs.c4 (nat_lit 251) (.builtin "off-the-table:_sre.__loader__:shared#opaque"), de P hs.c5 (nat_lit 252) (.builtin "off-the-table:_sre.__spec__:shared#opaque"), de P hs.c6 (nat_lit 253) (.builtin "_sre.compile"), de P ⟨⟨[nat_lit 116, nat_lit 101, nat_lit 109, nat_lit 112, nat_lit 108, nat_lit 97, nat_lit 116, nat_lit 101]⟩⟩ (nat_lit 254) (.builtin "off-the-table:_sre.template:shared#opaque"), de P ⟨⟨[nat_lit 103, nat_lit 101, nat_lit 116, nat_lit 99, nat_lit 111, nat_lit 100, nat_lit 101, nat_lit 115, nat_lit 105, nat_lit 122, nat_lit 101]⟩⟩ (nat_lit 255) (.builtin "off-the-table:_sre.getcodesize:shared#opaque"), de P ⟨⟨[nat_lit 97, nat_lit 115, nat_lit 99, nat_lit 105, nat_lit 105, nat_lit 95, nat_lit 105, nat_lit 115, nat_lit 99, nat_lit 97, nat_lit 115, nat_lit 101, nat_lit 100]⟩⟩ (nat_lit 256) (.builtin "off-the-table:_sre.ascii_iscased:shared#opaque"), de P ⟨⟨[nat_lit 117, nat_lit 110, nat_lit 105, nat_lit 99, nat_lit 111, nat_lit 100, nat_lit 101, nat_lit 95, nat_lit 105, nat_lit 115, nat_lit 99, nat_lit 97, nat_lit 115, nat_lit 101, nat_lit 100]⟩⟩ (nat_lit 257) (.builtin "off-the-table:_sre.unicode_iscased:shared#opaque"), de P ⟨⟨[nat_lit 97, nat_lit 115, nat_lit 99, nat_lit 105, nat_lit 105, nat_lit 95, nat_lit 116, nat_lit 111, nat_lit 108, nat_lit 111, nat_lit 119, nat_lit 101, nat_lit 114]⟩⟩ (nat_lit 258) (.builtin "off-the-table:_sre.ascii_tolower:shared#opaque"), de P ⟨⟨[nat_lit 117, nat_lit 110, nat_lit 105, nat_lit 99, nat_lit 111, nat_lit 100, nat_lit 101, nat_lit 95, nat_lit 116, nat_lit 111, nat_lit 108, nat_lit 111, nat_lit 119, nat_lit 101, nat_lit 114]⟩⟩ (nat_lit 259) (.builtin "off-the-table:_sre.unicode_tolower:shared#opaque"), de P ⟨⟨[nat_lit 77, nat_lit 65, nat_lit 71, nat_lit 73, nat_lit 67]⟩⟩ (nat_lit 261) (.int (.ofNat (nat_lit 20230612)) (nat_lit 260)), de P ⟨⟨[nat_lit 67, nat_lit 79, nat_lit 68, nat_lit 69, nat_lit 83, nat_lit 73, nat_lit 90, nat_lit 69]⟩⟩ (nat_lit 263) (.int (.ofNat (nat_lit 4)) (nat_lit 262)), de P ⟨⟨[nat_lit 77, nat_lit 65, nat_lit 88, nat_lit 82, nat_lit 69, nat_lit 80, nat_lit 69, nat_lit 65, nat_lit 84]⟩⟩ (nat_lit 265) (.int (.ofNat (nat_lit 4294967295)) (nat_lit 264)), de P ⟨⟨[nat_lit 77, nat_lit 65, nat_lit 88, nat_lit 71, nat_lit 82, nat_lit 79, nat_lit 85, nat_lit 80, nat_lit 83]⟩⟩ (nat_lit 267) (.int (.ofNat (nat_lit 1073741823)) (nat_lit 266)), de P hs.c7 (nat_lit 269) (.str ⟨⟨[nat_lit 32, nat_lit 83, nat_lit 82, nat_lit 69, nat_lit 32, nat_lit 50, nat_lit 46, nat_lit 50, nat_lit 46, nat_lit 50, nat_lit 32, nat_lit 67, nat_lit 111, nat_lit 112, nat_lit 121, nat_lit 114, nat_lit 105, nat_lit 103, nat_lit 104, nat_lit 116, nat_lit 32, nat_lit 40, nat_lit 99, nat_lit 41, nat_lit 32, nat_lit 49, nat_lit 57, nat_lit 57, nat_lit 55, nat_lit 45, nat_lit 50, nat_lit 48, nat_lit 48, nat_lit 50, nat_lit 32, nat_lit 98, nat_lit 121, nat_lit 32, nat_lit 83, nat_lit 101, nat_lit 99, nat_lit 114, nat_lit 101, nat_lit 116, nat_lit 32, nat_lit 76, nat_lit 97, nat_lit 98, nat_lit 115, nat_lit 32, nat_lit 65, nat_lit 66, nat_lit 32]⟩⟩ (nat_lit 268))]⟩ (nat_lit 17), ⟨[]⟩⟩
noncomputable def hs.o12v0 (_ : Params) : Obj := ⟨.type "module", (some (nat_lit 11)), .plain, ⟨[]⟩⟩
noncomputable def hs.o13v0 (P : Params) : Obj := ⟨.type "dict", none, .dict ⟨[de P hs.c16 (nat_lit 189) (.str hs.c17 (nat_lit 186)), de P hs.c18 (nat_lit 190) (.int (.ofNat (nat_lit 971)) (nat_lit 187)), de P hs.c2 (nat_lit 191) (.builtin "_frozen_importlib.BuiltinImporter.__doc__:str#opaque"), de P ⟨⟨[nat_lit 95, nat_lit 79, nat_lit 82, nat_lit 73, nat_lit 71, nat_lit 73, nat_lit 78]⟩⟩ (nat_lit 192) (.str hs.c19 (nat_lit 188)), de P ⟨⟨[nat_lit 102, nat_lit 105, nat_lit 110, nat_lit 100, nat_lit 95, nat_lit 115, nat_lit 112, nat_lit 101, nat_lit 99]⟩⟩ (nat_lit 193) (.builtin "_frozen_importlib.BuiltinImporter.find_spec#opaque"), de P ⟨⟨[nat_lit 99, nat_lit 114, nat_lit 101, nat_lit 97, nat_lit 116, nat_lit 101, nat_lit 95, nat_lit 109, nat_lit 111, nat_lit 100, nat_lit 117, nat_lit 108, nat_lit 101]⟩⟩ (nat_lit 194) (.builtin "_frozen_importlib.BuiltinImporter.create_module#opaque"), de P ⟨⟨[nat_lit 101, nat_lit 120, nat_lit 101, nat_lit 99, nat_lit 95, nat_lit 109, nat_lit 111, nat_lit 100, nat_lit 117, nat_lit 108, nat_lit 101]⟩⟩ (nat_lit 195) (.builtin "_frozen_importlib.BuiltinImporter.exec_module#opaque"), de P ⟨⟨[nat_lit 103, nat_lit 101, nat_lit 116, nat_lit 95, nat_lit 99, nat_lit 111, nat_lit 100, nat_lit 101]⟩⟩ (nat_lit 196) (.builtin "_frozen_importlib.BuiltinImporter.get_code#opaque"), de P ⟨⟨[nat_lit 103, nat_lit 101, nat_lit 116, nat_lit 95, nat_lit 115, nat_lit 111, nat_lit 117, nat_lit 114, nat_lit 99, nat_lit 101]⟩⟩ (nat_lit 197) (.builtin "_frozen_importlib.BuiltinImporter.get_source#opaque"), de P ⟨⟨[nat_lit 105, nat_lit 115, nat_lit 95, nat_lit 112, nat_lit 97, nat_lit 99, nat_lit 107, nat_lit 97, nat_lit 103, nat_lit 101]⟩⟩ (nat_lit 198) (.builtin "_frozen_importlib.BuiltinImporter.is_package#opaque"), de P ⟨⟨[nat_lit 108, nat_lit 111, nat_lit 97, nat_lit 100, nat_lit 95, nat_lit 109, nat_lit 111, nat_lit 100, nat_lit 117, nat_lit 108, nat_lit 101]⟩⟩ (nat_lit 199) (.builtin "_frozen_importlib.BuiltinImporter.load_module#opaque"), de P hs.c20 (nat_lit 200) (.ref (nat_lit 15)), de P hs.c21 (nat_lit 202) (.ref (nat_lit 16)), de P hs.c22 (nat_lit 204) (.ref (nat_lit 17))]⟩ (nat_lit 14), ⟨[]⟩⟩
noncomputable def hs.o14v0 (_ : Params) : Obj := ⟨.type "type", none, .cls ⟨hs.c23, [.type "object"], [.ref (nat_lit 14), .type "object"], nat_lit 13, hs.c23, true, [], [], false, none, false⟩, ⟨[]⟩⟩
noncomputable def hs.o15v0 (_ : Params) : Obj := ⟨.type "tuple", none, .seq ⟨[]⟩ (nat_lit 0), ⟨[]⟩⟩
noncomputable def hs.o16v0 (_ : Params) : Obj := ⟨.type "getset_descriptor", none, .fields ⟨[.str hs.c21 (nat_lit 201), .ref (nat_lit 14), .builtin "function.__dict__", .builtin "function.__dict__#set"]⟩, ⟨[]⟩⟩
noncomputable def hs.o17v0 (_ : Params) : Obj := ⟨.type "getset_descriptor", none, .fields ⟨[.str hs.c22 (nat_lit 203), .ref (nat_lit 14), .builtin "ExceptionGroup.__weakref__", .none]⟩, ⟨[]⟩⟩
noncomputable def hs.o18v0 (_ : Params) : Obj := ⟨.none, none, .seq ⟨[.int (.ofNat (nat_lit 13)) (nat_lit 0), .str ⟨⟨[nat_lit 6, nat_lit 189, nat_lit 10, nat_lit 95, nat_lit 95, nat_lit 109, nat_lit 111, nat_lit 100, nat_lit 117, nat_lit 108, nat_lit 101, nat_lit 95, nat_lit 95, nat_lit 6, nat_lit 186, nat_lit 17, nat_lit 95, nat_lit 102, nat_lit 114, nat_lit 111, nat_lit 122, nat_lit 101, nat_lit 110, nat_lit 95, nat_lit 105, nat_lit 109, nat_lit 112, nat_lit 111, nat_lit 114, nat_lit 116, nat_lit 108, nat_lit 105, nat_lit 98, nat_lit 6, nat_lit 190, nat_lit 15, nat_lit 95, nat_lit 95, nat_lit 102, nat_lit 105, nat_lit 114, nat_lit 115, nat_lit 116, nat_lit 108, nat_lit 105, nat_lit 110, nat_lit 101, nat_lit 110, nat_lit 111, nat_lit 95, nat_lit 95, nat_lit 4, nat_lit 187, nat_lit 0, nat_lit 971, nat_lit 6, nat_lit 191, nat_lit 7, nat_lit 95, nat_lit 95, nat_lit 100, nat_lit 111, nat_lit 99, nat_lit 95, nat_lit 95, nat_lit 9, nat_lit 52, nat_lit 95, nat_lit 102, nat_lit 114, nat_lit 111, nat_lit 122, nat_lit 101, nat_lit 110, nat_lit 95, nat_lit 105, nat_lit 109, nat_lit 112, nat_lit 111, nat_lit 114, nat_lit 116, nat_lit 108, nat_lit 105, nat_lit 98, nat_lit 46, nat_lit 66, nat_lit 117, nat_lit 105, nat_lit 108, nat_lit 116, nat_lit 105, nat_lit 110, nat_lit 73, nat_lit 109, nat_lit 112, nat_lit 111, nat_lit 114, nat_lit 116, nat_lit 101, nat_lit 114, nat_lit 46, nat_lit 95, nat_lit 95, nat_lit 100, nat_lit 111, nat_lit 99, nat_lit 95, nat_lit 95, nat_lit 58, nat_lit 115, nat_lit 116, nat_lit 114, nat_lit 35, nat_lit 111, nat_lit 112, nat_lit 97, nat_lit 113, nat_lit 117, nat_lit 101, nat_lit 6, nat_lit 192, nat_lit 7, nat_lit 95, nat_lit 79, nat_lit 82, nat_lit 73, nat_lit 71, nat_lit 73, nat_lit 78, nat_lit 6, nat_lit 188, nat_lit 8, nat_lit 98, nat_lit 117, nat_lit 105, nat_lit 108, nat_lit 116, nat_lit 45, nat_lit 105, nat_lit 110, nat_lit 6, nat_lit 193, nat_lit 9, nat_lit 102, nat_lit 105, nat_lit 110, nat_lit 100, nat_lit 95, nat_lit 115, nat_lit 112, nat_lit 101, nat_lit 99, nat_lit 9, nat_lit 50, nat_lit 95, nat_lit 102, nat_lit 114, nat_lit 111, nat_lit 122, nat_lit 101, nat_lit 110, nat_lit 95, nat_lit 105, nat_lit 109, nat_lit 112, nat_lit 111, nat_lit 114, nat_lit 116, nat_lit 108, nat_lit 105, nat_lit 98, nat_lit 46, nat_lit 66, nat_lit 117, nat_lit 105, nat_lit 108, nat_lit 116, nat_lit 105, nat_lit 110, nat_lit 73, nat_lit 109, nat_lit 112, nat_lit 111, nat_lit 114, nat_lit 116, nat_lit 101, nat_lit 114, nat_lit 46, nat_lit 102, nat_lit 105, nat_lit 110, nat_lit 100, nat_lit 95, nat_lit 115, nat_lit 112, nat_lit 101, nat_lit 99, nat_lit 35, nat_lit 111, nat_lit 112, nat_lit 97, nat_lit 113, nat_lit 117, nat_lit 101, nat_lit 6, nat_lit 194, nat_lit 13, nat_lit 99, nat_lit 114, nat_lit 101, nat_lit 97, nat_lit 116, nat_lit 101, nat_lit 95, nat_lit 109, nat_lit 111, nat_lit 100, nat_lit 117, nat_lit 108, nat_lit 101, nat_lit 9, nat_lit 54, nat_lit 95, nat_lit 102, nat_lit 114, nat_lit 111, nat_lit 122, nat_lit 101, nat_lit 110, nat_lit 95, nat_lit 105, nat_lit 109, nat_lit 112, nat_lit 111, nat_lit 114, nat_lit 116, nat_lit 108, nat_lit 105, nat_lit 98, nat_lit 46, nat_lit 66, nat_lit 117, nat_lit 105, nat_lit 108, nat_lit 116, nat_lit 105, nat_lit 110, nat_lit 73, nat_lit 109, nat_lit 112, nat_lit 111, nat_lit 114, nat_lit 116, nat_lit 101, nat_lit 114, nat_lit 46, nat_lit 99, nat_lit 114, nat_lit 101, nat_lit 97, nat_lit 116, nat_lit 101, nat_lit 95, nat_lit 109, nat_lit 111, nat_lit 100, nat_lit 117, nat_lit 108, nat_lit 101, nat_lit 35, nat_lit 111, nat_lit 112, nat_lit 97, nat_lit 113, nat_lit 117, nat_lit 101, nat_lit 6, nat_lit 195, nat_lit 11, nat_lit 101, nat_lit 120, nat_lit 101, nat_lit 99, nat_lit 95, nat_lit 109, nat_lit 111, nat_lit 100, nat_lit 117, nat_lit 108, nat_lit 101, nat_lit 9, nat_lit 52, nat_lit 95, nat_lit 102, nat_lit 114, nat_lit 111, nat_lit 122, nat_lit 101, nat_lit 110, nat_lit 95, nat_lit 105, nat_lit 109, nat_lit 112, nat_lit 111, nat_lit 114, nat_lit 116, nat_lit 108, nat_lit 105, nat_lit 98, nat_lit 46, nat_lit 66, nat_lit 117, nat_lit 105, nat_lit 108, nat_lit 116, nat_lit 105, nat_lit 110, nat_lit 73, nat_lit 109, nat_lit 112, nat_lit 111, nat_lit 114, nat_lit 116, nat_lit 101, nat_lit 114, nat_lit 46, nat_lit 101, nat_lit 120, nat_lit 101, nat_lit 99, nat_lit 95, nat_lit 109, nat_lit 111, nat_lit 100, nat_lit 117, nat_lit 108, nat_lit 101, nat_lit 35, nat_lit 111, nat_lit 112, nat_lit 97, nat_lit 113, nat_lit 117, nat_lit 101, nat_lit 6, nat_lit 196, nat_lit 8, nat_lit 103, nat_lit 101, nat_lit 116, nat_lit 95, nat_lit 99, nat_lit 111, nat_lit 100, nat_lit 101, nat_lit 9, nat_lit 49, nat_lit 95, nat_lit 102, nat_lit 114, nat_lit 111, nat_lit 122, nat_lit 101, nat_lit 110, nat_lit 95, nat_lit 105, nat_lit 109, nat_lit 112, nat_lit 111, nat_lit 114, nat_lit 116, nat_lit 108, nat_lit 105, nat_lit 98, nat_lit 46, nat_lit 66, nat_lit 117, nat_lit 105, nat_lit 108, nat_lit 116, nat_lit 105, nat_lit 110, nat_lit 73, nat_lit 109, nat_lit 112, nat_lit 111, nat_lit 114, nat_lit 116, nat_lit 101, nat_lit 114, nat_lit 46, nat_lit 103, nat_lit 101, nat_lit 116, nat_lit 95, nat_lit 99, nat_lit 111, nat_lit 100, nat_lit 101, nat_lit 35, nat_lit 111, nat_lit 112, nat_lit 97, nat_lit 113, nat_lit 117, nat_lit 101, nat_lit 6, nat_lit 197, nat_lit 10, nat_lit 103, nat_lit 101, nat_lit 116, nat_lit 95, nat_lit 115, nat_lit 111, nat_lit 117, nat_lit 114, nat_lit 99, nat_lit 101, nat_lit 9, nat_lit 51, nat_lit 95, nat_lit 102, nat_lit 114, nat_lit 111, nat_lit 122, nat_lit 101, nat_lit 110, nat_lit 95, nat_lit 105, nat_lit 109, nat_lit 112, nat_lit 111, nat_lit 114, nat_lit 116, nat_lit 108, nat_lit 105, nat_lit 98, nat_lit 46, nat_lit 66, nat_lit 117, nat_lit 105, nat_lit 108, nat_lit 116, nat_lit 105, nat_lit 110, nat_lit 73, nat_lit 109, nat_lit 112, nat_lit 111, nat_lit 114, nat_lit 116, nat_lit 101, nat_lit 114, nat_lit 46, nat_lit 103, nat_lit 101, nat_lit 116, nat_lit 95, nat_lit 115, nat_lit 111, nat_lit 117, nat_lit 114, nat_lit 99, nat_lit 101, nat_lit 35, nat_lit 111, nat_lit 112, nat_lit 97, nat_lit 113, nat_lit 117, nat_lit 101, nat_lit 6, nat_lit 198, nat_lit 10, nat_lit 105, nat_lit 115, nat_lit 95, nat_lit 112, nat_lit 97, nat_lit 99, nat_lit 107, nat_lit 97, nat_lit 103, nat_lit 101, nat_lit 9, nat_lit 51, nat_lit 95, nat_lit 102, nat_lit 114, nat_lit 111, nat_lit 122, nat_lit 101, nat_lit 110, nat_lit 95, nat_lit 105, nat_lit 109, nat_lit 112, nat_lit 111, nat_lit 114, nat_lit 116, nat_lit 108, nat_lit 105, nat_lit 98, nat_lit 46, nat_lit 66, nat_lit 117, nat_lit 105, nat_lit 108, nat_lit 116, nat_lit 105, nat_lit 110, nat_lit 73, nat_lit 109, nat_lit 112, nat_lit 111, nat_lit 114, nat_lit 116, nat_lit 101, nat_lit 114, nat_lit 46, nat_lit 105, nat_lit 115, nat_lit 95, nat_lit 112, nat_lit 97, nat_lit 99, nat_lit 107, nat_lit 97, nat_lit 103, nat_lit 101, nat_lit 35, nat_lit 111, nat_lit 112, nat_lit 97, nat_lit 113, nat_lit 117, nat_lit 101, nat_lit 6, nat_lit 199, nat_lit 11, nat_lit 108, nat_lit 111, nat_lit 97, nat_lit 100, nat_lit 95, nat_lit 109, nat_lit 111, nat_lit 100, nat_lit 117, nat_lit 108, nat_lit 101, nat_lit 9, nat_lit 52, nat_lit 95, nat_lit 102, nat_lit 114, nat_lit 111, nat_lit 122, nat_lit 101, nat_lit 110, nat_lit 95, nat_lit 105, nat_lit 109, nat_lit 112, nat_lit 111, nat_lit 114, nat_lit 116, nat_lit 108, nat_lit 105, nat_lit 98, nat_lit 46, nat_lit 66, nat_lit 117, nat_lit 105, nat_lit 108, nat_lit 116, nat_lit 105, nat_lit 110, nat_lit 73, nat_lit 109, nat_lit 112, nat_lit 111, nat_lit 114, nat_lit 116, nat_lit 101, nat_lit 114, nat_lit 46, nat_lit 108, nat_lit 111, nat_lit 97, nat_lit 100, nat_lit 95, nat_lit 109, nat_lit 111, nat_lit 100, nat_lit 117, nat_lit 108, nat_lit 101, nat_lit 35, nat_lit 111, nat_lit 112, nat_lit 97, nat_lit 113, nat_lit 117, nat_lit 101, nat_lit 6, nat_lit 200, nat_lit 21, nat_lit 95, nat_lit 95, nat_lit 115, nat_lit 116, nat_lit 97, nat_lit 116, nat_lit 105, nat_lit 99, nat_lit 95, nat_lit 97, nat_lit 116, nat_lit 116, nat_lit 114, nat_lit 105, nat_lit 98, nat_lit 117, nat_lit 116, nat_lit 101, nat_lit 115, nat_lit 95, nat_lit 95, nat_lit 4, nat_lit 0, nat_lit 0, nat_lit 15, nat_lit 6, nat_lit 202, nat_lit 8, nat_lit 95, nat_lit 95, nat_lit 100, nat_lit 105, nat_lit 99, nat_lit 116, nat_lit 95, nat_lit 95, nat_lit 4, nat_lit 0, nat_lit 0, nat_lit 16, nat_lit 6, nat_lit 204, nat_lit 11, nat_lit 95, nat_lit 95, nat_lit 119, nat_lit 101, nat_lit 97, nat_lit 107, nat_lit 114, nat_lit 101, nat_lit 102, nat_lit 95, nat_lit 95, nat_lit 4, nat_lit 0, nat_lit 0, nat_lit 17]⟩⟩ (nat_lit 0), .bool true, .bool true, .str ⟨⟨[]⟩⟩ (nat_lit 205), .int (.ofNat (nat_lit 21)) (nat_lit 0), .str ⟨⟨[nat_lit 6, nat_lit 227, nat_lit 10, nat_lit 95, nat_lit 95, nat_lit 109, nat_lit 111, nat_lit 100, nat_lit 117, nat_lit 108, nat_lit 101, nat_lit 95, nat_lit 95, nat_lit 6, nat_lit 217, nat_lit 17, nat_lit 95, nat_lit 102, nat_lit 114, nat_lit 111, nat_lit 122, nat_lit 101, nat_lit 110, nat_lit 95, nat_lit 105, nat_lit 109, nat_lit 112, nat_lit 111, nat_lit 114, nat_lit 116, nat_lit 108, nat_lit 105, nat_lit 98, nat_lit 6, nat_lit 228, nat_lit 15, nat_lit 95, nat_lit 95, nat_lit 102, nat_lit 105, nat_lit 114, nat_lit 115, nat_lit 116, nat_lit 108, nat_lit 105, nat_lit 110, nat_lit 101, nat_lit 110, nat_lit 111, nat_lit 95, nat_lit 95, nat_lit 4, nat_lit 218, nat_lit 0, nat_lit 562, nat_lit 6, nat_lit 229, nat_lit 7, nat_lit 95, nat_lit 95, nat_lit 100, nat_lit 111, nat_lit 99, nat_lit 95, nat_lit 95, nat_lit 9, nat_lit 47, nat_lit 95, nat_lit 102, nat_lit 114, nat_lit 111, nat_lit 122, nat_lit 101, nat_lit 110, nat_lit 95, nat_lit 105, nat_lit 109, nat_lit 112, nat_lit 111, nat_lit 114, nat_lit 116, nat_lit 108, nat_lit 105, nat_lit 98, nat_lit 46, nat_lit 77, nat_lit 111, nat_lit 100, nat_lit 117, nat_lit 108, nat_lit 101, nat_lit 83, nat_lit 112, nat_lit 101, nat_lit 99, nat_lit 46, nat_lit 95, nat_lit 95, nat_lit 100, nat_lit 111, nat_lit 99, nat_lit 95, nat_lit 95, nat_lit 58, nat_lit 115, nat_lit 116, nat_lit 114, nat_lit 35, nat_lit 111, nat_lit 112, nat_lit 97, nat_lit 113, nat_lit 117, nat_lit 101, nat_lit 6, nat_lit 230, nat_lit 8, nat_lit 95, nat_lit 95, nat_lit 105, nat_lit 110, nat_lit 105, nat_lit 116, nat_lit 95, nat_lit 95, nat_lit 9, nat_lit 44, nat_lit 95, nat_lit 102, nat_lit 114, nat_lit 111, nat_lit 122, nat_lit 101, nat_lit 110, nat_lit 95, nat_lit 105, nat_lit 109, nat_lit 112, nat_lit 111, nat_lit 114, nat_lit 116, nat_lit 108, nat_lit 105, nat_lit 98, nat_lit 46, nat_lit 77, nat_lit 111, nat_lit 100, nat_lit 117, nat_lit 108, nat_lit 101, nat_lit 83, nat_lit 112, nat_lit 101, nat_lit 99, nat_lit 46, nat_lit 95, nat_lit 95, nat_lit 105, nat_lit 110, nat_lit 105, nat_lit 116, nat_lit 95, nat_lit 95, nat_lit 35, nat_lit 111, nat_lit 112, nat_lit 97, nat_lit 113, nat_lit 117, nat_lit 101, nat_lit 6, nat_lit 231, nat_lit 8, nat_lit 95, nat_lit 95, nat_lit 114, nat_lit 101, nat_lit 112, nat_lit 114, nat_lit 95, nat_lit 95, nat_lit 9, nat_lit 44, nat_lit 95, nat_lit 102, nat_lit 114, nat_lit 111, nat_lit 122, nat_lit 101, nat_lit 110, nat_lit 95, nat_lit 105, nat_lit 109, nat_lit 112, nat_lit 111, nat_lit 114, nat_lit 116, nat_lit 108, nat_lit 105, nat_lit 98, nat_lit 46, nat_lit 77, nat_lit 111, nat_lit 100, nat_lit 117, nat_lit 108, nat_lit 101, nat_lit 83, nat_lit 112, nat_lit 101, nat_lit 99, nat_lit 46, nat_lit 95, nat_lit 95, nat_lit 114, nat_lit 101, nat_lit 112, nat_lit 114, nat_lit 95, nat_lit 95, nat_lit 35, nat_lit 111, nat_lit 112, nat_lit 97, nat_lit 113, nat_lit 117, nat_lit 101, nat_lit 6, nat_lit 232, nat_lit 6, nat_lit 95, nat_lit 95, nat_lit 101, nat_lit 113, nat_lit 95, nat_lit 95, nat_lit 9, nat_lit 42, nat_lit 95, nat_lit 102, nat_lit 114, nat_lit 111, nat_lit 122, nat_lit 101, nat_lit 110, nat_lit 95, nat_lit 105, nat_lit 109, nat_lit 112, nat_lit 111, nat_lit 114, nat_lit 116, nat_lit 108, nat_lit 105, nat_lit 98, nat_lit 46, nat_lit 77, nat_lit 111, nat_lit 100, nat_lit 117, nat_lit 108, nat_lit 101, nat_lit 83, nat_lit 112, nat_lit 101, nat_lit 99, nat_lit 46, nat_lit 95, nat_lit 95, nat_lit 101, nat_lit 113, nat_lit 95, nat_lit 95, nat_lit 35, nat_lit 111, nat_lit 112, nat_lit 97, nat_lit 113, nat_lit 117, nat_lit 101, nat_lit 6, nat_lit 233, nat_lit 6, nat_lit 99, nat_lit 97, nat_lit 99, nat_lit 104, nat_lit 101, nat_lit 100, nat_lit 9, nat_lit 42, nat_lit 95, nat_lit 102, nat_lit 114, nat_lit 111, nat_lit 122, nat_lit 101, nat_lit 110, nat_lit 95, nat_lit 105, nat_lit 109, nat_lit 112, nat_lit 111, nat_lit 114, nat_lit 116, nat_lit 108, nat_lit 105, nat_lit 98, nat_lit 46, nat_lit 77, nat_lit 111, nat_lit 100, nat_lit 117, nat_lit 108, nat_lit 101, nat_lit 83, nat_lit 112, nat_lit 101, nat_lit 99, nat_lit 46, nat_lit 99, nat_lit 97, nat_lit 99, nat_lit 104, nat_lit 101, nat_lit 100, nat_lit 35, nat_lit 111, nat_lit 112, nat_lit 97, nat_lit 113, nat_lit 117, nat_lit 101, nat_lit 6, nat_lit 234, nat_lit 6, nat_lit 112, nat_lit 97, nat_lit 114, nat_lit 101, nat_lit 110, nat_lit 116, nat_lit 9, nat_lit 42, nat_lit 95, nat_lit 102, nat_lit 114, nat_lit 111, nat_lit 122, nat_lit 101, nat_lit 110, nat_lit 95, nat_lit 105, nat_lit 109, nat_lit 112, nat_lit 111, nat_lit 114, nat_lit 116, nat_lit 108, nat_lit 105, nat_lit 98, nat_lit 46, nat_lit 77, nat_lit 111, nat_lit 100, nat_lit 117, nat_lit 108, nat_lit 101, nat_lit 83, nat_lit 112, nat_lit 101, nat_lit 99, nat_lit 46, nat_lit 112, nat_lit 97, nat_lit 114, nat_lit 101, nat_lit 110, nat_lit 116, nat_lit 35, nat_lit 111, nat_lit 112, nat_lit 97, nat_lit 113, nat_lit 117, nat_lit 101, nat_lit 6, nat_lit 235, nat_lit 12, nat_lit 104, nat_lit 97, nat_lit 115, nat_lit 95, nat_lit 108, nat_lit 111, nat_lit 99, nat_lit 97, nat_lit 116, nat_lit 105, nat_lit 111, nat_lit 110, nat_lit 9, nat_lit 48, nat_lit 95, nat_lit 102, nat_lit 114, nat_lit 111, nat_lit 122, nat_lit 101, nat_lit 110, nat_lit 95, nat_lit 105, nat_lit 109, nat_lit 112, nat_lit 111, nat_lit 114, nat_lit 116, nat_lit 108, nat_lit 105, nat_lit 98, nat_lit 46, nat_lit 77, nat_lit 111, nat_lit 100, nat_lit 117, nat_lit 108, nat_lit 101, nat_lit 83, nat_lit 112, nat_lit 101, nat_lit 99, nat_lit 46, nat_lit 104, nat_lit 97, nat_lit 115, nat_lit 95, nat_lit 108, nat_lit 111, nat_lit 99, nat_lit 97, nat_lit 116, nat_lit 105, nat_lit 111, nat_lit 110, nat_lit 35, nat_lit 111, nat_lit 112, nat_lit 97, nat_lit 113, nat_lit 117, nat_lit 101, nat_lit 6, nat_lit 236, nat_lit 21, nat_lit 95, nat_lit 95, nat_lit 115, nat_lit 116, nat_lit 97, nat_lit 116, nat_lit 105, nat_lit 99, nat_lit 95, nat_lit 97, nat_lit 116, nat_lit 116, nat_lit 114, nat_lit 105, nat_lit 98, nat_lit 117, nat_lit 116, nat_lit 101, nat_lit 115, nat_lit 95, nat_lit 95, nat_lit 4, nat_lit 0, nat_lit 0, nat_lit 23, nat_lit 6, nat_lit 238, nat_lit 8, nat_lit 95, nat_lit 95, nat_lit 100, nat_lit 105, nat_lit 99, nat_lit 116, nat_lit 95, nat_lit 95, nat_lit 4, nat_lit 0, nat_lit 0, nat_lit 24, nat_lit 6, nat_lit 240, nat_lit 11, nat_lit 95, nat_lit 95, nat_lit 119, nat_lit 101, nat_lit 97, nat_lit 107, nat_lit 114, nat_lit 101, nat_lit 102, nat_lit 95, nat_lit 95, nat_lit 4, nat_lit 0, nat_lit 0, nat_lit 25, nat_lit 6, nat_lit 241, nat_lit 8, nat_lit 95, nat_lit 95, nat_lit 104, nat_lit 97, nat_lit 115, nat_lit 104, nat_lit 95, nat_lit 95, nat_lit 0]⟩⟩ (nat_lit 0), .bool true, .bool true, .str ⟨⟨[]⟩⟩ (nat_lit 242)]⟩ (nat_lit 1), ⟨[]⟩⟩
noncomputable def hs.o19v0 (_ : Params) : Obj := ⟨.type "list", none, .seq ⟨[]⟩ (nat_lit 0), ⟨[]⟩⟩
noncomputable def hs.o20v0 (P : Params) : Obj := ⟨.type "dict", none, .dict ⟨[de P hs.c24 (nat_lit 208) (.str hs.c9 (nat_lit 207)), de P hs.c25 (nat_lit 209) (.ref (nat_lit 14)), de P hs.c26 (nat_lit 210) (.str hs.c19 (nat_lit 184)), de P hs.c27 (nat_lit 211) (.none), de P hs.c28 (nat_lit 212) (.none), de P hs.c29 (nat_lit 213) (.ref (nat_lit 19)), de P hs.c30 (nat_lit 214) (.bool false), de P hs.c31 (nat_lit 215) (.none), de P ⟨⟨[nat_lit 95, nat_lit 105, nat_lit 110, nat_lit 105, nat_lit 116, nat_lit 105, nat_lit 97, nat_lit 108, nat_lit 105, nat_lit 122, nat_lit 105, nat_lit 110, nat_lit 103]⟩⟩ (nat_lit 243) (.bool false)]⟩ (nat_lit 9), ⟨[]⟩⟩
noncomputable def hs.o21v0 (P : Params) : Obj := ⟨.type "dict", none, .dict ⟨[de P hs.c16 (nat_lit 227) (.str hs.c17 (nat_lit 217)), de P hs.c18 (nat_lit 228) (.int (.ofNat (nat_lit 562)) (nat_lit 218)), de P hs.c2 (nat_lit 229) (.builtin "_frozen_importlib.ModuleSpec.__doc__:str#opaque"), de P ⟨⟨[nat_lit 95, nat_lit 95, nat_lit 105, nat_lit 110, nat_lit 105, nat_lit 116, nat_lit 95, nat_lit 95]⟩⟩ (nat_lit 230) (.builtin "_frozen_importlib.ModuleSpec.__init__#opaque"), de P ⟨⟨[nat_lit 95, nat_lit 95, nat_lit 114, nat_lit 101, nat_lit 112, nat_lit 114, nat_lit 95, nat_lit 95]⟩⟩ (nat_lit 231) (.builtin "_frozen_importlib.ModuleSpec.__repr__#opaque"), de P ⟨⟨[nat_lit 95, nat_lit 95, nat_lit 101, nat_lit 113, nat_lit 95, nat_lit 95]⟩⟩ (nat_lit 232) (.builtin "_frozen_importlib.ModuleSpec.__eq__#opaque"), de P ⟨⟨[nat_lit 99, nat_lit 97, nat_lit 99, nat_lit 104, nat_lit 101, nat_lit 100]⟩⟩ (nat_lit 233) (.builtin "_frozen_importlib.ModuleSpec.cached#opaque"), de P ⟨⟨[nat_lit 112, nat_lit 97, nat_lit 114, nat_lit 101, nat_lit 110, nat_lit 116]⟩⟩ (nat_lit 234) (.builtin "_frozen_importlib.ModuleSpec.parent#opaque"), de P ⟨⟨[nat_lit 104, nat_lit 97, nat_lit 115, nat_lit 95, nat_lit 108, nat_lit 111, nat_lit 99, nat_lit 97, nat_lit 116, nat_lit 105, nat_lit 111, nat_lit 110]⟩⟩ (nat_lit 235) (.builtin "_frozen_importlib.ModuleSpec.has_location#opaque"), de P hs.c20 (nat_lit 236) (.ref (nat_lit 23)), de P hs.c21 (nat_lit 238) (.ref (nat_lit 24)), de P hs.c22 (nat_lit 240) (.ref (nat_lit 25)), de P ⟨⟨[nat_lit 95, nat_lit 95, nat_lit 104, nat_lit 97, nat_lit 115, nat_lit 104, nat_lit 95, nat_lit 95]⟩⟩ (nat_lit 241) (.none)]⟩ (nat_lit 13), ⟨[]⟩⟩
noncomputable def hs.o22v0 (_ : Params) : Obj := ⟨.type "type", none, .cls ⟨hs.c32, [.type "object"], [.ref (nat_lit 22), .type "object"], nat_lit 21, hs.c32, true, [], [], false, none, false⟩, ⟨[]⟩⟩
noncomputable def hs.o23v0 (_ : Params) : Obj := ⟨.type "tuple", none, .seq ⟨[.str hs.c31 (nat_lit 219), .str hs.c30 (nat_lit 220), .str hs.c29 (nat_lit 221), .str hs.c25 (nat_lit 222), .str hs.c27 (nat_lit 223), .str hs.c24 (nat_lit 224), .str hs.c26 (nat_lit 225), .str hs.c28 (nat_lit 226)]⟩ (nat_lit 0), ⟨[]⟩⟩
noncomputable def hs.o24v0 (_ : Params) : Obj := ⟨.type "getset_descriptor", none, .fields ⟨[.str hs.c21 (nat_lit 237), .ref (nat_lit 22), .builtin "function.__dict__", .builtin "function.__dict__#set"]⟩, ⟨[]⟩⟩
noncomputable def hs.o25v0 (_ : Params) : Obj := ⟨.type "getset_descriptor", none, .fields ⟨[.str hs.c22 (nat_lit 239), .ref (nat_lit 22), .builtin "ExceptionGroup.__weakref__", .none]⟩, ⟨[]⟩⟩
noncomputable def hs.o26v0 (_ : Params) : Obj := ⟨.ref (nat_lit 22), (some (nat_lit 20)), .plain, ⟨[]⟩⟩
noncomputable def hs.o27v0 (_ : Params) : Obj := ⟨.none, none, .seq ⟨[.int (.ofNat (nat_lit 11)) (nat_lit 0), .str ⟨⟨[nat_lit 6, nat_lit 247, nat_lit 8, nat_lit 95, nat_lit 95, nat_lit 110, nat_lit 97, nat_lit 109, nat_lit 101, nat_lit 95, nat_lit 95, nat_lit 6, nat_lit 246, nat_lit 4, nat_lit 95, nat_lit 115, nat_lit 114, nat_lit 101, nat_lit 6, nat_lit 248, nat_lit 7, nat_lit 95, nat_lit 95, nat_lit 100, nat_lit 111, nat_lit 99, nat_lit 95, nat_lit 95, nat_lit 0, nat_lit 6, nat_lit 250, nat_lit 11, nat_lit 95, nat_lit 95, nat_lit 112, nat_lit 97, nat_lit 99, nat_lit 107, nat_lit 97, nat_lit 103, nat_lit 101, nat_lit 95, nat_lit 95, nat_lit 6, nat_lit 249, nat_lit 0, nat_lit 6, nat_lit 251, nat_lit 10, nat_lit 95, nat_lit 95, nat_lit 108, nat_lit 111, nat_lit 97, nat_lit 100, nat_lit 101, nat_lit 114, nat_lit 95, nat_lit 95, nat_lit 4, nat_lit 0, nat_lit 0, nat_lit 14, nat_lit 6, nat_lit 252, nat_lit 8, nat_lit 95, nat_lit 95, nat_lit 115, nat_lit 112, nat_lit 101, nat_lit 99, nat_lit 95, nat_lit 95, nat_lit 4, nat_lit 0, nat_lit 0, nat_lit 26, nat_lit 6, nat_lit 253, nat_lit 7, nat_lit 99, nat_lit 111, nat_lit 109, nat_lit 112, nat_lit 105, nat_lit 108, nat_lit 101, nat_lit 9, nat_lit 12, nat_lit 95, nat_lit 115, nat_lit 114, nat_lit 101, nat_lit 46, nat_lit 99, nat_lit 111, nat_lit 109, nat_lit 112, nat_lit 105, nat_lit 108, nat_lit 101, nat_lit 6, nat_lit 254, nat_lit 8, nat_lit 116, nat_lit 101, nat_lit 109, nat_lit 112, nat_lit 108, nat_lit 97, nat_lit 116, nat_lit 101, nat_lit 9, nat_lit 13, nat_lit 95, nat_lit 115, nat_lit 114, nat_lit 101, nat_lit 46, nat_lit 116, nat_lit 101, nat_lit 109, nat_lit 112, nat_lit 108, nat_lit 97, nat_lit 116, nat_lit 101, nat_lit 6, nat_lit 255, nat_lit 11, nat_lit 103, nat_lit 101, nat_lit 116, nat_lit 99, nat_lit 111, nat_lit 100, nat_lit 101, nat_lit 115, nat_lit 105, nat_lit 122, nat_lit 101, nat_lit 9, nat_lit 16, nat_lit 95, nat_lit 115, nat_lit 114, nat_lit 101, nat_lit 46, nat_lit 103, nat_lit 101, nat_lit 116, nat_lit 99, nat_lit 111, nat_lit 100, nat_lit 101, nat_lit 115, nat_lit 105, nat_lit 122, nat_lit 101, nat_lit 6, nat_lit 256, nat_lit 13, nat_lit 97, nat_lit 115, nat_lit 99, nat_lit 105, nat_lit 105, nat_lit 95, nat_lit 105, nat_lit 115, nat_lit 99, nat_lit 97, nat_lit 115, nat_lit 101, nat_lit 100, nat_lit 9, nat_lit 18, nat_lit 95, nat_lit 115, nat_lit 114, nat_lit 101, nat_lit 46, nat_lit 97, nat_lit 115, nat_lit 99, nat_lit 105, nat_lit 105, nat_lit 95, nat_lit 105, nat_lit 115, nat_lit 99, nat_lit 97, nat_lit 115, nat_lit 101, nat_lit 100, nat_lit 6, nat_lit 257, nat_lit 15, nat_lit 117, nat_lit 110, nat_lit 105, nat_lit 99, nat_lit 111, nat_lit 100, nat_lit 101, nat_lit 95, nat_lit 105, nat_lit 115, nat_lit 99, nat_lit 97, nat_lit 115, nat_lit 101, nat_lit 100, nat_lit 9, nat_lit 20, nat_lit 95, nat_lit 115, nat_lit 114, nat_lit 101, nat_lit 46, nat_lit 117, nat_lit 110, nat_lit 105, nat_lit 99, nat_lit 111, nat_lit 100, nat_lit 101, nat_lit 95, nat_lit 105, nat_lit 115, nat_lit 99, nat_lit 97, nat_lit 115, nat_lit 101, nat_lit 100, nat_lit 6, nat_lit 258, nat_lit 13, nat_lit 97, nat_lit 115, nat_lit 99, nat_lit 105, nat_lit 105, nat_lit 95, nat_lit 116, nat_lit 111, nat_lit 108, nat_lit 111, nat_lit 119, nat_lit 101, nat_lit 114, nat_lit 9, nat_lit 18, nat_lit 95, nat_lit 115, nat_lit 114, nat_lit 101, nat_lit 46, nat_lit 97, nat_lit 115, nat_lit 99, nat_lit 105, nat_lit 105, nat_lit 95, nat_lit 116, nat_lit 111, nat_lit 108, nat_lit 111, nat_lit 119, nat_lit 101, nat_lit 114, nat_lit 6, nat_lit 259, nat_lit 15, nat_lit 117, nat_lit 110, nat_lit 105, nat_lit 99, nat_lit 111, nat_lit 100, nat_lit 101, nat_lit 95, nat_lit 116, nat_lit 111, nat_lit 108, nat_lit 111, nat_lit 119, nat_lit 101, nat_lit 114, nat_lit 9, nat_lit 20, nat_lit 95, nat_lit 115, nat_lit 114, nat_lit 101, nat_lit 46, nat_lit 117, nat_lit 110, nat_lit 105, nat_lit 99, nat_lit 111, nat_lit 100, nat_lit 101, nat_lit 95, nat_lit 116, nat_lit 111, nat_lit 108, nat_lit 111, nat_lit 119, nat_lit 101, nat_lit 114, nat_lit 6, nat_lit 261, nat_lit 5, nat_lit 77, nat_lit 65, nat_lit 71, nat_lit 73, nat_lit 67, nat_lit 4, nat_lit 260, nat_lit 0, nat_lit 20230612, nat_lit 6, nat_lit 263, nat_lit 8, nat_lit 67, nat_lit 79, nat_lit 68, nat_lit 69, nat_lit 83, nat_lit 73, nat_lit 90, nat_lit 69, nat_lit 4, nat_lit 262, nat_lit 0, nat_lit 4, nat_lit 6, nat_lit 265, nat_lit 9, nat_lit 77, nat_lit 65, nat_lit 88, nat_lit 82, nat_lit 69, nat_lit 80, nat_lit 69, nat_lit 65, nat_lit 84, nat_lit 4, nat_lit 264, nat_lit 0, nat_lit 4294967295, nat_lit 6, nat_lit 267, nat_lit 9, nat_lit 77, nat_lit 65, nat_lit 88, nat_lit 71, nat_lit 82, nat_lit 79, nat_lit 85, nat_lit 80, nat_lit 83, nat_lit 4, nat_lit 266, nat_lit 0, nat_lit 1073741823, nat_lit 6, nat_lit 269, nat_lit 9, nat_lit 99, nat_lit 111, nat_lit 112, nat_lit 121, nat_lit 114, nat_lit 105, nat_lit 103, nat_lit 104, nat_lit 116, nat_lit 6, nat_lit 268, nat_lit 53, nat_lit 32, nat_lit 83, nat_lit 82, nat_lit 69, nat_lit 32, nat_lit 50, nat_lit 46, nat_lit 50, nat_lit 46, nat_lit 50, nat_lit 32, nat_lit 67, nat_lit 111, nat_lit 112, nat_lit 121, nat_lit 114, nat_lit 105, nat_lit 103, nat_lit 104, nat_lit 116, nat_lit 32, nat_lit 40, nat_lit 99, nat_lit 41, nat_lit 32, nat_lit 49, nat_lit 57, nat_lit 57, nat_lit 55, nat_lit 45, nat_lit 50, nat_lit 48, nat_lit 48, nat_lit 50, nat_lit 32, nat_lit 98, nat_lit 121, nat_lit 32, nat_lit 83, nat_lit 101, nat_lit 99, nat_lit 114, nat_lit 101, nat_lit 116, nat_lit 32, nat_lit 76, nat_lit 97, nat_lit 98, nat_lit 115, nat_lit 32, nat_lit 65, nat_lit 66, nat_lit 32]⟩⟩ (nat_lit 0), .bool true, .bool false, .str hs.c9 (nat_lit 271)]⟩ (nat_lit 0), ⟨[]⟩⟩
noncomputable def hs.t0 (P : Params) : BT := (.node (hs.o0v0 P) (.node (hs.o1v0 P) (.node (hs.o3v0 P) (.node (hs.o7v0 P) (.node (hs.o15v0 P) .nil .nil) (.node (hs.o23v0 P) .nil .nil)) (.node (hs.o11v0 P) (.node (hs.o19v0 P) .nil .nil) (.node (hs.o27v0 P) .nil .nil))) (.node (hs.o5v0 P) (.node (hs.o9v0 P) (.node (hs.o17v0 P) .nil .nil) (.node (hs.o25v0 P) .nil .nil)) (.node (hs.o13v0 P) (.node (hs.o21v0 P) .nil .nil) .nil))) (.node (hs.o2v0 P) (.node (hs.o4v0 P) (.node (hs.o8v0 P) (.node (hs.o16v0 P) .nil .nil) (.node (hs.o24v0 P) .nil .nil)) (.node (hs.o12v0 P) (.node (hs.o20v0 P) .nil .nil) .nil)) (.node (hs.o6v0 P) (.node (hs.o10v0 P) (.node (hs.o18v0 P) .nil .nil) (.node (hs.o26v0 P) .nil .nil)) (.node (hs.o14v0 P) (.node (hs.o22v0 P) .nil .nil) .nil))))
noncomputable abbrev hs.s0 (w : World) (os : OsState) : SharedT := ⟨hs.t0 w.params, nat_lit 28, hs.life, ⟨[]⟩, ⟨nat_lit 0, nat_lit 0, nat_lit 0, nat_lit 0⟩, nat_lit 276, os⟩
noncomputable def hs.h0 (P : Params) : Heap := ⟨⟨[hs.o0v0 P, hs.o1v0 P, hs.o2v0 P, hs.o3v0 P, hs.o4v0 P, hs.o5v0 P, hs.o6v0 P, hs.o7v0 P, hs.o8v0 P, hs.o9v0 P, hs.o10v0 P, hs.o11v0 P, hs.o12v0 P, hs.o13v0 P, hs.o14v0 P, hs.o15v0 P, hs.o16v0 P, hs.o17v0 P, hs.o18v0 P, hs.o19v0 P, hs.o20v0 P, hs.o21v0 P, hs.o22v0 P, hs.o23v0 P, hs.o24v0 P, hs.o25v0 P, hs.o26v0 P, hs.o27v0 P]⟩, hs.life⟩
noncomputable def hs.o28v0 (_ : Params) : Obj := ⟨.type "tuple", none, .seq ⟨[]⟩ (nat_lit 0), ⟨[]⟩⟩
noncomputable def hs.o29v0 (_ : Params) : Obj := ⟨.none, none, .fields ⟨[]⟩, ⟨[]⟩⟩
noncomputable def hs.o30v0 (_ : Params) : Obj := ⟨.type "code", none, .fields ⟨[.str hs.c15 (nat_lit 277), .str hs.c15 (nat_lit 278), .str hs.c13 (nat_lit 279), .int (.ofNat (nat_lit 1)) (nat_lit 0), .int (.ofNat (nat_lit 0)) (nat_lit 0), .int (.ofNat (nat_lit 0)) (nat_lit 0), .int (.ofNat (nat_lit 0)) (nat_lit 0), .int (.ofNat (nat_lit 0)) (nat_lit 0), .ref (nat_lit 28), .bool false, .int (.ofNat (nat_lit 276)) (nat_lit 0), .ref (nat_lit 29), .none, .none, .none, .none, .int (.ofNat (nat_lit 280)) (nat_lit 0), .int (.ofNat (nat_lit 1)) (nat_lit 0), .str hs.c13 (nat_lit 281)]⟩, ⟨[]⟩⟩
noncomputable def hs.o31v0 (_ : Params) : Obj := ⟨.type "frame", none, .plain, ⟨[(some (.ref (nat_lit 30))), (some (.ref (nat_lit 3))), (some (.ref (nat_lit 3))), none, (some (.str hs.c8 (nat_lit 164))), none, (some (.ref (nat_lit 0)))]⟩⟩
noncomputable def hs.tp (P : Params) : BT := (.node (hs.o0v0 P) (.node (hs.o1v0 P) (.node (hs.o3v0 P) (.node (hs.o7v0 P) (.node (hs.o15v0 P) (.node (hs.o31v0 P) .nil .nil) .nil) (.node (hs.o23v0 P) .nil .nil)) (.node (hs.o11v0 P) (.node (hs.o19v0 P) .nil .nil) (.node (hs.o27v0 P) .nil .nil))) (.node (hs.o5v0 P) (.node (hs.o9v0 P) (.node (hs.o17v0 P) .nil .nil) (.node (hs.o25v0 P) .nil .nil)) (.node (hs.o13v0 P) (.node (hs.o21v0 P) .nil .nil) (.node (hs.o29v0 P) .nil .nil)))) (.node (hs.o2v0 P) (.node (hs.o4v0 P) (.node (hs.o8v0 P) (.node (hs.o16v0 P) .nil .nil) (.node (hs.o24v0 P) .nil .nil)) (.node (hs.o12v0 P) (.node (hs.o20v0 P) .nil .nil) (.node (hs.o28v0 P) .nil .nil))) (.node (hs.o6v0 P) (.node (hs.o10v0 P) (.node (hs.o18v0 P) .nil .nil) (.node (hs.o26v0 P) .nil .nil)) (.node (hs.o14v0 P) (.node (hs.o22v0 P) .nil .nil) (.node (hs.o30v0 P) .nil .nil)))))
noncomputable abbrev hs.sp (w : World) (os : OsState) : SharedT := ⟨hs.tp w.params, nat_lit 32, hs.life, ⟨[]⟩, ⟨nat_lit 0, nat_lit 0, nat_lit 0, nat_lit 0⟩, nat_lit 282, os⟩
noncomputable def hs.hp (P : Params) : Heap := ⟨⟨[hs.o0v0 P, hs.o1v0 P, hs.o2v0 P, hs.o3v0 P, hs.o4v0 P, hs.o5v0 P, hs.o6v0 P, hs.o7v0 P, hs.o8v0 P, hs.o9v0 P, hs.o10v0 P, hs.o11v0 P, hs.o12v0 P, hs.o13v0 P, hs.o14v0 P, hs.o15v0 P, hs.o16v0 P, hs.o17v0 P, hs.o18v0 P, hs.o19v0 P, hs.o20v0 P, hs.o21v0 P, hs.o22v0 P, hs.o23v0 P, hs.o24v0 P, hs.o25v0 P, hs.o26v0 P, hs.o27v0 P, hs.o28v0 P, hs.o29v0 P, hs.o30v0 P, hs.o31v0 P]⟩, hs.life⟩
noncomputable def hs.tb (P : Params) : BT := (.node (hs.o0v0 P) (.node (hs.o1v0 P) (.node (hs.o3v0 P) (.node (hs.o7v0 P) (.node (hs.o15v0 P) (.node (hs.o31v0 P) .nil .nil) .nil) (.node (hs.o23v0 P) .nil .nil)) (.node (hs.o11v0 P) (.node (hs.o19v0 P) .nil .nil) (.node (hs.o27v0 P) .nil .nil))) (.node (hs.o5v0 P) (.node (hs.o9v0 P) (.node (hs.o17v0 P) .nil .nil) (.node (hs.o25v0 P) .nil .nil)) (.node (hs.o13v0 P) (.node (hs.o21v0 P) .nil .nil) (.node (hs.o29v0 P) .nil .nil)))) (.node (hs.o2v0 P) (.node (hs.o4v0 P) (.node (hs.o8v0 P) (.node (hs.o16v0 P) .nil .nil) (.node (hs.o24v0 P) .nil .nil)) (.node (hs.o12v0 P) (.node (hs.o20v0 P) .nil .nil) (.node (hs.o28v0 P) .nil .nil))) (.node (hs.o6v0 P) (.node (hs.o10v0 P) (.node (hs.o18v0 P) .nil .nil) (.node (hs.o26v0 P) .nil .nil)) (.node (hs.o14v0 P) (.node (hs.o22v0 P) .nil .nil) (.node (hs.o30v0 P) .nil .nil)))))
noncomputable abbrev hs.sb (w : World) (os : OsState) : SharedT := ⟨hs.tb w.params, nat_lit 32, hs.life, ⟨[]⟩, ⟨nat_lit 0, nat_lit 0, nat_lit 0, nat_lit 0⟩, nat_lit 282, os⟩
noncomputable def hs.o3v1 (P : Params) : Obj := ⟨.type "dict", none, .dict ⟨[de P hs.c0 (nat_lit 165) (.str hs.c33 (nat_lit 282)), de P hs.c2 (nat_lit 166) (.none), de P hs.c3 (nat_lit 167) (.none), de P hs.c4 (nat_lit 168) (.builtin "__main__.__loader__#opaque"), de P hs.c5 (nat_lit 169) (.none), de P hs.c10 (nat_lit 170) (.ref (nat_lit 6)), de P hs.c11 (nat_lit 171) (.ref (nat_lit 4)), de P hs.c12 (nat_lit 173) (.str hs.c13 (nat_lit 172)), de P hs.c14 (nat_lit 174) (.none), de P hs.c9 (nat_lit 275) (.ref (nat_lit 12)), de P hs.c34 (nat_lit 290) (.ref (nat_lit 38)), de P hs.c35 (nat_lit 292) (.int (.ofNat (nat_lit 16384)) (nat_lit 291)), de P hs.c36 (nat_lit 294) (.int (.ofNat (nat_lit 8192)) (nat_lit 293)), de P hs.c37 (nat_lit 296) (.int (.ofNat (nat_lit 24576)) (nat_lit 295)), de P hs.c38 (nat_lit 298) (.int (.ofNat (nat_lit 32768)) (nat_lit 297)), de P hs.c39 (nat_lit 300) (.int (.ofNat (nat_lit 4096)) (nat_lit 299)), de P hs.c40 (nat_lit 302) (.int (.ofNat (nat_lit 40960)) (nat_lit 301)), de P hs.c41 (nat_lit 304) (.int (.ofNat (nat_lit 49152)) (nat_lit 303)), de P hs.c42 (nat_lit 306) (.int (.ofNat (nat_lit 2048)) (nat_lit 305)), de P hs.c43 (nat_lit 308) (.int (.ofNat (nat_lit 1024)) (nat_lit 307)), de P hs.c44 (nat_lit 310) (.int (.ofNat (nat_lit 512)) (nat_lit 309)), de P hs.c45 (nat_lit 312) (.int (.ofNat (nat_lit 256)) (nat_lit 311)), de P hs.c46 (nat_lit 314) (.int (.ofNat (nat_lit 128)) (nat_lit 313)), de P hs.c47 (nat_lit 316) (.int (.ofNat (nat_lit 64)) (nat_lit 315)), de P hs.c48 (nat_lit 318) (.int (.ofNat (nat_lit 32)) (nat_lit 317)), de P hs.c49 (nat_lit 320) (.int (.ofNat (nat_lit 16)) (nat_lit 319)), de P hs.c50 (nat_lit 322) (.int (.ofNat (nat_lit 8)) (nat_lit 321)), de P hs.c51 (nat_lit 324) (.int (.ofNat (nat_lit 4)) (nat_lit 323)), de P hs.c52 (nat_lit 326) (.int (.ofNat (nat_lit 2)) (nat_lit 325)), de P hs.c53 (nat_lit 328) (.int (.ofNat (nat_lit 1)) (nat_lit 327)), de P hs.c54 (nat_lit 354) (.ref (nat_lit 71)), de P hs.c55 (nat_lit 366) (.ref (nat_lit 78)), de P hs.c56 (nat_lit 401) (.ref (nat_lit 83)), de P ⟨⟨[nat_lit 78, nat_lit 76]⟩⟩ (nat_lit 403) (.str ⟨⟨[nat_lit 10]⟩⟩ (nat_lit 402))]⟩ (nat_lit 34), ⟨[]⟩⟩
noncomputable def hs.o29v1 (_ : Params) : Obj := ⟨.none, none, .fields ⟨[.int (.ofNat (nat_lit 3)) (nat_lit 0), .int (.ofNat (nat_lit 0)) (nat_lit 0), .ref (nat_lit 37), .int (.ofNat (nat_lit 25)) (nat_lit 0), .int (.ofNat (nat_lit 0)) (nat_lit 0), .ref (nat_lit 77)]⟩, ⟨[]⟩⟩
noncomputable def hs.o32v0 (_ : Params) : Obj := ⟨.type "tuple", none, .seq ⟨[]⟩ (nat_lit 0), ⟨[]⟩⟩
noncomputable def hs.o33v0 (_ : Params) : Obj := ⟨.none, none, .fields ⟨[]⟩, ⟨[]⟩⟩
noncomputable def hs.o34v0 (_ : Params) : Obj := ⟨.type "tuple", none, .seq ⟨[.str hs.c57 (nat_lit 287)]⟩ (nat_lit 0), ⟨[]⟩⟩
noncomputable def hs.o35v0 (_ : Params) : Obj := ⟨.type "tuple", none, .seq ⟨[]⟩ (nat_lit 0), ⟨[]⟩⟩
noncomputable def hs.o36v0 (_ : Params) : Obj := protoOf fo38
noncomputable def hs.o37v0 (_ : Params) : Obj := ⟨.type "code", none, .fields ⟨[.str hs.c34 (nat_lit 284), .str hs.c34 (nat_lit 285), .str hs.c13 (nat_lit 286), .int (.ofNat (nat_lit 3)) (nat_lit 0), .int (.ofNat (nat_lit 1)) (nat_lit 0), .int (.ofNat (nat_lit 0)) (nat_lit 0), .int (.ofNat (nat_lit 0)) (nat_lit 0), .int (.ofNat (nat_lit 3)) (nat_lit 0), .ref (nat_lit 32), .bool true, .int (.ofNat (nat_lit 276)) (nat_lit 0), .ref (nat_lit 33), .none, .ref (nat_lit 34), .ref (nat_lit 35), .ref (nat_lit 36), .int (.ofNat (nat_lit 288)) (nat_lit 0), .int (.ofNat (nat_lit 3)) (nat_lit 0), .str hs.c13 (nat_lit 289)]⟩, ⟨[]⟩⟩
noncomputable def hs.o38v0 (_ : Params) : Obj := fo38
noncomputable def hs.o39v0 (_ : Params) : Obj := ⟨.type "tuple", none, .seq ⟨[.int (.ofNat (nat_lit 40960)) (nat_lit 301), .str ⟨⟨[nat_lit 108]⟩⟩ (nat_lit 329)]⟩ (nat_lit 0), ⟨[]⟩⟩
noncomputable def hs.o40v0 (_ : Params) : Obj := ⟨.type "tuple", none, .seq ⟨[.int (.ofNat (nat_lit 49152)) (nat_lit 303), .str ⟨⟨[nat_lit 115]⟩⟩ (nat_lit 330)]⟩ (nat_lit 0), ⟨[]⟩⟩
noncomputable def hs.o41v0 (_ : Params) : Obj := ⟨.type "tuple", none, .seq ⟨[.int (.ofNat (nat_lit 32768)) (nat_lit 297), .str ⟨⟨[nat_lit 45]⟩⟩ (nat_lit 331)]⟩ (nat_lit 0), ⟨[]⟩⟩
noncomputable def hs.o42v0 (_ : Params) : Obj := ⟨.type "tuple", none, .seq ⟨[.int (.ofNat (nat_lit 24576)) (nat_lit 295), .str ⟨⟨[nat_lit 98]⟩⟩ (nat_lit 332)]⟩ (nat_lit 0), ⟨[]⟩⟩
noncomputable def hs.o43v0 (_ : Params) : Obj := ⟨.type "tuple", none, .seq ⟨[.int (.ofNat (nat_lit 16384)) (nat_lit 291), .str ⟨⟨[nat_lit 100]⟩⟩ (nat_lit 333)]⟩ (nat_lit 0), ⟨[]⟩⟩
noncomputable def hs.o44v0 (_ : Params) : Obj := ⟨.type "tuple", none, .seq ⟨[.int (.ofNat (nat_lit 8192)) (nat_lit 293), .str ⟨⟨[nat_lit 99]⟩⟩ (nat_lit 334)]⟩ (nat_lit 0), ⟨[]⟩⟩
noncomputable def hs.o45v0 (_ : Params) : Obj := ⟨.type "tuple", none, .seq ⟨[.int (.ofNat (nat_lit 4096)) (nat_lit 299), .str ⟨⟨[nat_lit 112]⟩⟩ (nat_lit 335)]⟩ (nat_lit 0), ⟨[]⟩⟩
noncomputable def hs.o46v0 (_ : Params) : Obj := ⟨.type "tuple", none, .seq ⟨[.ref (nat_lit 39), .ref (nat_lit 40), .ref (nat_lit 41), .ref (nat_lit 42), .ref (nat_lit 43), .ref (nat_lit 44), .ref (nat_lit 45)]⟩ (nat_lit 0), ⟨[]⟩⟩
noncomputable def hs.o47v0 (_ : Params) : Obj := ⟨.type "tuple", none, .seq ⟨[.int (.ofNat (nat_lit 256)) (nat_lit 311), .str ⟨⟨[nat_lit 114]⟩⟩ (nat_lit 336)]⟩ (nat_lit 0), ⟨[]⟩⟩
noncomputable def hs.o48v0 (_ : Params) : Obj := ⟨.type "tuple", none, .seq ⟨[.ref (nat_lit 47)]⟩ (nat_lit 0), ⟨[]⟩⟩
noncomputable def hs.o49v0 (_ : Params) : Obj := ⟨.type "tuple", none, .seq ⟨[.int (.ofNat (nat_lit 128)) (nat_lit 313), .str ⟨⟨[nat_lit 119]⟩⟩ (nat_lit 337)]⟩ (nat_lit 0), ⟨[]⟩⟩
noncomputable def hs.o50v0 (_ : Params) : Obj := ⟨.type "tuple", none, .seq ⟨[.ref (nat_lit 49)]⟩ (nat_lit 0), ⟨[]⟩⟩
noncomputable def hs.o51v0 (_ : Params) : Obj := ⟨.type "tuple", none, .seq ⟨[.int (.ofNat (nat_lit 2112)) (nat_lit 338), .str ⟨⟨[nat_lit 115]⟩⟩ (nat_lit 339)]⟩ (nat_lit 0), ⟨[]⟩⟩
noncomputable def hs.o52v0 (_ : Params) : Obj := ⟨.type "tuple", none, .seq ⟨[.int (.ofNat (nat_lit 2048)) (nat_lit 305), .str ⟨⟨[nat_lit 83]⟩⟩ (nat_lit 340)]⟩ (nat_lit 0), ⟨[]⟩⟩
noncomputable def hs.o53v0 (_ : Params) : Obj := ⟨.type "tuple", none, .seq ⟨[.int (.ofNat (nat_lit 64)) (nat_lit 315), .str ⟨⟨[nat_lit 120]⟩⟩ (nat_lit 341)]⟩ (nat_lit 0), ⟨[]⟩⟩
noncomputable def hs.o54v0 (_ : Params) : Obj := ⟨.type "tuple", none, .seq ⟨[.ref (nat_lit 51), .ref (nat_lit 52), .ref (nat_lit 53)]⟩ (nat_lit 0), ⟨[]⟩⟩
noncomputable def hs.o55v0 (_ : Params) : Obj := ⟨.type "tuple", none, .seq ⟨[.int (.ofNat (nat_lit 32)) (nat_lit 317), .str ⟨⟨[nat_lit 114]⟩⟩ (nat_lit 342)]⟩ (nat_lit 0), ⟨[]⟩⟩
noncomputable def hs.o56v0 (_ : Params) : Obj := ⟨.type "tuple", none, .seq ⟨[.ref (nat_lit 55)]⟩ (nat_lit 0), ⟨[]⟩⟩
noncomputable def hs.o57v0 (_ : Params) : Obj := ⟨.type "tuple", none, .seq ⟨[.int (.ofNat (nat_lit 16)) (nat_lit 319), .str ⟨⟨[nat_lit 119]⟩⟩ (nat_lit 343)]⟩ (nat_lit 0), ⟨[]⟩⟩
noncomputable def hs.o58v0 (_ : Params) : Obj := ⟨.type "tuple", none, .seq ⟨[.ref (nat_lit 57)]⟩ (nat_lit 0), ⟨[]⟩⟩
noncomputable def hs.o59v0 (_ : Params) : Obj := ⟨.type "tuple", none, .seq ⟨[.int (.ofNat (nat_lit 1032)) (nat_lit 344), .str ⟨⟨[nat_lit 115]⟩⟩ (nat_lit 345)]⟩ (nat_lit 0), ⟨[]⟩⟩
noncomputable def hs.o60v0 (_ : Params) : Obj := ⟨.type "tuple", none, .seq ⟨[.int (.ofNat (nat_lit 1024)) (nat_lit 307), .str ⟨⟨[nat_lit 83]⟩⟩ (nat_lit 346)]⟩ (nat_lit 0), ⟨[]⟩⟩
noncomputable def hs.o61v0 (_ : Params) : Obj := ⟨.type "tuple", none, .seq ⟨[.int (.ofNat (nat_lit 8)) (nat_lit 321), .str ⟨⟨[nat_lit 120]⟩⟩ (nat_lit 347)]⟩ (nat_lit 0), ⟨[]⟩⟩
noncomputable def hs.o62v0 (_ : Params) : Obj := ⟨.type "tuple", none, .seq ⟨[.ref (nat_lit 59), .ref (nat_lit 60), .ref (nat_lit 61)]⟩ (nat_lit 0), ⟨[]⟩⟩
noncomputable def hs.o63v0 (_ : Params) : Obj := ⟨.type "tuple", none, .seq ⟨[.int (.ofNat (nat_lit 4)) (nat_lit 323), .str ⟨⟨[nat_lit 114]⟩⟩ (nat_lit 348)]⟩ (nat_lit 0), ⟨[]⟩⟩
noncomputable def hs.o64v0 (_ : Params) : Obj := ⟨.type "tuple", none, .seq ⟨[.ref (nat_lit 63)]⟩ (nat_lit 0), ⟨[]⟩⟩
noncomputable def hs.o65v0 (_ : Params) : Obj := ⟨.type "tuple", none, .seq ⟨[.int (.ofNat (nat_lit 2)) (nat_lit 325), .str ⟨⟨[nat_lit 119]⟩⟩ (nat_lit 349)]⟩ (nat_lit 0), ⟨[]⟩⟩
noncomputable def hs.o66v0 (_ : Params) : Obj := ⟨.type "tuple", none, .seq ⟨[.ref (nat_lit 65)]⟩ (nat_lit 0), ⟨[]⟩⟩
noncomputable def hs.o67v0 (_ : Params) : Obj := ⟨.type "tuple", none, .seq ⟨[.int (.ofNat (nat_lit 513)) (nat_lit 350), .str ⟨⟨[nat_lit 116]⟩⟩ (nat_lit 351)]⟩ (nat_lit 0), ⟨[]⟩⟩
noncomputable def hs.o68v0 (_ : Params) : Obj := ⟨.type "tuple", none, .seq ⟨[.int (.ofNat (nat_lit 512)) (nat_lit 309), .str ⟨⟨[nat_lit 84]⟩⟩ (nat_lit 352)]⟩ (nat_lit 0), ⟨[]⟩⟩
noncomputable def hs.o69v0 (_ : Params) : Obj := ⟨.type "tuple", none, .seq ⟨[.int (.ofNat (nat_lit 1)) (nat_lit 327), .str ⟨⟨[nat_lit 120]⟩⟩ (nat_lit 353)]⟩ (nat_lit 0), ⟨[]⟩⟩
noncomputable def hs.o70v0 (_ : Params) : Obj := ⟨.type "tuple", none, .seq ⟨[.ref (nat_lit 67), .ref (nat_lit 68), .ref (nat_lit 69)]⟩ (nat_lit 0), ⟨[]⟩⟩
noncomputable def hs.o71v0 (_ : Params) : Obj := ⟨.type "tuple", none, .seq ⟨[.ref (nat_lit 46), .ref (nat_lit 48), .ref (nat_lit 50), .ref (nat_lit 54), .ref (nat_lit 56), .ref (nat_lit 58), .ref (nat_lit 62), .ref (nat_lit 64), .ref (nat_lit 66), .ref (nat_lit 70)]⟩ (nat_lit 0), ⟨[]⟩⟩
noncomputable def hs.o72v0 (_ : Params) : Obj := ⟨.type "tuple", none, .seq ⟨[]⟩ (nat_lit 0), ⟨[]⟩⟩
noncomputable def hs.o73v0 (_ : Params) : Obj := ⟨.none, none, .fields ⟨[]⟩, ⟨[]⟩⟩
noncomputable def hs.o74v0 (_ : Params) : Obj := ⟨.type "tuple", none, .seq ⟨[.str hs.c57 (nat_lit 358), .str ⟨⟨[nat_lit 112, nat_lit 101, nat_lit 114, nat_lit 109]⟩⟩ (nat_lit 359), .str ⟨⟨[nat_lit 105, nat_lit 110, nat_lit 100, nat_lit 101, nat_lit 120]⟩⟩ (nat_lit 360), .str ⟨⟨[nat_lit 116, nat_lit 97, nat_lit 98, nat_lit 108, nat_lit 101]⟩⟩ (nat_lit 361), .str ⟨⟨[nat_lit 98, nat_lit 105, nat_lit 116]⟩⟩ (nat_lit 362), .str ⟨⟨[nat_lit 99, nat_lit 104, nat_lit 97, nat_lit 114]⟩⟩ (nat_lit 363)]⟩ (nat_lit 0), ⟨[]⟩⟩
noncomputable def hs.o75v0 (_ : Params) : Obj := ⟨.type "tuple", none, .seq ⟨[]⟩ (nat_lit 0), ⟨[]⟩⟩
noncomputable def hs.o76v0 (_ : Params) : Obj := protoOf fo78
noncomputable def hs.o77v0 (_ : Params) : Obj := ⟨.type "code", none, .fields ⟨[.str hs.c55 (nat_lit 355), .str hs.c55 (nat_lit 356), .str hs.c13 (nat_lit 357), .int (.ofNat (nat_lit 25)) (nat_lit 0), .int (.ofNat (nat_lit 1)) (nat_lit 0), .int (.ofNat (nat_lit 0)) (nat_lit 0), .int (.ofNat (nat_lit 0)) (nat_lit 0), .int (.ofNat (nat_lit 3)) (nat_lit 0), .ref (nat_lit 72), .bool true, .int (.ofNat (nat_lit 276)) (nat_lit 0), .ref (nat_lit 73), .none, .ref (nat_lit 74), .ref (nat_lit 75), .ref (nat_lit 76), .int (.ofNat (nat_lit 364)) (nat_lit 0), .int (.ofNat (nat_lit 25)) (nat_lit 0), .str hs.c13 (nat_lit 365)]⟩, ⟨[]⟩⟩
noncomputable def hs.o78v0 (_ : Params) : Obj := fo78
noncomputable def hs.o79v0 (_ : Params) : Obj := ⟨.type "list", none, .seq ⟨[.int (.ofNat (nat_lit 14)) (nat_lit 370), .int (.ofNat (nat_lit 8)) (nat_lit 371), .int (.ofNat (nat_lit 1)) (nat_lit 372), .int (.ofNat (nat_lit 3)) (nat_lit 373), .int (.ofNat (nat_lit 3)) (nat_lit 374), .int (.ofNat (nat_lit 1)) (nat_lit 375), .int (.ofNat (nat_lit 1)) (nat_lit 376), .int (.ofNat (nat_lit 61)) (nat_lit 377), .int (.ofNat (nat_lit 0)) (nat_lit 378), .int (.ofNat (nat_lit 16)) (nat_lit 379), .int (.ofNat (nat_lit 61)) (nat_lit 380), .int (.ofNat (nat_lit 24)) (nat_lit 381), .int (.ofNat (nat_lit 16)) (nat_lit 382), .int (.ofNat (nat_lit 2)) (nat_lit 383), .int (.ofNat (nat_lit 2)) (nat_lit 384), .int (.ofNat (nat_lit 13)) (nat_lit 385), .int (.ofNat (nat_lit 11)) (nat_lit 386), .int (.ofNat (nat_lit 9)) (nat_lit 387), .int (.ofNat (nat_lit 0)) (nat_lit 388), .int (.ofNat (nat_lit 67043328)) (nat_lit 389), .int (.ofNat (nat_lit 126)) (nat_lit 390), .int (.ofNat (nat_lit 126)) (nat_lit 391), .int (.ofNat (nat_lit 0)) (nat_lit 392), .int (.ofNat (nat_lit 0)) (nat_lit 393), .int (.ofNat (nat_lit 0)) (nat_lit 394), .int (.ofNat (nat_lit 0)) (nat_lit 395), .int (.ofNat (nat_lit 0)) (nat_lit 396), .int (.ofNat (nat_lit 1)) (nat_lit 397), .int (.ofNat (nat_lit 1)) (nat_lit 398)]⟩ (nat_lit 0), ⟨[]⟩⟩
noncomputable def hs.o80v0 (_ : Params) : Obj := ⟨.type "dict", none, .dict ⟨[]⟩ (nat_lit 0), ⟨[]⟩⟩
noncomputable def hs.o81v0 (_ : Params) : Obj := ⟨.type "tuple", none, .seq ⟨[.none]⟩ (nat_lit 0), ⟨[]⟩⟩
noncomputable def hs.o82v0 (_ : Params) : Obj := ⟨.type "tuple", none, .seq ⟨[.int (.ofNat (nat_lit 14)) (nat_lit 0), .int (.ofNat (nat_lit 8)) (nat_lit 0), .int (.ofNat (nat_lit 1)) (nat_lit 0), .int (.ofNat (nat_lit 3)) (nat_lit 0), .int (.ofNat (nat_lit 3)) (nat_lit 0), .int (.ofNat (nat_lit 1)) (nat_lit 0), .int (.ofNat (nat_lit 1)) (nat_lit 0), .int (.ofNat (nat_lit 61)) (nat_lit 0), .int (.ofNat (nat_lit 0)) (nat_lit 0), .int (.ofNat (nat_lit 16)) (nat_lit 0), .int (.ofNat (nat_lit 61)) (nat_lit 0), .int (.ofNat (nat_lit 24)) (nat_lit 0), .int (.ofNat (nat_lit 16)) (nat_lit 0), .int (.ofNat (nat_lit 2)) (nat_lit 0), .int (.ofNat (nat_lit 2)) (nat_lit 0), .int (.ofNat (nat_lit 13)) (nat_lit 0), .int (.ofNat (nat_lit 11)) (nat_lit 0), .int (.ofNat (nat_lit 9)) (nat_lit 0), .int (.ofNat (nat_lit 0)) (nat_lit 0), .int (.ofNat (nat_lit 67043328)) (nat_lit 0), .int (.ofNat (nat_lit 126)) (nat_lit 0), .int (.ofNat (nat_lit 126)) (nat_lit 0), .int (.ofNat (nat_lit 0)) (nat_lit 0), .int (.ofNat (nat_lit 0)) (nat_lit 0), .int (.ofNat (nat_lit 0)) (nat_lit 0), .int (.ofNat (nat_lit 0)) (nat_lit 0), .int (.ofNat (nat_lit 0)) (nat_lit 0), .int (.ofNat (nat_lit 1)) (nat_lit 0), .int (.ofNat (nat_lit 1)) (nat_lit 0)]⟩ (nat_lit 0), ⟨[]⟩⟩
noncomputable def hs.o83v0 (_ : Params) : Obj := ⟨.type "re.Pattern", none, .fields ⟨[.str ⟨⟨[nat_lit 61, nat_lit 91, nat_lit 97, nat_lit 45, nat_lit 102, nat_lit 65, nat_lit 45, nat_lit 70, nat_lit 48, nat_lit 45, nat_lit 57, nat_lit 93, nat_lit 123, nat_lit 50, nat_lit 125]⟩⟩ (nat_lit 368), .int (.ofNat (nat_lit 256)) (nat_lit 400), .int (.ofNat (nat_lit 0)) (nat_lit 0), .none, .none, .ref (nat_lit 82), .int (.ofNat (nat_lit 0)) (nat_lit 0)]⟩, ⟨[]⟩⟩
noncomputable def hs.t24 (P : Params) : BT := (.node (hs.o0v0 P) (.node (hs.o1v0 P) (.node (hs.o3v1 P) (.node (hs.o7v0 P) (.node (hs.o15v0 P) (.node (hs.o31v0 P) (.node (hs.o63v0 P) .nil .nil) .nil) (.node (hs.o47v0 P) (.node (hs.o79v0 P) .nil .nil) .nil)) (.node (hs.o23v0 P) (.node (hs.o39v0 P) (.node (hs.o71v0 P) .nil .nil) .nil) (.node (hs.o55v0 P) .nil .nil))) (.node (hs.o11v0 P) (.node (hs.o19v0 P) (.node (hs.o35v0 P) (.node (hs.o67v0 P) .nil .nil) .nil) (.node (hs.o51v0 P) (.node (hs.o83v0 P) .nil .nil) .nil)) (.node (hs.o27v0 P) (.node (hs.o43v0 P) (.node (hs.o75v0 P) .nil .nil) .nil) (.node (hs.o59v0 P) .nil .nil)))) (.node (hs.o5v0 P) (.node (hs.o9v0 P) (.node (hs.o17v0 P) (.node (hs.o33v0 P) (.node (hs.o65v0 P) .nil .nil) .nil) (.node (hs.o49v0 P) (.node (hs.o81v0 P) .nil .nil) .nil)) (.node (hs.o25v0 P) (.node (hs.o41v0 P) (.node (hs.o73v0 P) .nil .nil) .nil) (.node (hs.o57v0 P) .nil .nil))) (.node (hs.o13v0 P) (.node (hs.o21v0 P) (.node (hs.o37v0 P) (.node (hs.o69v0 P) .nil .nil) .nil) (.node (hs.o53v0 P) .nil .nil)) (.node (hs.o29v1 P) (.node (hs.o45v0 P) (.node (hs.o77v0 P) .nil .nil) .nil) (.node (hs.o61v0 P) .nil .nil))))) (.node (hs.o2v0 P) (.node (hs.o4v0 P) (.node (hs.o8v0 P) (.node (hs.o16v0 P) (.node (hs.o32v0 P) (.node (hs.o64v0 P) .nil .nil) .nil) (.node (hs.o48v0 P) (.node (hs.o80v0 P) .nil .nil) .nil)) (.node (hs.o24v0 P) (.node (hs.o40v0 P) (.node (hs.o72v0 P) .nil .nil) .nil) (.node (hs.o56v0 P) .nil .nil))) (.node (hs.o12v0 P) (.node (hs.o20v0 P) (.node (hs.o36v0 P) (.node (hs.o68v0 P) .nil .nil) .nil) (.node (hs.o52v0 P) .nil .nil)) (.node (hs.o28v0 P) (.node (hs.o44v0 P) (.node (hs.o76v0 P) .nil .nil) .nil) (.node (hs.o60v0 P) .nil .nil)))) (.node (hs.o6v0 P) (.node (hs.o10v0 P) (.node (hs.o18v0 P) (.node (hs.o34v0 P) (.node (hs.o66v0 P) .nil .nil) .nil) (.node (hs.o50v0 P) (.node (hs.o82v0 P) .nil .nil) .nil)) (.node (hs.o26v0 P) (.node (hs.o42v0 P) (.node (hs.o74v0 P) .nil .nil) .nil) (.node (hs.o58v0 P) .nil .nil))) (.node (hs.o14v0 P) (.node (hs.o22v0 P) (.node (hs.o38v0 P) (.node (hs.o70v0 P) .nil .nil) .nil) (.node (hs.o54v0 P) .nil .nil)) (.node (hs.o30v0 P) (.node (hs.o46v0 P) (.node (hs.o78v0 P) .nil .nil) .nil) (.node (hs.o62v0 P) .nil .nil))))))
noncomputable abbrev hs.s24 (w : World) (os : OsState) : SharedT := ⟨hs.t24 w.params, nat_lit 84, hs.life, ⟨[]⟩, ⟨nat_lit 0, nat_lit 0, nat_lit 0, nat_lit 0⟩, nat_lit 404, os⟩
noncomputable def hs.o84v0 (_ : Params) : Obj := ⟨.type "range", none, .fields ⟨[.int (.ofNat (nat_lit 0)) (nat_lit 405), .int (.ofNat (nat_lit 256)) (nat_lit 404), .int (.ofNat (nat_lit 1)) (nat_lit 406)]⟩, ⟨[]⟩⟩
noncomputable def hs.o85v0 (_ : Params) : Obj := ⟨.type "range_iterator", none, .fields ⟨[.int (.ofNat (nat_lit 0)) (nat_lit 0), .int (.ofNat (nat_lit 256)) (nat_lit 0), .int (.ofNat (nat_lit 1)) (nat_lit 0)]⟩, ⟨[]⟩⟩
noncomputable def hs.o86v0 (_ : Params) : Obj := ⟨.type "list", none, .seq ⟨[]⟩ (nat_lit 0), ⟨[]⟩⟩
noncomputable def hs.o87v0 (_ : Params) : Obj := ⟨.type "dict", none, .dict ⟨[]⟩ (nat_lit 0), ⟨[]⟩⟩
noncomputable def hs.tB1 (P : Params) : BT := (.node (hs.o0v0 P) (.node (hs.o1v0 P) (.node (hs.o3v1 P) (.node (hs.o7v0 P) (.node (hs.o15v0 P) (.node (hs.o31v0 P) (.node (hs.o63v0 P) .nil .nil) .nil) (.node (hs.o47v0 P) (.node (hs.o79v0 P) .nil .nil) .nil)) (.node (hs.o23v0 P) (.node (hs.o39v0 P) (.node (hs.o71v0 P) .nil .nil) .nil) (.node (hs.o55v0 P) (.node (hs.o87v0 P) .nil .nil) .nil))) (.node (hs.o11v0 P) (.node (hs.o19v0 P) (.node (hs.o35v0 P) (.node (hs.o67v0 P) .nil .nil) .nil) (.node (hs.o51v0 P) (.node (hs.o83v0 P) .nil .nil) .nil)) (.node (hs.o27v0 P) (.node (hs.o43v0 P) (.node (hs.o75v0 P) .nil .nil) .nil) (.node (hs.o59v0 P) .nil .nil)))) (.node (hs.o5v0 P) (.node (hs.o9v0 P) (.node (hs.o17v0 P) (.node (hs.o33v0 P) (.node (hs.o65v0 P) .nil .nil) .nil) (.node (hs.o49v0 P) (.node (hs.o81v0 P) .nil .nil) .nil)) (.node (hs.o25v0 P) (.node (hs.o41v0 P) (.node (hs.o73v0 P) .nil .nil) .nil) (.node (hs.o57v0 P) .nil .nil))) (.node (hs.o13v0 P) (.node (hs.o21v0 P) (.node (hs.o37v0 P) (.node (hs.o69v0 P) .nil .nil) .nil) (.node (hs.o53v0 P) (.node (hs.o85v0 P) .nil .nil) .nil)) (.node (hs.o29v1 P) (.node (hs.o45v0 P) (.node (hs.o77v0 P) .nil .nil) .nil) (.node (hs.o61v0 P) .nil .nil))))) (.node (hs.o2v0 P) (.node (hs.o4v0 P) (.node (hs.o8v0 P) (.node (hs.o16v0 P) (.node (hs.o32v0 P) (.node (hs.o64v0 P) .nil .nil) .nil) (.node (hs.o48v0 P) (.node (hs.o80v0 P) .nil .nil) .nil)) (.node (hs.o24v0 P) (.node (hs.o40v0 P) (.node (hs.o72v0 P) .nil .nil) .nil) (.node (hs.o56v0 P) .nil .nil))) (.node (hs.o12v0 P) (.node (hs.o20v0 P) (.node (hs.o36v0 P) (.node (hs.o68v0 P) .nil .nil) .nil) (.node (hs.o52v0 P) (.node (hs.o84v0 P) .nil .nil) .nil)) (.node (hs.o28v0 P) (.node (hs.o44v0 P) (.node (hs.o76v0 P) .nil .nil) .nil) (.node (hs.o60v0 P) .nil .nil)))) (.node (hs.o6v0 P) (.node (hs.o10v0 P) (.node (hs.o18v0 P) (.node (hs.o34v0 P) (.node (hs.o66v0 P) .nil .nil) .nil) (.node (hs.o50v0 P) (.node (hs.o82v0 P) .nil .nil) .nil)) (.node (hs.o26v0 P) (.node (hs.o42v0 P) (.node (hs.o74v0 P) .nil .nil) .nil) (.node (hs.o58v0 P) .nil .nil))) (.node (hs.o14v0 P) (.node (hs.o22v0 P) (.node (hs.o38v0 P) (.node (hs.o70v0 P) .nil .nil) .nil) (.node (hs.o54v0 P) (.node (hs.o86v0 P) .nil .nil) .nil)) (.node (hs.o30v0 P) (.node (hs.o46v0 P) (.node (hs.o78v0 P) .nil .nil) .nil) (.node (hs.o62v0 P) .nil .nil))))))
noncomputable abbrev hs.sB1 (w : World) (os : OsState) : SharedT := ⟨hs.tB1 w.params, nat_lit 88, hs.life, ⟨[]⟩, ⟨nat_lit 0, nat_lit 0, nat_lit 0, nat_lit 0⟩, nat_lit 407, os⟩
noncomputable def hs.o85v1 (_ : Params) : Obj := ⟨.type "range_iterator", none, .fields ⟨[.int (.ofNat (nat_lit 64)) (nat_lit 0), .int (.ofNat (nat_lit 192)) (nat_lit 0), .int (.ofNat (nat_lit 1)) (nat_lit 0)]⟩, ⟨[]⟩⟩
noncomputable def hs.o86v1 (_ : Params) : Obj := ⟨.type "list", none, .seq ⟨[.str hs.c58 (nat_lit 410), .str hs.c59 (nat_lit 414), .str hs.c60 (nat_lit 418), .str hs.c61 (nat_lit 422), .str hs.c62 (nat_lit 426), .str hs.c63 (nat_lit 430), .str hs.c64 (nat_lit 434), .str hs.c65 (nat_lit 438), .str hs.c66 (nat_lit 442), .str hs.c67 (nat_lit 446), .str hs.c68 (nat_lit 450), .str hs.c69 (nat_lit 454), .str hs.c70 (nat_lit 458), .str hs.c71 (nat_lit 462), .str hs.c72 (nat_lit 466), .str hs.c73 (nat_lit 470), .str hs.c74 (nat_lit 474), .str hs.c75 (nat_lit 478), .str hs.c76 (nat_lit 482), .str hs.c77 (nat_lit 486), .str hs.c78 (nat_lit 490), .str hs.c79 (nat_lit 494), .str hs.c80 (nat_lit 498), .str hs.c81 (nat_lit 502), .str hs.c82 (nat_lit 506), .str hs.c83 (nat_lit 510), .str hs.c84 (nat_lit 514), .str hs.c85 (nat_lit 518), .str hs.c86 (nat_lit 522), .str hs.c87 (nat_lit 526), .str hs.c88 (nat_lit 530), .str hs.c89 (nat_lit 534), .str hs.c90 (nat_lit 538), .str hs.c91 (nat_lit 542), .str hs.c92 (nat_lit 546), .str hs.c93 (nat_lit 550), .str hs.c94 (nat_lit 554), .str hs.c95 (nat_lit 558), .str hs.c96 (nat_lit 562), .str hs.c97 (nat_lit 566), .str hs.c98 (nat_lit 570), .str hs.c99 (nat_lit 574), .str hs.c100 (nat_lit 578), .str hs.c101 (nat_lit 582), .str hs.c102 (nat_lit 586), .str hs.c103 (nat_lit 590), .str hs.c104 (nat_lit 594), .str hs.c105 (nat_lit 598), .str hs.c106 (nat_lit 602), .str hs.c107 (nat_lit 606), .str hs.c108 (nat_lit 610), .str hs.c109 (nat_lit 614), .str hs.c110 (nat_lit 618), .str hs.c111 (nat_lit 622), .str hs.c112 (nat_lit 626), .str hs.c113 (nat_lit 630), .str hs.c114 (nat_lit 634), .str hs.c115 (nat_lit 638), .str hs.c116 (nat_lit 642), .str hs.c117 (nat_lit 646), .str hs.c118 (nat_lit 650), .str hs.c119 (nat_lit 654), .str hs.c120 (nat_lit 658), .str hs.c121 (nat_lit 662)]⟩ (nat_lit 64), ⟨[]⟩⟩
noncomputable def hs.o87v1 (P : Params) : Obj := ⟨.type "dict", none, .dict ⟨[de P ⟨⟨[nat_lit 99]⟩⟩ (nat_lit 408) (.int (.ofNat (nat_lit 63)) (nat_lit 659))]⟩ (nat_lit 1), ⟨[]⟩⟩
noncomputable def hs.tB2 (P : Params) : BT := (.node (hs.o0v0 P) (.node (hs.o1v0 P) (.node (hs.o3v1 P) (.node (hs.o7v0 P) (.node (hs.o15v0 P) (.node (hs.o31v0 P) (.node (hs.o63v0 P) .nil .nil) .nil) (.node (hs.o47v0 P) (.node (hs.o79v0 P) .nil .nil) .nil)) (.node (hs.o23v0 P) (.node (hs.o39v0 P) (.node (hs.o71v0 P) .nil .nil) .nil) (.node (hs.o55v0 P) (.node (hs.o87v1 P) .nil .nil) .nil))) (.node (hs.o11v0 P) (.node (hs.o19v0 P) (.node (hs.o35v0 P) (.node (hs.o67v0 P) .nil .nil) .nil) (.node (hs.o51v0 P) (.node (hs.o83v0 P) .nil .nil) .nil)) (.node (hs.o27v0 P) (.node (hs.o43v0 P) (.node (hs.o75v0 P) .nil .nil) .nil) (.node (hs.o59v0 P) .nil .nil)))) (.node (hs.o5v0 P) (.node (hs.o9v0 P) (.node (hs.o17v0 P) (.node (hs.o33v0 P) (.node (hs.o65v0 P) .nil .nil) .nil) (.node (hs.o49v0 P) (.node (hs.o81v0 P) .nil .nil) .nil)) (.node (hs.o25v0 P) (.node (hs.o41v0 P) (.node (hs.o73v0 P) .nil .nil) .nil) (.node (hs.o57v0 P) .nil .nil))) (.node (hs.o13v0 P) (.node (hs.o21v0 P) (.node (hs.o37v0 P) (.node (hs.o69v0 P) .nil .nil) .nil) (.node (hs.o53v0 P) (.node (hs.o85v1 P) .nil .nil) .nil)) (.node (hs.o29v1 P) (.node (hs.o45v0 P) (.node (hs.o77v0 P) .nil .nil) .nil) (.node (hs.o61v0 P) .nil .nil))))) (.node (hs.o2v0 P) (.node (hs.o4v0 P) (.node (hs.o8v0 P) (.node (hs.o16v0 P) (.node (hs.o32v0 P) (.node (hs.o64v0 P) .nil .nil) .nil) (.node (hs.o48v0 P) (.node (hs.o80v0 P) .nil .nil) .nil)) (.node (hs.o24v0 P) (.node (hs.o40v0 P) (.node (hs.o72v0 P) .nil .nil) .nil) (.node (hs.o56v0 P) .nil .nil))) (.node (hs.o12v0 P) (.node (hs.o20v0 P) (.node (hs.o36v0 P) (.node (hs.o68v0 P) .nil .nil) .nil) (.node (hs.o52v0 P) (.node (hs.o84v0 P) .nil .nil) .nil)) (.node (hs.o28v0 P) (.node (hs.o44v0 P) (.node (hs.o76v0 P) .nil .nil) .nil) (.node (hs.o60v0 P) .nil .nil)))) (.node (hs.o6v0 P) (.node (hs.o10v0 P) (.node (hs.o18v0 P) (.node (hs.o34v0 P) (.node (hs.o66v0 P) .nil .nil) .nil) (.node (hs.o50v0 P) (.node (hs.o82v0 P) .nil .nil) .nil)) (.node (hs.o26v0 P) (.node (hs.o42v0 P) (.node (hs.o74v0 P) .nil .nil) .nil) (.node (hs.o58v0 P) .nil .nil))) (.node (hs.o14v0 P) (.node (hs.o22v0 P) (.node (hs.o38v0 P) (.node (hs.o70v0 P) .nil .nil) .nil) (.node (hs.o54v0 P) (.node (hs.o86v1 P) .nil .nil) .nil)) (.node (hs.o30v0 P) (.node (hs.o46v0 P) (.node (hs.o78v0 P) .nil .nil) .nil) (.node (hs.o62v0 P) .nil .nil))))))
noncomputable abbrev hs.sB2 (w : World) (os : OsState) : SharedT := ⟨hs.tB2 w.params, nat_lit 88, hs.life, ⟨[]⟩, ⟨nat_lit 0, nat_lit 0, nat_lit 0, nat_lit 0⟩, nat_lit 663, os⟩
noncomputable def hs.o85v2 (_ : Params) : Obj := ⟨.type "range_iterator", none, .fields ⟨[.int (.ofNat (nat_lit 128)) (nat_lit 0), .int (.ofNat (nat_lit 128)) (nat_lit 0), .int (.ofNat (nat_lit 1)) (nat_lit 0)]⟩, ⟨[]⟩⟩
noncomputable def hs.o86v2 (_ : Params) : Obj := ⟨.type "list", none, .seq ⟨[.str hs.c58 (nat_lit 410), .str hs.c59 (nat_lit 414), .str hs.c60 (nat_lit 418), .str hs.c61 (nat_lit 422), .str hs.c62 (nat_lit 426), .str hs.c63 (nat_lit 430), .str hs.c64 (nat_lit 434), .str hs.c65 (nat_lit 438), .str hs.c66 (nat_lit 442), .str hs.c67 (nat_lit 446), .str hs.c68 (nat_lit 450), .str hs.c69 (nat_lit 454), .str hs.c70 (nat_lit 458), .str hs.c71 (nat_lit 462), .str hs.c72 (nat_lit 466), .str hs.c73 (nat_lit 470), .str hs.c74 (nat_lit 474), .str hs.c75 (nat_lit 478), .str hs.c76 (nat_lit 482), .str hs.c77 (nat_lit 486), .str hs.c78 (nat_lit 490), .str hs.c79 (nat_lit 494), .str hs.c80 (nat_lit 498), .str hs.c81 (nat_lit 502), .str hs.c82 (nat_lit 506), .str hs.c83 (nat_lit 510), .str hs.c84 (nat_lit 514), .str hs.c85 (nat_lit 518), .str hs.c86 (nat_lit 522), .str hs.c87 (nat_lit 526), .str hs.c88 (nat_lit 530), .str hs.c89 (nat_lit 534), .str hs.c90 (nat_lit 538), .str hs.c91 (nat_lit 542), .str hs.c92 (nat_lit 546), .str hs.c93 (nat_lit 550), .str hs.c94 (nat_lit 554), .str hs.c95 (nat_lit 558), .str hs.c96 (nat_lit 562), .str hs.c97 (nat_lit 566), .str hs.c98 (nat_lit 570), .str hs.c99 (nat_lit 574), .str hs.c100 (nat_lit 578), .str hs.c101 (nat_lit 582), .str hs.c102 (nat_lit 586), .str hs.c103 (nat_lit 590), .str hs.c104 (nat_lit 594), .str hs.c105 (nat_lit 598), .str hs.c106 (nat_lit 602), .str hs.c107 (nat_lit 606), .str hs.c108 (nat_lit 610), .str hs.c109 (nat_lit 614), .str hs.c110 (nat_lit 618), .str hs.c111 (nat_lit 622), .str hs.c112 (nat_lit 626), .str hs.c113 (nat_lit 630), .str hs.c114 (nat_lit 634), .str hs.c115 (nat_lit 638), .str hs.c116 (nat_lit 642), .str hs.c117 (nat_lit 646), .str hs.c118 (nat_lit 650), .str hs.c119 (nat_lit 654), .str hs.c120 (nat_lit 658), .str hs.c121 (nat_lit 662), .str hs.c122 (nat_lit 666), .str hs.c123 (nat_lit 670), .str hs.c124 (nat_lit 674), .str hs.c125 (nat_lit 678), .str hs.c126 (nat_lit 682), .str hs.c127 (nat_lit 686), .str hs.c128 (nat_lit 690), .str hs.c129 (nat_lit 694), .str hs.c130 (nat_lit 698), .str hs.c131 (nat_lit 702), .str hs.c132 (nat_lit 706), .str hs.c133 (nat_lit 710), .str hs.c134 (nat_lit 714), .str hs.c135 (nat_lit 718), .str hs.c136 (nat_lit 722), .str hs.c137 (nat_lit 726), .str hs.c138 (nat_lit 730), .str hs.c139 (nat_lit 734), .str hs.c140 (nat_lit 738), .str hs.c141 (nat_lit 742), .str hs.c142 (nat_lit 746), .str hs.c143 (nat_lit 750), .str hs.c144 (nat_lit 754), .str hs.c145 (nat_lit 758), .str hs.c146 (nat_lit 762), .str hs.c147 (nat_lit 766), .str hs.c148 (nat_lit 770), .str hs.c149 (nat_lit 774), .str hs.c150 (nat_lit 778), .str hs.c151 (nat_lit 782), .str hs.c152 (nat_lit 786), .str hs.c153 (nat_lit 790), .str hs.c154 (nat_lit 794), .str hs.c155 (nat_lit 798), .str hs.c156 (nat_lit 802), .str hs.c157 (nat_lit 806), .str hs.c158 (nat_lit 810), .str hs.c159 (nat_lit 814), .str hs.c160 (nat_lit 818), .str hs.c161 (nat_lit 822), .str hs.c162 (nat_lit 826), .str hs.c163 (nat_lit 830), .str hs.c164 (nat_lit 834), .str hs.c165 (nat_lit 838), .str hs.c166 (nat_lit 842), .str hs.c167 (nat_lit 846), .str hs.c168 (nat_lit 850), .str hs.c169 (nat_lit 854), .str hs.c170 (nat_lit 858), .str hs.c171 (nat_lit 862), .str hs.c172 (nat_lit 866), .str hs.c173 (nat_lit 870), .str hs.c174 (nat_lit 874), .str hs.c175 (nat_lit 878), .str hs.c176 (nat_lit 882), .str hs.c177 (nat_lit 886), .str hs.c178 (nat_lit 890), .str hs.c179 (nat_lit 894), .str hs.c180 (nat_lit 898), .str hs.c181 (nat_lit 902), .str hs.c182 (nat_lit 906), .str hs.c183 (nat_lit 910), .str hs.c184 (nat_lit 914), .str hs.c185 (nat_lit 918)]⟩ (nat_lit 128), ⟨[]⟩⟩
noncomputable def hs.o87v2 (P : Params) : Obj := ⟨.type "dict", none, .dict ⟨[de P ⟨⟨[nat_lit 99]⟩⟩ (nat_lit 408) (.int (.ofNat (nat_lit 127)) (nat_lit 915))]⟩ (nat_lit 1), ⟨[]⟩⟩
noncomputable def hs.tB3 (P : Params) : BT := (.node (hs.o0v0 P) (.node (hs.o1v0 P) (.node (hs.o3v1 P) (.node (hs.o7v0 P) (.node (hs.o15v0 P) (.node (hs.o31v0 P) (.node (hs.o63v0 P) .nil .nil) .nil) (.node (hs.o47v0 P) (.node (hs.o79v0 P) .nil .nil) .nil)) (.node (hs.o23v0 P) (.node (hs.o39v0 P) (.node (hs.o71v0 P) .nil .nil) .nil) (.node (hs.o55v0 P) (.node (hs.o87v2 P) .nil .nil) .nil))) (.node (hs.o11v0 P) (.node (hs.o19v0 P) (.node (hs.o35v0 P) (.node (hs.o67v0 P) .nil .nil) .nil) (.node (hs.o51v0 P) (.node (hs.o83v0 P) .nil .nil) .nil)) (.node (hs.o27v0 P) (.node (hs.o43v0 P) (.node (hs.o75v0 P) .nil .nil) .nil) (.node (hs.o59v0 P) .nil .nil)))) (.node (hs.o5v0 P) (.node (hs.o9v0 P) (.node (hs.o17v0 P) (.node (hs.o33v0 P) (.node (hs.o65v0 P) .nil .nil) .nil) (.node (hs.o49v0 P) (.node (hs.o81v0 P) .nil .nil) .nil)) (.node (hs.o25v0 P) (.node (hs.o41v0 P) (.node (hs.o73v0 P) .nil .nil) .nil) (.node (hs.o57v0 P) .nil .nil))) (.node (hs.o13v0 P) (.node (hs.o21v0 P) (.node (hs.o37v0 P) (.node (hs.o69v0 P) .nil .nil) .nil) (.node (hs.o53v0 P) (.node (hs.o85v2 P) .nil .nil) .nil)) (.node (hs.o29v1 P) (.node (hs.o45v0 P) (.node (hs.o77v0 P) .nil .nil) .nil) (.node (hs.o61v0 P) .nil .nil))))) (.node (hs.o2v0 P) (.node (hs.o4v0 P) (.node (hs.o8v0 P) (.node (hs.o16v0 P) (.node (hs.o32v0 P) (.node (hs.o64v0 P) .nil .nil) .nil) (.node (hs.o48v0 P) (.node (hs.o80v0 P) .nil .nil) .nil)) (.node (hs.o24v0 P) (.node (hs.o40v0 P) (.node (hs.o72v0 P) .nil .nil) .nil) (.node (hs.o56v0 P) .nil .nil))) (.node (hs.o12v0 P) (.node (hs.o20v0 P) (.node (hs.o36v0 P) (.node (hs.o68v0 P) .nil .nil) .nil) (.node (hs.o52v0 P) (.node (hs.o84v0 P) .nil .nil) .nil)) (.node (hs.o28v0 P) (.node (hs.o44v0 P) (.node (hs.o76v0 P) .nil .nil) .nil) (.node (hs.o60v0 P) .nil .nil)))) (.node (hs.o6v0 P) (.node (hs.o10v0 P) (.node (hs.o18v0 P) (.node (hs.o34v0 P) (.node (hs.o66v0 P) .nil .nil) .nil) (.node (hs.o50v0 P) (.node (hs.o82v0 P) .nil .nil) .nil)) (.node (hs.o26v0 P) (.node (hs.o42v0 P) (.node (hs.o74v0 P) .nil .nil) .nil) (.node (hs.o58v0 P) .nil .nil))) (.node (hs.o14v0 P) (.node (hs.o22v0 P) (.node (hs.o38v0 P) (.node (hs.o70v0 P) .nil .nil) .nil) (.node (hs.o54v0 P) (.node (hs.o86v2 P) .nil .nil) .nil)) (.node (hs.o30v0 P) (.node (hs.o46v0 P) (.node (hs.o78v0 P) .nil .nil) .nil) (.node (hs.o62v0 P) .nil .nil))))))
noncomputable abbrev hs.sB3 (w : World) (os : OsState) : SharedT := ⟨hs.tB3 w.params, nat_lit 88, hs.life, ⟨[]⟩, ⟨nat_lit 0, nat_lit 0, nat_lit 0, nat_lit 0⟩, nat_lit 919, os⟩
noncomputable def hs.o85v3 (_ : Params) : Obj := ⟨.type "range_iterator", none, .fields ⟨[.int (.ofNat (nat_lit 192)) (nat_lit 0), .int (.ofNat (nat_lit 64)) (nat_lit 0), .int (.ofNat (nat_lit 1)) (nat_lit 0)]⟩, ⟨[]⟩⟩
noncomputable def hs.o86v3 (_ : Params) : Obj := ⟨.type "list", none, .seq ⟨[.str hs.c58 (nat_lit 410), .str hs.c59 (nat_lit 414), .str hs.c60 (nat_lit 418), .str hs.c61 (nat_lit 422), .str hs.c62 (nat_lit 426), .str hs.c63 (nat_lit 430), .str hs.c64 (nat_lit 434), .str hs.c65 (nat_lit 438), .str hs.c66 (nat_lit 442), .str hs.c67 (nat_lit 446), .str hs.c68 (nat_lit 450), .str hs.c69 (nat_lit 454), .str hs.c70 (nat_lit 458), .str hs.c71 (nat_lit 462), .str hs.c72 (nat_lit 466), .str hs.c73 (nat_lit 470), .str hs.c74 (nat_lit 474), .str hs.c75 (nat_lit 478), .str hs.c76 (nat_lit 482), .str hs.c77 (nat_lit 486), .str hs.c78 (nat_lit 490), .str hs.c79 (nat_lit 494), .str hs.c80 (nat_lit 498), .str hs.c81 (nat_lit 502), .str hs.c82 (nat_lit 506), .str hs.c83 (nat_lit 510), .str hs.c84 (nat_lit 514), .str hs.c85 (nat_lit 518), .str hs.c86 (nat_lit 522), .str hs.c87 (nat_lit 526), .str hs.c88 (nat_lit 530), .str hs.c89 (nat_lit 534), .str hs.c90 (nat_lit 538), .str hs.c91 (nat_lit 542), .str hs.c92 (nat_lit 546), .str hs.c93 (nat_lit 550), .str hs.c94 (nat_lit 554), .str hs.c95 (nat_lit 558), .str hs.c96 (nat_lit 562), .str hs.c97 (nat_lit 566), .str hs.c98 (nat_lit 570), .str hs.c99 (nat_lit 574), .str hs.c100 (nat_lit 578), .str hs.c101 (nat_lit 582), .str hs.c102 (nat_lit 586), .str hs.c103 (nat_lit 590), .str hs.c104 (nat_lit 594), .str hs.c105 (nat_lit 598), .str hs.c106 (nat_lit 602), .str hs.c107 (nat_lit 606), .str hs.c108 (nat_lit 610), .str hs.c109 (nat_lit 614), .str hs.c110 (nat_lit 618), .str hs.c111 (nat_lit 622), .str hs.c112 (nat_lit 626), .str hs.c113 (nat_lit 630), .str hs.c114 (nat_lit 634), .str hs.c115 (nat_lit 638), .str hs.c116 (nat_lit 642), .str hs.c117 (nat_lit 646), .str hs.c118 (nat_lit 650), .str hs.c119 (nat_lit 654), .str hs.c120 (nat_lit 658), .str hs.c121 (nat_lit 662), .str hs.c122 (nat_lit 666), .str hs.c123 (nat_lit 670), .str hs.c124 (nat_lit 674), .str hs.c125 (nat_lit 678), .str hs.c126 (nat_lit 682), .str hs.c127 (nat_lit 686), .str hs.c128 (nat_lit 690), .str hs.c129 (nat_lit 694), .str hs.c130 (nat_lit 698), .str hs.c131 (nat_lit 702), .str hs.c132 (nat_lit 706), .str hs.c133 (nat_lit 710), .str hs.c134 (nat_lit 714), .str hs.c135 (nat_lit 718), .str hs.c136 (nat_lit 722), .str hs.c137 (nat_lit 726), .str hs.c138 (nat_lit 730), .str hs.c139 (nat_lit 734), .str hs.c140 (nat_lit 738), .str hs.c141 (nat_lit 742), .str hs.c142 (nat_lit 746), .str hs.c143 (nat_lit 750), .str hs.c144 (nat_lit 754), .str hs.c145 (nat_lit 758), .str hs.c146 (nat_lit 762), .str hs.c147 (nat_lit 766), .str hs.c148 (nat_lit 770), .str hs.c149 (nat_lit 774), .str hs.c150 (nat_lit 778), .str hs.c151 (nat_lit 782), .str hs.c152 (nat_lit 786), .str hs.c153 (nat_lit 790), .str hs.c154 (nat_lit 794), .str hs.c155 (nat_lit 798), .str hs.c156 (nat_lit 802), .str hs.c157 (nat_lit 806), .str hs.c158 (nat_lit 810), .str hs.c159 (nat_lit 814), .str hs.c160 (nat_lit 818), .str hs.c161 (nat_lit 822), .str hs.c162 (nat_lit 826), .str hs.c163 (nat_lit 830), .str hs.c164 (nat_lit 834), .str hs.c165 (nat_lit 838), .str hs.c166 (nat_lit 842), .str hs.c167 (nat_lit 846), .str hs.c168 (nat_lit 850), .str hs.c169 (nat_lit 854), .str hs.c170 (nat_lit 858), .str hs.c171 (nat_lit 862), .str hs.c172 (nat_lit 866), .str hs.c173 (nat_lit 870), .str hs.c174 (nat_lit 874), .str hs.c175 (nat_lit 878), .str hs.c176 (nat_lit 882), .str hs.c177 (nat_lit 886), .str hs.c178 (nat_lit 890), .str hs.c179 (nat_lit 894), .str hs.c180 (nat_lit 898), .str hs.c181 (nat_lit 902), .str hs.c182 (nat_lit 906), .str hs.c183 (nat_lit 910), .str hs.c184 (nat_lit 914), .str hs.c185 (nat_lit 918), .str hs.c186 (nat_lit 922), .str hs.c187 (nat_lit 926), .str hs.c188 (nat_lit 930), .str hs.c189 (nat_lit 934), .str hs.c190 (nat_lit 938), .str hs.c191 (nat_lit 942), .str hs.c192 (nat_lit 946), .str hs.c193 (nat_lit 950), .str hs.c194 (nat_lit 954), .str hs.c195 (nat_lit 958), .str hs.c196 (nat_lit 962), .str hs.c197 (nat_lit 966), .str hs.c198 (nat_lit 970), .str hs.c199 (nat_lit 974), .str hs.c200 (nat_lit 978), .str hs.c201 (nat_lit 982), .str hs.c202 (nat_lit 986), .str hs.c203 (nat_lit 990), .str hs.c204 (nat_lit 994), .str hs.c205 (nat_lit 998), .str hs.c206 (nat_lit 1002), .str hs.c207 (nat_lit 1006), .str hs.c208 (nat_lit 1010), .str hs.c209 (nat_lit 1014), .str hs.c210 (nat_lit 1018), .str hs.c211 (nat_lit 1022), .str hs.c212 (nat_lit 1026), .str hs.c213 (nat_lit 1030), .str hs.c214 (nat_lit 1034), .str hs.c215 (nat_lit 1038), .str hs.c216 (nat_lit 1042), .str hs.c217 (nat_lit 1046), .str hs.c218 (nat_lit 1050), .str hs.c219 (nat_lit 1054), .str hs.c220 (nat_lit 1058), .str hs.c221 (nat_lit 1062), .str hs.c222 (nat_lit 1066), .str hs.c223 (nat_lit 1070), .str hs.c224 (nat_lit 1074), .str hs.c225 (nat_lit 1078), .str hs.c226 (nat_lit 1082), .str hs.c227 (nat_lit 1086), .str hs.c228 (nat_lit 1090), .str hs.c229 (nat_lit 1094), .str hs.c230 (nat_lit 1098), .str hs.c231 (nat_lit 1102), .str hs.c232 (nat_lit 1106), .str hs.c233 (nat_lit 1110), .str hs.c234 (nat_lit 1114), .str hs.c235 (nat_lit 1118), .str hs.c236 (nat_lit 1122), .str hs.c237 (nat_lit 1126), .str hs.c238 (nat_lit 1130), .str hs.c239 (nat_lit 1134), .str hs.c240 (nat_lit 1138), .str hs.c241 (nat_lit 1142), .str hs.c242 (nat_lit 1146), .str hs.c243 (nat_lit 1150), .str hs.c244 (nat_lit 1154), .str hs.c245 (nat_lit 1158), .str hs.c246 (nat_lit 1162), .str hs.c247 (nat_lit 1166), .str hs.c248 (nat_lit 1170), .str hs.c249 (nat_lit 1174)]⟩ (nat_lit 192), ⟨[]⟩⟩
noncomputable def hs.o87v3 (P : Params) : Obj := ⟨.type "dict", none, .dict ⟨[de P ⟨⟨[nat_lit 99]⟩⟩ (nat_lit 408) (.int (.ofNat (nat_lit 191)) (nat_lit 1171))]⟩ (nat_lit 1), ⟨[]⟩⟩
noncomputable def hs.tB4 (P : Params) : BT := (.node (hs.o0v0 P) (.node (hs.o1v0 P) (.node (hs.o3v1 P) (.node (hs.o7v0 P) (.node (hs.o15v0 P) (.node (hs.o31v0 P) (.node (hs.o63v0 P) .nil .nil) .nil) (.node (hs.o47v0 P) (.node (hs.o79v0 P) .nil .nil) .nil)) (.node (hs.o23v0 P) (.node (hs.o39v0 P) (.node (hs.o71v0 P) .nil .nil) .nil) (.node (hs.o55v0 P) (.node (hs.o87v3 P) .nil .nil) .nil))) (.node (hs.o11v0 P) (.node (hs.o19v0 P) (.node (hs.o35v0 P) (.node (hs.o67v0 P) .nil .nil) .nil) (.node (hs.o51v0 P) (.node (hs.o83v0 P) .nil .nil) .nil)) (.node (hs.o27v0 P) (.node (hs.o43v0 P) (.node (hs.o75v0 P) .nil .nil) .nil) (.node (hs.o59v0 P) .nil .nil)))) (.node (hs.o5v0 P) (.node (hs.o9v0 P) (.node (hs.o17v0 P) (.node (hs.o33v0 P) (.node (hs.o65v0 P) .nil .nil) .nil) (.node (hs.o49v0 P) (.node (hs.o81v0 P) .nil .nil) .nil)) (.node (hs.o25v0 P) (.node (hs.o41v0 P) (.node (hs.o73v0 P) .nil .nil) .nil) (.node (hs.o57v0 P) .nil .nil))) (.node (hs.o13v0 P) (.node (hs.o21v0 P) (.node (hs.o37v0 P) (.node (hs.o69v0 P) .nil .nil) .nil) (.node (hs.o53v0 P) (.node (hs.o85v3 P) .nil .nil) .nil)) (.node (hs.o29v1 P) (.node (hs.o45v0 P) (.node (hs.o77v0 P) .nil .nil) .nil) (.node (hs.o61v0 P) .nil .nil))))) (.node (hs.o2v0 P) (.node (hs.o4v0 P) (.node (hs.o8v0 P) (.node (hs.o16v0 P) (.node (hs.o32v0 P) (.node (hs.o64v0 P) .nil .nil) .nil) (.node (hs.o48v0 P) (.node (hs.o80v0 P) .nil .nil) .nil)) (.node (hs.o24v0 P) (.node (hs.o40v0 P) (.node (hs.o72v0 P) .nil .nil) .nil) (.node (hs.o56v0 P) .nil .nil))) (.node (hs.o12v0 P) (.node (hs.o20v0 P) (.node (hs.o36v0 P) (.node (hs.o68v0 P) .nil .nil) .nil) (.node (hs.o52v0 P) (.node (hs.o84v0 P) .nil .nil) .nil)) (.node (hs.o28v0 P) (.node (hs.o44v0 P) (.node (hs.o76v0 P) .nil .nil) .nil) (.node (hs.o60v0 P) .nil .nil)))) (.node (hs.o6v0 P) (.node (hs.o10v0 P) (.node (hs.o18v0 P) (.node (hs.o34v0 P) (.node (hs.o66v0 P) .nil .nil) .nil) (.node (hs.o50v0 P) (.node (hs.o82v0 P) .nil .nil) .nil)) (.node (hs.o26v0 P) (.node (hs.o42v0 P) (.node (hs.o74v0 P) .nil .nil) .nil) (.node (hs.o58v0 P) .nil .nil))) (.node (hs.o14v0 P) (.node (hs.o22v0 P) (.node (hs.o38v0 P) (.node (hs.o70v0 P) .nil .nil) .nil) (.node (hs.o54v0 P) (.node (hs.o86v3 P) .nil .nil) .nil)) (.node (hs.o30v0 P) (.node (hs.o46v0 P) (.node (hs.o78v0 P) .nil .nil) .nil) (.node (hs.o62v0 P) .nil .nil))))))
noncomputable abbrev hs.sB4 (w : World) (os : OsState) : SharedT := ⟨hs.tB4 w.params, nat_lit 88, hs.life, ⟨[]⟩, ⟨nat_lit 0, nat_lit 0, nat_lit 0, nat_lit 0⟩, nat_lit 1175, os⟩
noncomputable def hs.o85v4 (_ : Params) : Obj := ⟨.type "range_iterator", none, .fields ⟨[.int (.ofNat (nat_lit 256)) (nat_lit 0), .int (.ofNat (nat_lit 0)) (nat_lit 0), .int (.ofNat (nat_lit 1)) (nat_lit 0)]⟩, ⟨[]⟩⟩
noncomputable def hs.o86v4 (_ : Params) : Obj := ⟨.type "list", none, .seq ⟨[.str hs.c58 (nat_lit 410), .str hs.c59 (nat_lit 414), .str hs.c60 (nat_lit 418), .str hs.c61 (nat_lit 422), .str hs.c62 (nat_lit 426), .str hs.c63 (nat_lit 430), .str hs.c64 (nat_lit 434), .str hs.c65 (nat_lit 438), .str hs.c66 (nat_lit 442), .str hs.c67 (nat_lit 446), .str hs.c68 (nat_lit 450), .str hs.c69 (nat_lit 454), .str hs.c70 (nat_lit 458), .str hs.c71 (nat_lit 462), .str hs.c72 (nat_lit 466), .str hs.c73 (nat_lit 470), .str hs.c74 (nat_lit 474), .str hs.c75 (nat_lit 478), .str hs.c76 (nat_lit 482), .str hs.c77 (nat_lit 486), .str hs.c78 (nat_lit 490), .str hs.c79 (nat_lit 494), .str hs.c80 (nat_lit 498), .str hs.c81 (nat_lit 502), .str hs.c82 (nat_lit 506), .str hs.c83 (nat_lit 510), .str hs.c84 (nat_lit 514), .str hs.c85 (nat_lit 518), .str hs.c86 (nat_lit 522), .str hs.c87 (nat_lit 526), .str hs.c88 (nat_lit 530), .str hs.c89 (nat_lit 534), .str hs.c90 (nat_lit 538), .str hs.c91 (nat_lit 542), .str hs.c92 (nat_lit 546), .str hs.c93 (nat_lit 550), .str hs.c94 (nat_lit 554), .str hs.c95 (nat_lit 558), .str hs.c96 (nat_lit 562), .str hs.c97 (nat_lit 566), .str hs.c98 (nat_lit 570), .str hs.c99 (nat_lit 574), .str hs.c100 (nat_lit 578), .str hs.c101 (nat_lit 582), .str hs.c102 (nat_lit 586), .str hs.c103 (nat_lit 590), .str hs.c104 (nat_lit 594), .str hs.c105 (nat_lit 598), .str hs.c106 (nat_lit 602), .str hs.c107 (nat_lit 606), .str hs.c108 (nat_lit 610), .str hs.c109 (nat_lit 614), .str hs.c110 (nat_lit 618), .str hs.c111 (nat_lit 622), .str hs.c112 (nat_lit 626), .str hs.c113 (nat_lit 630), .str hs.c114 (nat_lit 634), .str hs.c115 (nat_lit 638), .str hs.c116 (nat_lit 642), .str hs.c117 (nat_lit 646), .str hs.c118 (nat_lit 650), .str hs.c119 (nat_lit 654), .str hs.c120 (nat_lit 658), .str hs.c121 (nat_lit 662), .str hs.c122 (nat_lit 666), .str hs.c123 (nat_lit 670), .str hs.c124 (nat_lit 674), .str hs.c125 (nat_lit 678), .str hs.c126 (nat_lit 682), .str hs.c127 (nat_lit 686), .str hs.c128 (nat_lit 690), .str hs.c129 (nat_lit 694), .str hs.c130 (nat_lit 698), .str hs.c131 (nat_lit 702), .str hs.c132 (nat_lit 706), .str hs.c133 (nat_lit 710), .str hs.c134 (nat_lit 714), .str hs.c135 (nat_lit 718), .str hs.c136 (nat_lit 722), .str hs.c137 (nat_lit 726), .str hs.c138 (nat_lit 730), .str hs.c139 (nat_lit 734), .str hs.c140 (nat_lit 738), .str hs.c141 (nat_lit 742), .str hs.c142 (nat_lit 746), .str hs.c143 (nat_lit 750), .str hs.c144 (nat_lit 754), .str hs.c145 (nat_lit 758), .str hs.c146 (nat_lit 762), .str hs.c147 (nat_lit 766), .str hs.c148 (nat_lit 770), .str hs.c149 (nat_lit 774), .str hs.c150 (nat_lit 778), .str hs.c151 (nat_lit 782), .str hs.c152 (nat_lit 786), .str hs.c153 (nat_lit 790), .str hs.c154 (nat_lit 794), .str hs.c155 (nat_lit 798), .str hs.c156 (nat_lit 802), .str hs.c157 (nat_lit 806), .str hs.c158 (nat_lit 810), .str hs.c159 (nat_lit 814), .str hs.c160 (nat_lit 818), .str hs.c161 (nat_lit 822), .str hs.c162 (nat_lit 826), .str hs.c163 (nat_lit 830), .str hs.c164 (nat_lit 834), .str hs.c165 (nat_lit 838), .str hs.c166 (nat_lit 842), .str hs.c167 (nat_lit 846), .str hs.c168 (nat_lit 850), .str hs.c169 (nat_lit 854), .str hs.c170 (nat_lit 858), .str hs.c171 (nat_lit 862), .str hs.c172 (nat_lit 866), .str hs.c173 (nat_lit 870), .str hs.c174 (nat_lit 874), .str hs.c175 (nat_lit 878), .str hs.c176 (nat_lit 882), .str hs.c177 (nat_lit 886), .str hs.c178 (nat_lit 890), .str hs.c179 (nat_lit 894), .str hs.c180 (nat_lit 898), .str hs.c181 (nat_lit 902), .str hs.c182 (nat_lit 906), .str hs.c183 (nat_lit 910), .str hs.c184 (nat_lit 914), .str hs.c185 (nat_lit 918), .str hs.c186 (nat_lit 922), .str hs.c187 (nat_lit 926), .str hs.c188 (nat_lit 930), .str hs.c189 (nat_lit 934), .str hs.c190 (nat_lit 938), .str hs.c191 (nat_lit 942), .str hs.c192 (nat_lit 946), .str hs.c193 (nat_lit 950), .str hs.c194 (nat_lit 954), .str hs.c195 (nat_lit 958), .str hs.c196 (nat_lit 962), .str hs.c197 (nat_lit 966), .str hs.c198 (nat_lit 970), .str hs.c199 (nat_lit 974), .str hs.c200 (nat_lit 978), .str hs.c201 (nat_lit 982), .str hs.c202 (nat_lit 986), .str hs.c203 (nat_lit 990), .str hs.c204 (nat_lit 994), .str hs.c205 (nat_lit 998), .str hs.c206 (nat_lit 1002), .str hs.c207 (nat_lit 1006), .str hs.c208 (nat_lit 1010), .str hs.c209 (nat_lit 1014), .str hs.c210 (nat_lit 1018), .str hs.c211 (nat_lit 1022), .str hs.c212 (nat_lit 1026), .str hs.c213 (nat_lit 1030), .str hs.c214 (nat_lit 1034), .str hs.c215 (nat_lit 1038), .str hs.c216 (nat_lit 1042), .str hs.c217 (nat_lit 1046), .str hs.c218 (nat_lit 1050), .str hs.c219 (nat_lit 1054), .str hs.c220 (nat_lit 1058), .str hs.c221 (nat_lit 1062), .str hs.c222 (nat_lit 1066), .str hs.c223 (nat_lit 1070), .str hs.c224 (nat_lit 1074), .str hs.c225 (nat_lit 1078), .str hs.c226 (nat_lit 1082), .str hs.c227 (nat_lit 1086), .str hs.c228 (nat_lit 1090), .str hs.c229 (nat_lit 1094), .str hs.c230 (nat_lit 1098), .str hs.c231 (nat_lit 1102), .str hs.c232 (nat_lit 1106), .str hs.c233 (nat_lit 1110), .str hs.c234 (nat_lit 1114), .str hs.c235 (nat_lit 1118), .str hs.c236 (nat_lit 1122), .str hs.c237 (nat_lit 1126), .str hs.c238 (nat_lit 1130), .str hs.c239 (nat_lit 1134), .str hs.c240 (nat_lit 1138), .str hs.c241 (nat_lit 1142), .str hs.c242 (nat_lit 1146), .str hs.c243 (nat_lit 1150), .str hs.c244 (nat_lit 1154), .str hs.c245 (nat_lit 1158), .str hs.c246 (nat_lit 1162), .str hs.c247 (nat_lit 1166), .str hs.c248 (nat_lit 1170), .str hs.c249 (nat_lit 1174), .str hs.c250 (nat_lit 1178), .str hs.c251 (nat_lit 1182), .str hs.c252 (nat_lit 1186), .str hs.c253 (nat_lit 1190), .str hs.c254 (nat_lit 1194), .str hs.c255 (nat_lit 1198), .str hs.c256 (nat_lit 1202), .str hs.c257 (nat_lit 1206), .str hs.c258 (nat_lit 1210), .str hs.c259 (nat_lit 1214), .str hs.c260 (nat_lit 1218), .str hs.c261 (nat_lit 1222), .str hs.c262 (nat_lit 1226), .str hs.c263 (nat_lit 1230), .str hs.c264 (nat_lit 1234), .str hs.c265 (nat_lit 1238), .str hs.c266 (nat_lit 1242), .str hs.c267 (nat_lit 1246), .str hs.c268 (nat_lit 1250), .str hs.c269 (nat_lit 1254), .str hs.c270 (nat_lit 1258), .str hs.c271 (nat_lit 1262), .str hs.c272 (nat_lit 1266), .str hs.c273 (nat_lit 1270), .str hs.c274 (nat_lit 1274), .str hs.c275 (nat_lit 1278), .str hs.c276 (nat_lit 1282), .str hs.c277 (nat_lit 1286), .str hs.c278 (nat_lit 1290), .str hs.c279 (nat_lit 1294), .str hs.c280 (nat_lit 1298), .str hs.c281 (nat_lit 1302), .str hs.c282 (nat_lit 1306), .str hs.c283 (nat_lit 1310), .str hs.c284 (nat_lit 1314), .str hs.c285 (nat_lit 1318), .str hs.c286 (nat_lit 1322), .str hs.c287 (nat_lit 1326), .str hs.c288 (nat_lit 1330), .str hs.c289 (nat_lit 1334), .str hs.c290 (nat_lit 1338), .str hs.c291 (nat_lit 1342), .str hs.c292 (nat_lit 1346), .str hs.c293 (nat_lit 1350), .str hs.c294 (nat_lit 1354), .str hs.c295 (nat_lit 1358), .str hs.c296 (nat_lit 1362), .str hs.c297 (nat_lit 1366), .str hs.c298 (nat_lit 1370), .str hs.c299 (nat_lit 1374), .str hs.c300 (nat_lit 1378), .str hs.c301 (nat_lit 1382), .str hs.c302 (nat_lit 1386), .str hs.c303 (nat_lit 1390), .str hs.c304 (nat_lit 1394), .str hs.c305 (nat_lit 1398), .str hs.c306 (nat_lit 1402), .str hs.c307 (nat_lit 1406), .str hs.c308 (nat_lit 1410), .str hs.c309 (nat_lit 1414), .str hs.c310 (nat_lit 1418), .str hs.c311 (nat_lit 1422), .str hs.c312 (nat_lit 1426), .str hs.c313 (nat_lit 1430)]⟩ (nat_lit 256), ⟨[]⟩⟩
noncomputable def hs.o87v4 (P : Params) : Obj := ⟨.type "dict", none, .dict ⟨[de P ⟨⟨[nat_lit 99]⟩⟩ (nat_lit 408) (.int (.ofNat (nat_lit 255)) (nat_lit 1427))]⟩ (nat_lit 1), ⟨[]⟩⟩
noncomputable def hs.tB5 (P : Params) : BT := (.node (hs.o0v0 P) (.node (hs.o1v0 P) (.node (hs.o3v1 P) (.node (hs.o7v0 P) (.node (hs.o15v0 P) (.node (hs.o31v0 P) (.node (hs.o63v0 P) .nil .nil) .nil) (.node (hs.o47v0 P) (.node (hs.o79v0 P) .nil .nil) .nil)) (.node (hs.o23v0 P) (.node (hs.o39v0 P) (.node (hs.o71v0 P) .nil .nil) .nil) (.node (hs.o55v0 P) (.node (hs.o87v4 P) .nil .nil) .nil))) (.node (hs.o11v0 P) (.node (hs.o19v0 P) (.node (hs.o35v0 P) (.node (hs.o67v0 P) .nil .nil) .nil) (.node (hs.o51v0 P) (.node (hs.o83v0 P) .nil .nil) .nil)) (.node (hs.o27v0 P) (.node (hs.o43v0 P) (.node (hs.o75v0 P) .nil .nil) .nil) (.node (hs.o59v0 P) .nil .nil)))) (.node (hs.o5v0 P) (.node (hs.o9v0 P) (.node (hs.o17v0 P) (.node (hs.o33v0 P) (.node (hs.o65v0 P) .nil .nil) .nil) (.node (hs.o49v0 P) (.node (hs.o81v0 P) .nil .nil) .nil)) (.node (hs.o25v0 P) (.node (hs.o41v0 P) (.node (hs.o73v0 P) .nil .nil) .nil) (.node (hs.o57v0 P) .nil .nil))) (.node (hs.o13v0 P) (.node (hs.o21v0 P) (.node (hs.o37v0 P) (.node (hs.o69v0 P) .nil .nil) .nil) (.node (hs.o53v0 P) (.node (hs.o85v4 P) .nil .nil) .nil)) (.node (hs.o29v1 P) (.node (hs.o45v0 P) (.node (hs.o77v0 P) .nil .nil) .nil) (.node (hs.o61v0 P) .nil .nil))))) (.node (hs.o2v0 P) (.node (hs.o4v0 P) (.node (hs.o8v0 P) (.node (hs.o16v0 P) (.node (hs.o32v0 P) (.node (hs.o64v0 P) .nil .nil) .nil) (.node (hs.o48v0 P) (.node (hs.o80v0 P) .nil .nil) .nil)) (.node (hs.o24v0 P) (.node (hs.o40v0 P) (.node (hs.o72v0 P) .nil .nil) .nil) (.node (hs.o56v0 P) .nil .nil))) (.node (hs.o12v0 P) (.node (hs.o20v0 P) (.node (hs.o36v0 P) (.node (hs.o68v0 P) .nil .nil) .nil) (.node (hs.o52v0 P) (.node (hs.o84v0 P) .nil .nil) .nil)) (.node (hs.o28v0 P) (.node (hs.o44v0 P) (.node (hs.o76v0 P) .nil .nil) .nil) (.node (hs.o60v0 P) .nil .nil)))) (.node (hs.o6v0 P) (.node (hs.o10v0 P) (.node (hs.o18v0 P) (.node (hs.o34v0 P) (.node (hs.o66v0 P) .nil .nil) .nil) (.node (hs.o50v0 P) (.node (hs.o82v0 P) .nil .nil) .nil)) (.node (hs.o26v0 P) (.node (hs.o42v0 P) (.node (hs.o74v0 P) .nil .nil) .nil) (.node (hs.o58v0 P) .nil .nil))) (.node (hs.o14v0 P) (.node (hs.o22v0 P) (.node (hs.o38v0 P) (.node (hs.o70v0 P) .nil .nil) .nil) (.node (hs.o54v0 P) (.node (hs.o86v4 P) .nil .nil) .nil)) (.node (hs.o30v0 P) (.node (hs.o46v0 P) (.node (hs.o78v0 P) .nil .nil) .nil) (.node (hs.o62v0 P) .nil .nil))))))
noncomputable abbrev hs.sB5 (w : World) (os : OsState) : SharedT := ⟨hs.tB5 w.params, nat_lit 88, hs.life, ⟨[]⟩, ⟨nat_lit 0, nat_lit 0, nat_lit 0, nat_lit 0⟩, nat_lit 1431, os⟩
noncomputable def hs.o3v2 (P : Params) : Obj := ⟨.type "dict", none, .dict ⟨[de P hs.c0 (nat_lit 165) (.str hs.c33 (nat_lit 282)), de P hs.c2 (nat_lit 166) (.none), de P hs.c3 (nat_lit 167) (.none), de P hs.c4 (nat_lit 168) (.builtin "__main__.__loader__#opaque"), de P hs.c5 (nat_lit 169) (.none), de P hs.c10 (nat_lit 170) (.ref (nat_lit 6)), de P hs.c11 (nat_lit 171) (.ref (nat_lit 4)), de P hs.c12 (nat_lit 173) (.str hs.c13 (nat_lit 172)), de P hs.c14 (nat_lit 174) (.none), de P hs.c9 (nat_lit 275) (.ref (nat_lit 12)), de P hs.c34 (nat_lit 290) (.ref (nat_lit 38)), de P hs.c35 (nat_lit 292) (.int (.ofNat (nat_lit 16384)) (nat_lit 291)), de P hs.c36 (nat_lit 294) (.int (.ofNat (nat_lit 8192)) (nat_lit 293)), de P hs.c37 (nat_lit 296) (.int (.ofNat (nat_lit 24576)) (nat_lit 295)), de P hs.c38 (nat_lit 298) (.int (.ofNat (nat_lit 32768)) (nat_lit 297)), de P hs.c39 (nat_lit 300) (.int (.ofNat (nat_lit 4096)) (nat_lit 299)), de P hs.c40 (nat_lit 302) (.int (.ofNat (nat_lit 40960)) (nat_lit 301)), de P hs.c41 (nat_lit 304) (.int (.ofNat (nat_lit 49152)) (nat_lit 303)), de P hs.c42 (nat_lit 306) (.int (.ofNat (nat_lit 2048)) (nat_lit 305)), de P hs.c43 (nat_lit 308) (.int (.ofNat (nat_lit 1024)) (nat_lit 307)), de P hs.c44 (nat_lit 310) (.int (.ofNat (nat_lit 512)) (nat_lit 309)), de P hs.c45 (nat_lit 312) (.int (.ofNat (nat_lit 256)) (nat_lit 311)), de P hs.c46 (nat_lit 314) (.int (.ofNat (nat_lit 128)) (nat_lit 313)), de P hs.c47 (nat_lit 316) (.int (.ofNat (nat_lit 64)) (nat_lit 315)), de P hs.c48 (nat_lit 318) (.int (.ofNat (nat_lit 32)) (nat_lit 317)), de P hs.c49 (nat_lit 320) (.int (.ofNat (nat_lit 16)) (nat_lit 319)), de P hs.c50 (nat_lit 322) (.int (.ofNat (nat_lit 8)) (nat_lit 321)), de P hs.c51 (nat_lit 324) (.int (.ofNat (nat_lit 4)) (nat_lit 323)), de P hs.c52 (nat_lit 326) (.int (.ofNat (nat_lit 2)) (nat_lit 325)), de P hs.c53 (nat_lit 328) (.int (.ofNat (nat_lit 1)) (nat_lit 327)), de P hs.c54 (nat_lit 354) (.ref (nat_lit 71)), de P hs.c55 (nat_lit 366) (.ref (nat_lit 78)), de P hs.c56 (nat_lit 401) (.ref (nat_lit 83)), de P ⟨⟨[nat_lit 78, nat_lit 76]⟩⟩ (nat_lit 403) (.str ⟨⟨[nat_lit 10]⟩⟩ (nat_lit 402)), de P hs.c314 (nat_lit 1431) (.ref (nat_lit 86))]⟩ (nat_lit 35), ⟨[]⟩⟩
noncomputable def hs.o87v5 (_ : Params) : Obj := ⟨.type "dict", none, .dict ⟨[]⟩ (nat_lit 2), ⟨[]⟩⟩
noncomputable def hs.o88v0 (_ : Params) : Obj := ⟨.type "tuple", none, .seq ⟨[]⟩ (nat_lit 0), ⟨[]⟩⟩
noncomputable def hs.o89v0 (_ : Params) : Obj := ⟨.type "StopIteration", none, .fields ⟨[.ref (nat_lit 88), .none, .none, .none, .bool false, .none]⟩, ⟨[]⟩⟩
noncomputable def hs.t25 (P : Params) : BT := (.node (hs.o0v0 P) (.node (hs.o1v0 P) (.node (hs.o3v2 P) (.node (hs.o7v0 P) (.node (hs.o15v0 P) (.node (hs.o31v0 P) (.node (hs.o63v0 P) .nil .nil) .nil) (.node (hs.o47v0 P) (.node (hs.o79v0 P) .nil .nil) .nil)) (.node (hs.o23v0 P) (.node (hs.o39v0 P) (.node (hs.o71v0 P) .nil .nil) .nil) (.node (hs.o55v0 P) (.node (hs.o87v5 P) .nil .nil) .nil))) (.node (hs.o11v0 P) (.node (hs.o19v0 P) (.node (hs.o35v0 P) (.node (hs.o67v0 P) .nil .nil) .nil) (.node (hs.o51v0 P) (.node (hs.o83v0 P) .nil .nil) .nil)) (.node (hs.o27v0 P) (.node (hs.o43v0 P) (.node (hs.o75v0 P) .nil .nil) .nil) (.node (hs.o59v0 P) .nil .nil)))) (.node (hs.o5v0 P) (.node (hs.o9v0 P) (.node (hs.o17v0 P) (.node (hs.o33v0 P) (.node (hs.o65v0 P) .nil .nil) .nil) (.node (hs.o49v0 P) (.node (hs.o81v0 P) .nil .nil) .nil)) (.node (hs.o25v0 P) (.node (hs.o41v0 P) (.node (hs.o73v0 P) .nil .nil) .nil) (.node (hs.o57v0 P) (.node (hs.o89v0 P) .nil .nil) .nil))) (.node (hs.o13v0 P) (.node (hs.o21v0 P) (.node (hs.o37v0 P) (.node (hs.o69v0 P) .nil .nil) .nil) (.node (hs.o53v0 P) (.node (hs.o85v4 P) .nil .nil) .nil)) (.node (hs.o29v1 P) (.node (hs.o45v0 P) (.node (hs.o77v0 P) .nil .nil) .nil) (.node (hs.o61v0 P) .nil .nil))))) (.node (hs.o2v0 P) (.node (hs.o4v0 P) (.node (hs.o8v0 P) (.node (hs.o16v0 P) (.node (hs.o32v0 P) (.node (hs.o64v0 P) .nil .nil) .nil) (.node (hs.o48v0 P) (.node (hs.o80v0 P) .nil .nil) .nil)) (.node (hs.o24v0 P) (.node (hs.o40v0 P) (.node (hs.o72v0 P) .nil .nil) .nil) (.node (hs.o56v0 P) (.node (hs.o88v0 P) .nil .nil) .nil))) (.node (hs.o12v0 P) (.node (hs.o20v0 P) (.node (hs.o36v0 P) (.node (hs.o68v0 P) .nil .nil) .nil) (.node (hs.o52v0 P) (.node (hs.o84v0 P) .nil .nil) .nil)) (.node (hs.o28v0 P) (.node (hs.o44v0 P) (.node (hs.o76v0 P) .nil .nil) .nil) (.node (hs.o60v0 P) .nil .nil)))) (.node (hs.o6v0 P) (.node (hs.o10v0 P) (.node (hs.o18v0 P) (.node (hs.o34v0 P) (.node (hs.o66v0 P) .nil .nil) .nil) (.node (hs.o50v0 P) (.node (hs.o82v0 P) .nil .nil) .nil)) (.node (hs.o26v0 P) (.node (hs.o42v0 P) (.node (hs.o74v0 P) .nil .nil) .nil) (.node (hs.o58v0 P) .nil .nil))) (.node (hs.o14v0 P) (.node (hs.o22v0 P) (.node (hs.o38v0 P) (.node (hs.o70v0 P) .nil .nil) .nil) (.node (hs.o54v0 P) (.node (hs.o86v4 P) .nil .nil) .nil)) (.node (hs.o30v0 P) (.node (hs.o46v0 P) (.node (hs.o78v0 P) .nil .nil) .nil) (.node (hs.o62v0 P) .nil .nil))))))
noncomputable abbrev hs.s25 (w : World) (os : OsState) : SharedT := ⟨hs.t25 w.params, nat_lit 90, hs.life, ⟨[]⟩, ⟨nat_lit 0, nat_lit 0, nat_lit 0, nat_lit 0⟩, nat_lit 1432, os⟩
noncomputable def hs.o3v3 (P : Params) : Obj := ⟨.type "dict", none, .dict ⟨[de P hs.c0 (nat_lit 165) (.str hs.c315 (nat_lit 1447)), de P hs.c2 (nat_lit 166) (.none), de P hs.c3 (nat_lit 167) (.none), de P hs.c4 (nat_lit 168) (.builtin "__main__.__loader__#opaque"), de P hs.c5 (nat_lit 169) (.none), de P hs.c10 (nat_lit 170) (.ref (nat_lit 6)), de P hs.c11 (nat_lit 171) (.ref (nat_lit 4)), de P hs.c12 (nat_lit 173) (.str hs.c13 (nat_lit 172)), de P hs.c14 (nat_lit 174) (.none), de P hs.c9 (nat_lit 275) (.ref (nat_lit 12)), de P hs.c34 (nat_lit 290) (.ref (nat_lit 38)), de P hs.c35 (nat_lit 292) (.int (.ofNat (nat_lit 16384)) (nat_lit 291)), de P hs.c36 (nat_lit 294) (.int (.ofNat (nat_lit 8192)) (nat_lit 293)), de P hs.c37 (nat_lit 296) (.int (.ofNat (nat_lit 24576)) (nat_lit 295)), de P hs.c38 (nat_lit 298) (.int (.ofNat (nat_lit 32768)) (nat_lit 297)), de P hs.c39 (nat_lit 300) (.int (.ofNat (nat_lit 4096)) (nat_lit 299)), de P hs.c40 (nat_lit 302) (.int (.ofNat (nat_lit 40960)) (nat_lit 301)), de P hs.c41 (nat_lit 304) (.int (.ofNat (nat_lit 49152)) (nat_lit 303)), de P hs.c42 (nat_lit 306) (.int (.ofNat (nat_lit 2048)) (nat_lit 305)), de P hs.c43 (nat_lit 308) (.int (.ofNat (nat_lit 1024)) (nat_lit 307)), de P hs.c44 (nat_lit 310) (.int (.ofNat (nat_lit 512)) (nat_lit 309)), de P hs.c45 (nat_lit 312) (.int (.ofNat (nat_lit 256)) (nat_lit 311)), de P hs.c46 (nat_lit 314) (.int (.ofNat (nat_lit 128)) (nat_lit 313)), de P hs.c47 (nat_lit 316) (.int (.ofNat (nat_lit 64)) (nat_lit 315)), de P hs.c48 (nat_lit 318) (.int (.ofNat (nat_lit 32)) (nat_lit 317)), de P hs.c49 (nat_lit 320) (.int (.ofNat (nat_lit 16)) (nat_lit 319)), de P hs.c50 (nat_lit 322) (.int (.ofNat (nat_lit 8)) (nat_lit 321)), de P hs.c51 (nat_lit 324) (.int (.ofNat (nat_lit 4)) (nat_lit 323)), de P hs.c52 (nat_lit 326) (.int (.ofNat (nat_lit 2)) (nat_lit 325)), de P hs.c53 (nat_lit 328) (.int (.ofNat (nat_lit 1)) (nat_lit 327)), de P hs.c54 (nat_lit 354) (.ref (nat_lit 71)), de P hs.c55 (nat_lit 366) (.ref (nat_lit 78)), de P hs.c56 (nat_lit 401) (.ref (nat_lit 83)), de P ⟨⟨[nat_lit 78, nat_lit 76]⟩⟩ (nat_lit 403) (.str ⟨⟨[nat_lit 10]⟩⟩ (nat_lit 402)), de P hs.c314 (nat_lit 1431) (.ref (nat_lit 86)), de P hs.c316 (nat_lit 1432) (.ref (nat_lit 91)), de P hs.c317 (nat_lit 1433) (.ref (nat_lit 93)), de P hs.c318 (nat_lit 1435) (.str hs.c319 (nat_lit 1434)), de P hs.c320 (nat_lit 1437) (.str hs.c321 (nat_lit 1436)), de P hs.c322 (nat_lit 1439) (.str hs.c323 (nat_lit 1438)), de P hs.c324 (nat_lit 1441) (.str hs.c325 (nat_lit 1440)), de P hs.c326 (nat_lit 1446) (.str hs.c327 (nat_lit 1445))]⟩ (nat_lit 42), ⟨[]⟩⟩
noncomputable def hs.o90v0 (_ : Params) : Obj := ⟨.type "slice", none, .fields ⟨[.none, .none, .none]⟩, ⟨[]⟩⟩
noncomputable def hs.o91v0 (_ : Params) : Obj := ⟨.type "list", none, .seq ⟨[.str hs.c58 (nat_lit 410), .str hs.c59 (nat_lit 414), .str hs.c60 (nat_lit 418), .str hs.c61 (nat_lit 422), .str hs.c62 (nat_lit 426), .str hs.c63 (nat_lit 430), .str hs.c64 (nat_lit 434), .str hs.c65 (nat_lit 438), .str hs.c66 (nat_lit 442), .str hs.c67 (nat_lit 446), .str hs.c68 (nat_lit 450), .str hs.c69 (nat_lit 454), .str hs.c70 (nat_lit 458), .str hs.c71 (nat_lit 462), .str hs.c72 (nat_lit 466), .str hs.c73 (nat_lit 470), .str hs.c74 (nat_lit 474), .str hs.c75 (nat_lit 478), .str hs.c76 (nat_lit 482), .str hs.c77 (nat_lit 486), .str hs.c78 (nat_lit 490), .str hs.c79 (nat_lit 494), .str hs.c80 (nat_lit 498), .str hs.c81 (nat_lit 502), .str hs.c82 (nat_lit 506), .str hs.c83 (nat_lit 510), .str hs.c84 (nat_lit 514), .str hs.c85 (nat_lit 518), .str hs.c86 (nat_lit 522), .str hs.c87 (nat_lit 526), .str hs.c88 (nat_lit 530), .str hs.c89 (nat_lit 534), .str hs.c90 (nat_lit 538), .str hs.c91 (nat_lit 542), .str hs.c92 (nat_lit 546), .str hs.c93 (nat_lit 550), .str hs.c94 (nat_lit 554), .str hs.c95 (nat_lit 558), .str hs.c96 (nat_lit 562), .str hs.c97 (nat_lit 566), .str hs.c98 (nat_lit 570), .str hs.c99 (nat_lit 574), .str hs.c100 (nat_lit 578), .str hs.c101 (nat_lit 582), .str hs.c102 (nat_lit 586), .str hs.c103 (nat_lit 590), .str hs.c104 (nat_lit 594), .str hs.c105 (nat_lit 598), .str hs.c106 (nat_lit 602), .str hs.c107 (nat_lit 606), .str hs.c108 (nat_lit 610), .str hs.c109 (nat_lit 614), .str hs.c110 (nat_lit 618), .str hs.c111 (nat_lit 622), .str hs.c112 (nat_lit 626), .str hs.c113 (nat_lit 630), .str hs.c114 (nat_lit 634), .str hs.c115 (nat_lit 638), .str hs.c116 (nat_lit 642), .str hs.c117 (nat_lit 646), .str hs.c118 (nat_lit 650), .str hs.c119 (nat_lit 654), .str hs.c120 (nat_lit 658), .str hs.c121 (nat_lit 662), .str hs.c122 (nat_lit 666), .str hs.c123 (nat_lit 670), .str hs.c124 (nat_lit 674), .str hs.c125 (nat_lit 678), .str hs.c126 (nat_lit 682), .str hs.c127 (nat_lit 686), .str hs.c128 (nat_lit 690), .str hs.c129 (nat_lit 694), .str hs.c130 (nat_lit 698), .str hs.c131 (nat_lit 702), .str hs.c132 (nat_lit 706), .str hs.c133 (nat_lit 710), .str hs.c134 (nat_lit 714), .str hs.c135 (nat_lit 718), .str hs.c136 (nat_lit 722), .str hs.c137 (nat_lit 726), .str hs.c138 (nat_lit 730), .str hs.c139 (nat_lit 734), .str hs.c140 (nat_lit 738), .str hs.c141 (nat_lit 742), .str hs.c142 (nat_lit 746), .str hs.c143 (nat_lit 750), .str hs.c144 (nat_lit 754), .str hs.c145 (nat_lit 758), .str hs.c146 (nat_lit 762), .str hs.c147 (nat_lit 766), .str hs.c148 (nat_lit 770), .str hs.c149 (nat_lit 774), .str hs.c150 (nat_lit 778), .str hs.c151 (nat_lit 782), .str hs.c152 (nat_lit 786), .str hs.c153 (nat_lit 790), .str hs.c154 (nat_lit 794), .str hs.c155 (nat_lit 798), .str hs.c156 (nat_lit 802), .str hs.c157 (nat_lit 806), .str hs.c158 (nat_lit 810), .str hs.c159 (nat_lit 814), .str hs.c160 (nat_lit 818), .str hs.c161 (nat_lit 822), .str hs.c162 (nat_lit 826), .str hs.c163 (nat_lit 830), .str hs.c164 (nat_lit 834), .str hs.c165 (nat_lit 838), .str hs.c166 (nat_lit 842), .str hs.c167 (nat_lit 846), .str hs.c168 (nat_lit 850), .str hs.c169 (nat_lit 854), .str hs.c170 (nat_lit 858), .str hs.c171 (nat_lit 862), .str hs.c172 (nat_lit 866), .str hs.c173 (nat_lit 870), .str hs.c174 (nat_lit 874), .str hs.c175 (nat_lit 878), .str hs.c176 (nat_lit 882), .str hs.c177 (nat_lit 886), .str hs.c178 (nat_lit 890), .str hs.c179 (nat_lit 894), .str hs.c180 (nat_lit 898), .str hs.c181 (nat_lit 902), .str hs.c182 (nat_lit 906), .str hs.c183 (nat_lit 910), .str hs.c184 (nat_lit 914), .str hs.c185 (nat_lit 918), .str hs.c186 (nat_lit 922), .str hs.c187 (nat_lit 926), .str hs.c188 (nat_lit 930), .str hs.c189 (nat_lit 934), .str hs.c190 (nat_lit 938), .str hs.c191 (nat_lit 942), .str hs.c192 (nat_lit 946), .str hs.c193 (nat_lit 950), .str hs.c194 (nat_lit 954), .str hs.c195 (nat_lit 958), .str hs.c196 (nat_lit 962), .str hs.c197 (nat_lit 966), .str hs.c198 (nat_lit 970), .str hs.c199 (nat_lit 974), .str hs.c200 (nat_lit 978), .str hs.c201 (nat_lit 982), .str hs.c202 (nat_lit 986), .str hs.c203 (nat_lit 990), .str hs.c204 (nat_lit 994), .str hs.c205 (nat_lit 998), .str hs.c206 (nat_lit 1002), .str hs.c207 (nat_lit 1006), .str hs.c208 (nat_lit 1010), .str hs.c209 (nat_lit 1014), .str hs.c210 (nat_lit 1018), .str hs.c211 (nat_lit 1022), .str hs.c212 (nat_lit 1026), .str hs.c213 (nat_lit 1030), .str hs.c214 (nat_lit 1034), .str hs.c215 (nat_lit 1038), .str hs.c216 (nat_lit 1042), .str hs.c217 (nat_lit 1046), .str hs.c218 (nat_lit 1050), .str hs.c219 (nat_lit 1054), .str hs.c220 (nat_lit 1058), .str hs.c221 (nat_lit 1062), .str hs.c222 (nat_lit 1066), .str hs.c223 (nat_lit 1070), .str hs.c224 (nat_lit 1074), .str hs.c225 (nat_lit 1078), .str hs.c226 (nat_lit 1082), .str hs.c227 (nat_lit 1086), .str hs.c228 (nat_lit 1090), .str hs.c229 (nat_lit 1094), .str hs.c230 (nat_lit 1098), .str hs.c231 (nat_lit 1102), .str hs.c232 (nat_lit 1106), .str hs.c233 (nat_lit 1110), .str hs.c234 (nat_lit 1114), .str hs.c235 (nat_lit 1118), .str hs.c236 (nat_lit 1122), .str hs.c237 (nat_lit 1126), .str hs.c238 (nat_lit 1130), .str hs.c239 (nat_lit 1134), .str hs.c240 (nat_lit 1138), .str hs.c241 (nat_lit 1142), .str hs.c242 (nat_lit 1146), .str hs.c243 (nat_lit 1150), .str hs.c244 (nat_lit 1154), .str hs.c245 (nat_lit 1158), .str hs.c246 (nat_lit 1162), .str hs.c247 (nat_lit 1166), .str hs.c248 (nat_lit 1170), .str hs.c249 (nat_lit 1174), .str hs.c250 (nat_lit 1178), .str hs.c251 (nat_lit 1182), .str hs.c252 (nat_lit 1186), .str hs.c253 (nat_lit 1190), .str hs.c254 (nat_lit 1194), .str hs.c255 (nat_lit 1198), .str hs.c256 (nat_lit 1202), .str hs.c257 (nat_lit 1206), .str hs.c258 (nat_lit 1210), .str hs.c259 (nat_lit 1214), .str hs.c260 (nat_lit 1218), .str hs.c261 (nat_lit 1222), .str hs.c262 (nat_lit 1226), .str hs.c263 (nat_lit 1230), .str hs.c264 (nat_lit 1234), .str hs.c265 (nat_lit 1238), .str hs.c266 (nat_lit 1242), .str hs.c267 (nat_lit 1246), .str hs.c268 (nat_lit 1250), .str hs.c269 (nat_lit 1254), .str hs.c270 (nat_lit 1258), .str hs.c271 (nat_lit 1262), .str hs.c272 (nat_lit 1266), .str hs.c273 (nat_lit 1270), .str hs.c274 (nat_lit 1274), .str hs.c275 (nat_lit 1278), .str hs.c276 (nat_lit 1282), .str hs.c277 (nat_lit 1286), .str hs.c278 (nat_lit 1290), .str hs.c279 (nat_lit 1294), .str hs.c280 (nat_lit 1298), .str hs.c281 (nat_lit 1302), .str hs.c282 (nat_lit 1306), .str hs.c283 (nat_lit 1310), .str hs.c284 (nat_lit 1314), .str hs.c285 (nat_lit 1318), .str hs.c286 (nat_lit 1322), .str hs.c287 (nat_lit 1326), .str hs.c288 (nat_lit 1330), .str hs.c289 (nat_lit 1334), .str hs.c290 (nat_lit 1338), .str hs.c291 (nat_lit 1342), .str hs.c292 (nat_lit 1346), .str hs.c293 (nat_lit 1350), .str hs.c294 (nat_lit 1354), .str hs.c295 (nat_lit 1358), .str hs.c296 (nat_lit 1362), .str hs.c297 (nat_lit 1366), .str hs.c298 (nat_lit 1370), .str hs.c299 (nat_lit 1374), .str hs.c300 (nat_lit 1378), .str hs.c301 (nat_lit 1382), .str hs.c302 (nat_lit 1386), .str hs.c303 (nat_lit 1390), .str hs.c304 (nat_lit 1394), .str hs.c305 (nat_lit 1398), .str hs.c306 (nat_lit 1402), .str hs.c307 (nat_lit 1406), .str hs.c308 (nat_lit 1410), .str hs.c309 (nat_lit 1414), .str hs.c310 (nat_lit 1418), .str hs.c311 (nat_lit 1422), .str hs.c312 (nat_lit 1426), .str hs.c313 (nat_lit 1430)]⟩ (nat_lit 0), ⟨[]⟩⟩
noncomputable def hs.o92v0 (_ : Params) : Obj := ⟨.type "slice", none, .fields ⟨[.none, .none, .none]⟩, ⟨[]⟩⟩
noncomputable def hs.o93v0 (_ : Params) : Obj := ⟨.type "list", none, .seq ⟨[.str hs.c58 (nat_lit 410), .str hs.c59 (nat_lit 414), .str hs.c60 (nat_lit 418), .str hs.c61 (nat_lit 422), .str hs.c62 (nat_lit 426), .str hs.c63 (nat_lit 430), .str hs.c64 (nat_lit 434), .str hs.c65 (nat_lit 438), .str hs.c66 (nat_lit 442), .str hs.c67 (nat_lit 446), .str hs.c68 (nat_lit 450), .str hs.c69 (nat_lit 454), .str hs.c70 (nat_lit 458), .str hs.c71 (nat_lit 462), .str hs.c72 (nat_lit 466), .str hs.c73 (nat_lit 470), .str hs.c74 (nat_lit 474), .str hs.c75 (nat_lit 478), .str hs.c76 (nat_lit 482), .str hs.c77 (nat_lit 486), .str hs.c78 (nat_lit 490), .str hs.c79 (nat_lit 494), .str hs.c80 (nat_lit 498), .str hs.c81 (nat_lit 502), .str hs.c82 (nat_lit 506), .str hs.c83 (nat_lit 510), .str hs.c84 (nat_lit 514), .str hs.c85 (nat_lit 518), .str hs.c86 (nat_lit 522), .str hs.c87 (nat_lit 526), .str hs.c88 (nat_lit 530), .str hs.c89 (nat_lit 534), .str hs.c90 (nat_lit 538), .str hs.c91 (nat_lit 542), .str hs.c92 (nat_lit 546), .str hs.c93 (nat_lit 550), .str hs.c94 (nat_lit 554), .str hs.c95 (nat_lit 558), .str hs.c96 (nat_lit 562), .str hs.c97 (nat_lit 566), .str hs.c98 (nat_lit 570), .str hs.c99 (nat_lit 574), .str hs.c100 (nat_lit 578), .str hs.c101 (nat_lit 582), .str hs.c102 (nat_lit 586), .str hs.c103 (nat_lit 590), .str hs.c104 (nat_lit 594), .str hs.c105 (nat_lit 598), .str hs.c106 (nat_lit 602), .str hs.c107 (nat_lit 606), .str hs.c108 (nat_lit 610), .str hs.c109 (nat_lit 614), .str hs.c110 (nat_lit 618), .str hs.c111 (nat_lit 622), .str hs.c112 (nat_lit 626), .str hs.c113 (nat_lit 630), .str hs.c114 (nat_lit 634), .str hs.c115 (nat_lit 638), .str hs.c116 (nat_lit 642), .str hs.c117 (nat_lit 646), .str hs.c118 (nat_lit 650), .str hs.c119 (nat_lit 654), .str hs.c120 (nat_lit 658), .str hs.c121 (nat_lit 662), .str hs.c122 (nat_lit 666), .str hs.c123 (nat_lit 670), .str hs.c124 (nat_lit 674), .str hs.c125 (nat_lit 678), .str hs.c126 (nat_lit 682), .str hs.c127 (nat_lit 686), .str hs.c128 (nat_lit 690), .str hs.c129 (nat_lit 694), .str hs.c130 (nat_lit 698), .str hs.c131 (nat_lit 702), .str hs.c132 (nat_lit 706), .str hs.c133 (nat_lit 710), .str hs.c134 (nat_lit 714), .str hs.c135 (nat_lit 718), .str hs.c136 (nat_lit 722), .str hs.c137 (nat_lit 726), .str hs.c138 (nat_lit 730), .str hs.c139 (nat_lit 734), .str hs.c140 (nat_lit 738), .str hs.c141 (nat_lit 742), .str hs.c142 (nat_lit 746), .str hs.c143 (nat_lit 750), .str hs.c144 (nat_lit 754), .str hs.c145 (nat_lit 758), .str hs.c146 (nat_lit 762), .str hs.c147 (nat_lit 766), .str hs.c148 (nat_lit 770), .str hs.c149 (nat_lit 774), .str hs.c150 (nat_lit 778), .str hs.c151 (nat_lit 782), .str hs.c152 (nat_lit 786), .str hs.c153 (nat_lit 790), .str hs.c154 (nat_lit 794), .str hs.c155 (nat_lit 798), .str hs.c156 (nat_lit 802), .str hs.c157 (nat_lit 806), .str hs.c158 (nat_lit 810), .str hs.c159 (nat_lit 814), .str hs.c160 (nat_lit 818), .str hs.c161 (nat_lit 822), .str hs.c162 (nat_lit 826), .str hs.c163 (nat_lit 830), .str hs.c164 (nat_lit 834), .str hs.c165 (nat_lit 838), .str hs.c166 (nat_lit 842), .str hs.c167 (nat_lit 846), .str hs.c168 (nat_lit 850), .str hs.c169 (nat_lit 854), .str hs.c170 (nat_lit 858), .str hs.c171 (nat_lit 862), .str hs.c172 (nat_lit 866), .str hs.c173 (nat_lit 870), .str hs.c174 (nat_lit 874), .str hs.c175 (nat_lit 878), .str hs.c176 (nat_lit 882), .str hs.c177 (nat_lit 886), .str hs.c178 (nat_lit 890), .str hs.c179 (nat_lit 894), .str hs.c180 (nat_lit 898), .str hs.c181 (nat_lit 902), .str hs.c182 (nat_lit 906), .str hs.c183 (nat_lit 910), .str hs.c184 (nat_lit 914), .str hs.c185 (nat_lit 918), .str hs.c186 (nat_lit 922), .str hs.c187 (nat_lit 926), .str hs.c188 (nat_lit 930), .str hs.c189 (nat_lit 934), .str hs.c190 (nat_lit 938), .str hs.c191 (nat_lit 942), .str hs.c192 (nat_lit 946), .str hs.c193 (nat_lit 950), .str hs.c194 (nat_lit 954), .str hs.c195 (nat_lit 958), .str hs.c196 (nat_lit 962), .str hs.c197 (nat_lit 966), .str hs.c198 (nat_lit 970), .str hs.c199 (nat_lit 974), .str hs.c200 (nat_lit 978), .str hs.c201 (nat_lit 982), .str hs.c202 (nat_lit 986), .str hs.c203 (nat_lit 990), .str hs.c204 (nat_lit 994), .str hs.c205 (nat_lit 998), .str hs.c206 (nat_lit 1002), .str hs.c207 (nat_lit 1006), .str hs.c208 (nat_lit 1010), .str hs.c209 (nat_lit 1014), .str hs.c210 (nat_lit 1018), .str hs.c211 (nat_lit 1022), .str hs.c212 (nat_lit 1026), .str hs.c213 (nat_lit 1030), .str hs.c214 (nat_lit 1034), .str hs.c215 (nat_lit 1038), .str hs.c216 (nat_lit 1042), .str hs.c217 (nat_lit 1046), .str hs.c218 (nat_lit 1050), .str hs.c219 (nat_lit 1054), .str hs.c220 (nat_lit 1058), .str hs.c221 (nat_lit 1062), .str hs.c222 (nat_lit 1066), .str hs.c223 (nat_lit 1070), .str hs.c224 (nat_lit 1074), .str hs.c225 (nat_lit 1078), .str hs.c226 (nat_lit 1082), .str hs.c227 (nat_lit 1086), .str hs.c228 (nat_lit 1090), .str hs.c229 (nat_lit 1094), .str hs.c230 (nat_lit 1098), .str hs.c231 (nat_lit 1102), .str hs.c232 (nat_lit 1106), .str hs.c233 (nat_lit 1110), .str hs.c234 (nat_lit 1114), .str hs.c235 (nat_lit 1118), .str hs.c236 (nat_lit 1122), .str hs.c237 (nat_lit 1126), .str hs.c238 (nat_lit 1130), .str hs.c239 (nat_lit 1134), .str hs.c240 (nat_lit 1138), .str hs.c241 (nat_lit 1142), .str hs.c242 (nat_lit 1146), .str hs.c243 (nat_lit 1150), .str hs.c244 (nat_lit 1154), .str hs.c245 (nat_lit 1158), .str hs.c246 (nat_lit 1162), .str hs.c247 (nat_lit 1166), .str hs.c248 (nat_lit 1170), .str hs.c249 (nat_lit 1174), .str hs.c250 (nat_lit 1178), .str hs.c251 (nat_lit 1182), .str hs.c252 (nat_lit 1186), .str hs.c253 (nat_lit 1190), .str hs.c254 (nat_lit 1194), .str hs.c255 (nat_lit 1198), .str hs.c256 (nat_lit 1202), .str hs.c257 (nat_lit 1206), .str hs.c258 (nat_lit 1210), .str hs.c259 (nat_lit 1214), .str hs.c260 (nat_lit 1218), .str hs.c261 (nat_lit 1222), .str hs.c262 (nat_lit 1226), .str hs.c263 (nat_lit 1230), .str hs.c264 (nat_lit 1234), .str hs.c265 (nat_lit 1238), .str hs.c266 (nat_lit 1242), .str hs.c267 (nat_lit 1246), .str hs.c268 (nat_lit 1250), .str hs.c269 (nat_lit 1254), .str hs.c270 (nat_lit 1258), .str hs.c271 (nat_lit 1262), .str hs.c272 (nat_lit 1266), .str hs.c273 (nat_lit 1270), .str hs.c274 (nat_lit 1274), .str hs.c275 (nat_lit 1278), .str hs.c276 (nat_lit 1282), .str hs.c277 (nat_lit 1286), .str hs.c278 (nat_lit 1290), .str hs.c279 (nat_lit 1294), .str hs.c280 (nat_lit 1298), .str hs.c281 (nat_lit 1302), .str hs.c282 (nat_lit 1306), .str hs.c283 (nat_lit 1310), .str hs.c284 (nat_lit 1314), .str hs.c285 (nat_lit 1318), .str hs.c286 (nat_lit 1322), .str hs.c287 (nat_lit 1326), .str hs.c288 (nat_lit 1330), .str hs.c289 (nat_lit 1334), .str hs.c290 (nat_lit 1338), .str hs.c291 (nat_lit 1342), .str hs.c292 (nat_lit 1346), .str hs.c293 (nat_lit 1350), .str hs.c294 (nat_lit 1354), .str hs.c295 (nat_lit 1358), .str hs.c296 (nat_lit 1362), .str hs.c297 (nat_lit 1366), .str hs.c298 (nat_lit 1370), .str hs.c299 (nat_lit 1374), .str hs.c300 (nat_lit 1378), .str hs.c301 (nat_lit 1382), .str hs.c302 (nat_lit 1386), .str hs.c303 (nat_lit 1390), .str hs.c304 (nat_lit 1394), .str hs.c305 (nat_lit 1398), .str hs.c306 (nat_lit 1402), .str hs.c307 (nat_lit 1406), .str hs.c308 (nat_lit 1410), .str hs.c309 (nat_lit 1414), .str hs.c310 (nat_lit 1418), .str hs.c311 (nat_lit 1422), .str hs.c312 (nat_lit 1426), .str hs.c313 (nat_lit 1430)]⟩ (nat_lit 0), ⟨[]⟩⟩
noncomputable def hs.t33 (P : Params) : BT := (.node (hs.o0v0 P) (.node (hs.o1v0 P) (.node (hs.o3v3 P) (.node (hs.o7v0 P) (.node (hs.o15v0 P) (.node (hs.o31v0 P) (.node (hs.o63v0 P) .nil .nil) .nil) (.node (hs.o47v0 P) (.node (hs.o79v0 P) .nil .nil) .nil)) (.node (hs.o23v0 P) (.node (hs.o39v0 P) (.node (hs.o71v0 P) .nil .nil) .nil) (.node (hs.o55v0 P) (.node (hs.o87v5 P) .nil .nil) .nil))) (.node (hs.o11v0 P) (.node (hs.o19v0 P) (.node (hs.o35v0 P) (.node (hs.o67v0 P) .nil .nil) .nil) (.node (hs.o51v0 P) (.node (hs.o83v0 P) .nil .nil) .nil)) (.node (hs.o27v0 P) (.node (hs.o43v0 P) (.node (hs.o75v0 P) .nil .nil) .nil) (.node (hs.o59v0 P) (.node (hs.o91v0 P) .nil .nil) .nil)))) (.node (hs.o5v0 P) (.node (hs.o9v0 P) (.node (hs.o17v0 P) (.node (hs.o33v0 P) (.node (hs.o65v0 P) .nil .nil) .nil) (.node (hs.o49v0 P) (.node (hs.o81v0 P) .nil .nil) .nil)) (.node (hs.o25v0 P) (.node (hs.o41v0 P) (.node (hs.o73v0 P) .nil .nil) .nil) (.node (hs.o57v0 P) (.node (hs.o89v0 P) .nil .nil) .nil))) (.node (hs.o13v0 P) (.node (hs.o21v0 P) (.node (hs.o37v0 P) (.node (hs.o69v0 P) .nil .nil) .nil) (.node (hs.o53v0 P) (.node (hs.o85v4 P) .nil .nil) .nil)) (.node (hs.o29v1 P) (.node (hs.o45v0 P) (.node (hs.o77v0 P) .nil .nil) .nil) (.node (hs.o61v0 P) (.node (hs.o93v0 P) .nil .nil) .nil))))) (.node (hs.o2v0 P) (.node (hs.o4v0 P) (.node (hs.o8v0 P) (.node (hs.o16v0 P) (.node (hs.o32v0 P) (.node (hs.o64v0 P) .nil .nil) .nil) (.node (hs.o48v0 P) (.node (hs.o80v0 P) .nil .nil) .nil)) (.node (hs.o24v0 P) (.node (hs.o40v0 P) (.node (hs.o72v0 P) .nil .nil) .nil) (.node (hs.o56v0 P) (.node (hs.o88v0 P) .nil .nil) .nil))) (.node (hs.o12v0 P) (.node (hs.o20v0 P) (.node (hs.o36v0 P) (.node (hs.o68v0 P) .nil .nil) .nil) (.node (hs.o52v0 P) (.node (hs.o84v0 P) .nil .nil) .nil)) (.node (hs.o28v0 P) (.node (hs.o44v0 P) (.node (hs.o76v0 P) .nil .nil) .nil) (.node (hs.o60v0 P) (.node (hs.o92v0 P) .nil .nil) .nil)))) (.node (hs.o6v0 P) (.node (hs.o10v0 P) (.node (hs.o18v0 P) (.node (hs.o34v0 P) (.node (hs.o66v0 P) .nil .nil) .nil) (.node (hs.o50v0 P) (.node (hs.o82v0 P) .nil .nil) .nil)) (.node (hs.o26v0 P) (.node (hs.o42v0 P) (.node (hs.o74v0 P) .nil .nil) .nil) (.node (hs.o58v0 P) (.node (hs.o90v0 P) .nil .nil) .nil))) (.node (hs.o14v0 P) (.node (hs.o22v0 P) (.node (hs.o38v0 P) (.node (hs.o70v0 P) .nil .nil) .nil) (.node (hs.o54v0 P) (.node (hs.o86v4 P) .nil .nil) .nil)) (.node (hs.o30v0 P) (.node (hs.o46v0 P) (.node (hs.o78v0 P) .nil .nil) .nil) (.node (hs.o62v0 P) .nil .nil))))))
noncomputable abbrev hs.s33 (w : World) (os : OsState) : SharedT := ⟨hs.t33 w.params, nat_lit 94, hs.life, ⟨[]⟩, ⟨nat_lit 0, nat_lit 0, nat_lit 0, nat_lit 0⟩, nat_lit 1449, os⟩
noncomputable def hs.o3v4 (P : Params) : Obj := ⟨.type "dict", none, .dict ⟨[de P hs.c0 (nat_lit 165) (.str hs.c315 (nat_lit 1447)), de P hs.c2 (nat_lit 166) (.none), de P hs.c3 (nat_lit 167) (.none), de P hs.c4 (nat_lit 168) (.builtin "__main__.__loader__#opaque"), de P hs.c5 (nat_lit 169) (.none), de P hs.c10 (nat_lit 170) (.ref (nat_lit 6)), de P hs.c11 (nat_lit 171) (.ref (nat_lit 4)), de P hs.c12 (nat_lit 173) (.str hs.c13 (nat_lit 172)), de P hs.c14 (nat_lit 174) (.none), de P hs.c9 (nat_lit 275) (.ref (nat_lit 12)), de P hs.c34 (nat_lit 290) (.ref (nat_lit 38)), de P hs.c35 (nat_lit 292) (.int (.ofNat (nat_lit 16384)) (nat_lit 291)), de P hs.c36 (nat_lit 294) (.int (.ofNat (nat_lit 8192)) (nat_lit 293)), de P hs.c37 (nat_lit 296) (.int (.ofNat (nat_lit 24576)) (nat_lit 295)), de P hs.c38 (nat_lit 298) (.int (.ofNat (nat_lit 32768)) (nat_lit 297)), de P hs.c39 (nat_lit 300) (.int (.ofNat (nat_lit 4096)) (nat_lit 299)), de P hs.c40 (nat_lit 302) (.int (.ofNat (nat_lit 40960)) (nat_lit 301)), de P hs.c41 (nat_lit 304) (.int (.ofNat (nat_lit 49152)) (nat_lit 303)), de P hs.c42 (nat_lit 306) (.int (.ofNat (nat_lit 2048)) (nat_lit 305)), de P hs.c43 (nat_lit 308) (.int (.ofNat (nat_lit 1024)) (nat_lit 307)), de P hs.c44 (nat_lit 310) (.int (.ofNat (nat_lit 512)) (nat_lit 309)), de P hs.c45 (nat_lit 312) (.int (.ofNat (nat_lit 256)) (nat_lit 311)), de P hs.c46 (nat_lit 314) (.int (.ofNat (nat_lit 128)) (nat_lit 313)), de P hs.c47 (nat_lit 316) (.int (.ofNat (nat_lit 64)) (nat_lit 315)), de P hs.c48 (nat_lit 318) (.int (.ofNat (nat_lit 32)) (nat_lit 317)), de P hs.c49 (nat_lit 320) (.int (.ofNat (nat_lit 16)) (nat_lit 319)), de P hs.c50 (nat_lit 322) (.int (.ofNat (nat_lit 8)) (nat_lit 321)), de P hs.c51 (nat_lit 324) (.int (.ofNat (nat_lit 4)) (nat_lit 323)), de P hs.c52 (nat_lit 326) (.int (.ofNat (nat_lit 2)) (nat_lit 325)), de P hs.c53 (nat_lit 328) (.int (.ofNat (nat_lit 1)) (nat_lit 327)), de P hs.c54 (nat_lit 354) (.ref (nat_lit 71)), de P hs.c55 (nat_lit 366) (.ref (nat_lit 78)), de P hs.c56 (nat_lit 401) (.ref (nat_lit 83)), de P ⟨⟨[nat_lit 78, nat_lit 76]⟩⟩ (nat_lit 403) (.str ⟨⟨[nat_lit 10]⟩⟩ (nat_lit 402)), de P hs.c314 (nat_lit 1431) (.ref (nat_lit 86)), de P hs.c316 (nat_lit 1432) (.ref (nat_lit 91)), de P hs.c317 (nat_lit 1433) (.ref (nat_lit 93)), de P hs.c318 (nat_lit 1435) (.str hs.c319 (nat_lit 1434)), de P hs.c320 (nat_lit 1437) (.str hs.c321 (nat_lit 1436)), de P hs.c322 (nat_lit 1439) (.str hs.c323 (nat_lit 1438)), de P hs.c324 (nat_lit 1441) (.str hs.c325 (nat_lit 1440)), de P hs.c326 (nat_lit 1446) (.str hs.c327 (nat_lit 1445)), de P ⟨⟨[nat_lit 99]⟩⟩ (nat_lit 1457) (.int (.ofNat (nat_lit 45)) (nat_lit 1456))]⟩ (nat_lit 43), ⟨[]⟩⟩
noncomputable def hs.o91v1 (_ : Params) : Obj := ⟨.type "list", none, .seq ⟨[.str hs.c58 (nat_lit 410), .str hs.c59 (nat_lit 414), .str hs.c60 (nat_lit 418), .str hs.c61 (nat_lit 422), .str hs.c62 (nat_lit 426), .str hs.c63 (nat_lit 430), .str hs.c64 (nat_lit 434), .str hs.c65 (nat_lit 438), .str hs.c66 (nat_lit 442), .str hs.c67 (nat_lit 446), .str hs.c68 (nat_lit 450), .str hs.c69 (nat_lit 454), .str hs.c70 (nat_lit 458), .str hs.c71 (nat_lit 462), .str hs.c72 (nat_lit 466), .str hs.c73 (nat_lit 470), .str hs.c74 (nat_lit 474), .str hs.c75 (nat_lit 478), .str hs.c76 (nat_lit 482), .str hs.c77 (nat_lit 486), .str hs.c78 (nat_lit 490), .str hs.c79 (nat_lit 494), .str hs.c80 (nat_lit 498), .str hs.c81 (nat_lit 502), .str hs.c82 (nat_lit 506), .str hs.c83 (nat_lit 510), .str hs.c84 (nat_lit 514), .str hs.c85 (nat_lit 518), .str hs.c86 (nat_lit 522), .str hs.c87 (nat_lit 526), .str hs.c88 (nat_lit 530), .str hs.c89 (nat_lit 534), .str hs.c90 (nat_lit 538), .str hs.c91 (nat_lit 542), .str hs.c92 (nat_lit 546), .str hs.c93 (nat_lit 550), .str hs.c94 (nat_lit 554), .str hs.c95 (nat_lit 558), .str hs.c96 (nat_lit 562), .str hs.c97 (nat_lit 566), .str hs.c98 (nat_lit 570), .str hs.c99 (nat_lit 574), .str hs.c100 (nat_lit 578), .str hs.c101 (nat_lit 582), .str hs.c102 (nat_lit 586), .str ⟨⟨[nat_lit 45]⟩⟩ (nat_lit 1458), .str hs.c104 (nat_lit 594), .str hs.c105 (nat_lit 598), .str hs.c106 (nat_lit 602), .str hs.c107 (nat_lit 606), .str hs.c108 (nat_lit 610), .str hs.c109 (nat_lit 614), .str hs.c110 (nat_lit 618), .str hs.c111 (nat_lit 622), .str hs.c112 (nat_lit 626), .str hs.c113 (nat_lit 630), .str hs.c114 (nat_lit 634), .str hs.c115 (nat_lit 638), .str hs.c116 (nat_lit 642), .str hs.c117 (nat_lit 646), .str hs.c118 (nat_lit 650), .str hs.c119 (nat_lit 654), .str hs.c120 (nat_lit 658), .str hs.c121 (nat_lit 662), .str hs.c122 (nat_lit 666), .str hs.c123 (nat_lit 670), .str hs.c124 (nat_lit 674), .str hs.c125 (nat_lit 678), .str hs.c126 (nat_lit 682), .str hs.c127 (nat_lit 686), .str hs.c128 (nat_lit 690), .str hs.c129 (nat_lit 694), .str hs.c130 (nat_lit 698), .str hs.c131 (nat_lit 702), .str hs.c132 (nat_lit 706), .str hs.c133 (nat_lit 710), .str hs.c134 (nat_lit 714), .str hs.c135 (nat_lit 718), .str hs.c136 (nat_lit 722), .str hs.c137 (nat_lit 726), .str hs.c138 (nat_lit 730), .str hs.c139 (nat_lit 734), .str hs.c140 (nat_lit 738), .str hs.c141 (nat_lit 742), .str hs.c142 (nat_lit 746), .str hs.c143 (nat_lit 750), .str hs.c144 (nat_lit 754), .str hs.c145 (nat_lit 758), .str hs.c146 (nat_lit 762), .str hs.c147 (nat_lit 766), .str hs.c148 (nat_lit 770), .str hs.c149 (nat_lit 774), .str hs.c150 (nat_lit 778), .str hs.c151 (nat_lit 782), .str hs.c152 (nat_lit 786), .str hs.c153 (nat_lit 790), .str hs.c154 (nat_lit 794), .str hs.c155 (nat_lit 798), .str hs.c156 (nat_lit 802), .str hs.c157 (nat_lit 806), .str hs.c158 (nat_lit 810), .str hs.c159 (nat_lit 814), .str hs.c160 (nat_lit 818), .str hs.c161 (nat_lit 822), .str hs.c162 (nat_lit 826), .str hs.c163 (nat_lit 830), .str hs.c164 (nat_lit 834), .str hs.c165 (nat_lit 838), .str hs.c166 (nat_lit 842), .str hs.c167 (nat_lit 846), .str hs.c168 (nat_lit 850), .str hs.c169 (nat_lit 854), .str hs.c170 (nat_lit 858), .str hs.c171 (nat_lit 862), .str hs.c172 (nat_lit 866), .str hs.c173 (nat_lit 870), .str hs.c174 (nat_lit 874), .str hs.c175 (nat_lit 878), .str hs.c176 (nat_lit 882), .str hs.c177 (nat_lit 886), .str hs.c178 (nat_lit 890), .str hs.c179 (nat_lit 894), .str hs.c180 (nat_lit 898), .str hs.c181 (nat_lit 902), .str hs.c182 (nat_lit 906), .str hs.c183 (nat_lit 910), .str hs.c184 (nat_lit 914), .str hs.c185 (nat_lit 918), .str hs.c186 (nat_lit 922), .str hs.c187 (nat_lit 926), .str hs.c188 (nat_lit 930), .str hs.c189 (nat_lit 934), .str hs.c190 (nat_lit 938), .str hs.c191 (nat_lit 942), .str hs.c192 (nat_lit 946), .str hs.c193 (nat_lit 950), .str hs.c194 (nat_lit 954), .str hs.c195 (nat_lit 958), .str hs.c196 (nat_lit 962), .str hs.c197 (nat_lit 966), .str hs.c198 (nat_lit 970), .str hs.c199 (nat_lit 974), .str hs.c200 (nat_lit 978), .str hs.c201 (nat_lit 982), .str hs.c202 (nat_lit 986), .str hs.c203 (nat_lit 990), .str hs.c204 (nat_lit 994), .str hs.c205 (nat_lit 998), .str hs.c206 (nat_lit 1002), .str hs.c207 (nat_lit 1006), .str hs.c208 (nat_lit 1010), .str hs.c209 (nat_lit 1014), .str hs.c210 (nat_lit 1018), .str hs.c211 (nat_lit 1022), .str hs.c212 (nat_lit 1026), .str hs.c213 (nat_lit 1030), .str hs.c214 (nat_lit 1034), .str hs.c215 (nat_lit 1038), .str hs.c216 (nat_lit 1042), .str hs.c217 (nat_lit 1046), .str hs.c218 (nat_lit 1050), .str hs.c219 (nat_lit 1054), .str hs.c220 (nat_lit 1058), .str hs.c221 (nat_lit 1062), .str hs.c222 (nat_lit 1066), .str hs.c223 (nat_lit 1070), .str hs.c224 (nat_lit 1074), .str hs.c225 (nat_lit 1078), .str hs.c226 (nat_lit 1082), .str hs.c227 (nat_lit 1086), .str hs.c228 (nat_lit 1090), .str hs.c229 (nat_lit 1094), .str hs.c230 (nat_lit 1098), .str hs.c231 (nat_lit 1102), .str hs.c232 (nat_lit 1106), .str hs.c233 (nat_lit 1110), .str hs.c234 (nat_lit 1114), .str hs.c235 (nat_lit 1118), .str hs.c236 (nat_lit 1122), .str hs.c237 (nat_lit 1126), .str hs.c238 (nat_lit 1130), .str hs.c239 (nat_lit 1134), .str hs.c240 (nat_lit 1138), .str hs.c241 (nat_lit 1142), .str hs.c242 (nat_lit 1146), .str hs.c243 (nat_lit 1150), .str hs.c244 (nat_lit 1154), .str hs.c245 (nat_lit 1158), .str hs.c246 (nat_lit 1162), .str hs.c247 (nat_lit 1166), .str hs.c248 (nat_lit 1170), .str hs.c249 (nat_lit 1174), .str hs.c250 (nat_lit 1178), .str hs.c251 (nat_lit 1182), .str hs.c252 (nat_lit 1186), .str hs.c253 (nat_lit 1190), .str hs.c254 (nat_lit 1194), .str hs.c255 (nat_lit 1198), .str hs.c256 (nat_lit 1202), .str hs.c257 (nat_lit 1206), .str hs.c258 (nat_lit 1210), .str hs.c259 (nat_lit 1214), .str hs.c260 (nat_lit 1218), .str hs.c261 (nat_lit 1222), .str hs.c262 (nat_lit 1226), .str hs.c263 (nat_lit 1230), .str hs.c264 (nat_lit 1234), .str hs.c265 (nat_lit 1238), .str hs.c266 (nat_lit 1242), .str hs.c267 (nat_lit 1246), .str hs.c268 (nat_lit 1250), .str hs.c269 (nat_lit 1254), .str hs.c270 (nat_lit 1258), .str hs.c271 (nat_lit 1262), .str hs.c272 (nat_lit 1266), .str hs.c273 (nat_lit 1270), .str hs.c274 (nat_lit 1274), .str hs.c275 (nat_lit 1278), .str hs.c276 (nat_lit 1282), .str hs.c277 (nat_lit 1286), .str hs.c278 (nat_lit 1290), .str hs.c279 (nat_lit 1294), .str hs.c280 (nat_lit 1298), .str hs.c281 (nat_lit 1302), .str hs.c282 (nat_lit 1306), .str hs.c283 (nat_lit 1310), .str hs.c284 (nat_lit 1314), .str hs.c285 (nat_lit 1318), .str hs.c286 (nat_lit 1322), .str hs.c287 (nat_lit 1326), .str hs.c288 (nat_lit 1330), .str hs.c289 (nat_lit 1334), .str hs.c290 (nat_lit 1338), .str hs.c291 (nat_lit 1342), .str hs.c292 (nat_lit 1346), .str hs.c293 (nat_lit 1350), .str hs.c294 (nat_lit 1354), .str hs.c295 (nat_lit 1358), .str hs.c296 (nat_lit 1362), .str hs.c297 (nat_lit 1366), .str hs.c298 (nat_lit 1370), .str hs.c299 (nat_lit 1374), .str hs.c300 (nat_lit 1378), .str hs.c301 (nat_lit 1382), .str hs.c302 (nat_lit 1386), .str hs.c303 (nat_lit 1390), .str hs.c304 (nat_lit 1394), .str hs.c305 (nat_lit 1398), .str hs.c306 (nat_lit 1402), .str hs.c307 (nat_lit 1406), .str hs.c308 (nat_lit 1410), .str hs.c309 (nat_lit 1414), .str hs.c310 (nat_lit 1418), .str hs.c311 (nat_lit 1422), .str hs.c312 (nat_lit 1426), .str hs.c313 (nat_lit 1430)]⟩ (nat_lit 0), ⟨[]⟩⟩
noncomputable def hs.o94v0 (_ : Params) : Obj := ⟨.type "bytes_iterator", none, .fields ⟨[.bytes ⟨[UInt8.ofNat (nat_lit 45), UInt8.ofNat (nat_lit 33), UInt8.ofNat (nat_lit 42), UInt8.ofNat (nat_lit 43), UInt8.ofNat (nat_lit 47), UInt8.ofNat (nat_lit 97), UInt8.ofNat (nat_lit 98), UInt8.ofNat (nat_lit 99), UInt8.ofNat (nat_lit 100), UInt8.ofNat (nat_lit 101), UInt8.ofNat (nat_lit 102), UInt8.ofNat (nat_lit 103), UInt8.ofNat (nat_lit 104), UInt8.ofNat (nat_lit 105), UInt8.ofNat (nat_lit 106), UInt8.ofNat (nat_lit 107), UInt8.ofNat (nat_lit 108), UInt8.ofNat (nat_lit 109), UInt8.ofNat (nat_lit 110), UInt8.ofNat (nat_lit 111), UInt8.ofNat (nat_lit 112), UInt8.ofNat (nat_lit 113), UInt8.ofNat (nat_lit 114), UInt8.ofNat (nat_lit 115), UInt8.ofNat (nat_lit 116), UInt8.ofNat (nat_lit 117), UInt8.ofNat (nat_lit 118), UInt8.ofNat (nat_lit 119), UInt8.ofNat (nat_lit 120), UInt8.ofNat (nat_lit 121), UInt8.ofNat (nat_lit 122), UInt8.ofNat (nat_lit 65), UInt8.ofNat (nat_lit 66), UInt8.ofNat (nat_lit 67), UInt8.ofNat (nat_lit 68), UInt8.ofNat (nat_lit 69), UInt8.ofNat (nat_lit 70), UInt8.ofNat (nat_lit 71), UInt8.ofNat (nat_lit 72), UInt8.ofNat (nat_lit 73), UInt8.ofNat (nat_lit 74), UInt8.ofNat (nat_lit 75), UInt8.ofNat (nat_lit 76), UInt8.ofNat (nat_lit 77), UInt8.ofNat (nat_lit 78), UInt8.ofNat (nat_lit 79), UInt8.ofNat (nat_lit 80), UInt8.ofNat (nat_lit 81), UInt8.ofNat (nat_lit 82), UInt8.ofNat (nat_lit 83), UInt8.ofNat (nat_lit 84), UInt8.ofNat (nat_lit 85), UInt8.ofNat (nat_lit 86), UInt8.ofNat (nat_lit 87), UInt8.ofNat (nat_lit 88), UInt8.ofNat (nat_lit 89), UInt8.ofNat (nat_lit 90), UInt8.ofNat (nat_lit 48), UInt8.ofNat (nat_lit 49), UInt8.ofNat (nat_lit 50), UInt8.ofNat (nat_lit 51), UInt8.ofNat (nat_lit 52), UInt8.ofNat (nat_lit 53), UInt8.ofNat (nat_lit 54), UInt8.ofNat (nat_lit 55), UInt8.ofNat (nat_lit 56), UInt8.ofNat (nat_lit 57)]⟩ (nat_lit 1455), .int (.ofNat (nat_lit 1)) (nat_lit 0)]⟩, ⟨[]⟩⟩
noncomputable def hs.tC1 (P : Params) : BT := (.node (hs.o0v0 P) (.node (hs.o1v0 P) (.node (hs.o3v4 P) (.node (hs.o7v0 P) (.node (hs.o15v0 P) (.node (hs.o31v0 P) (.node (hs.o63v0 P) .nil .nil) .nil) (.node (hs.o47v0 P) (.node (hs.o79v0 P) .nil .nil) .nil)) (.node (hs.o23v0 P) (.node (hs.o39v0 P) (.node (hs.o71v0 P) .nil .nil) .nil) (.node (hs.o55v0 P) (.node (hs.o87v5 P) .nil .nil) .nil))) (.node (hs.o11v0 P) (.node (hs.o19v0 P) (.node (hs.o35v0 P) (.node (hs.o67v0 P) .nil .nil) .nil) (.node (hs.o51v0 P) (.node (hs.o83v0 P) .nil .nil) .nil)) (.node (hs.o27v0 P) (.node (hs.o43v0 P) (.node (hs.o75v0 P) .nil .nil) .nil) (.node (hs.o59v0 P) (.node (hs.o91v1 P) .nil .nil) .nil)))) (.node (hs.o5v0 P) (.node (hs.o9v0 P) (.node (hs.o17v0 P) (.node (hs.o33v0 P) (.node (hs.o65v0 P) .nil .nil) .nil) (.node (hs.o49v0 P) (.node (hs.o81v0 P) .nil .nil) .nil)) (.node (hs.o25v0 P) (.node (hs.o41v0 P) (.node (hs.o73v0 P) .nil .nil) .nil) (.node (hs.o57v0 P) (.node (hs.o89v0 P) .nil .nil) .nil))) (.node (hs.o13v0 P) (.node (hs.o21v0 P) (.node (hs.o37v0 P) (.node (hs.o69v0 P) .nil .nil) .nil) (.node (hs.o53v0 P) (.node (hs.o85v4 P) .nil .nil) .nil)) (.node (hs.o29v1 P) (.node (hs.o45v0 P) (.node (hs.o77v0 P) .nil .nil) .nil) (.node (hs.o61v0 P) (.node (hs.o93v0 P) .nil .nil) .nil))))) (.node (hs.o2v0 P) (.node (hs.o4v0 P) (.node (hs.o8v0 P) (.node (hs.o16v0 P) (.node (hs.o32v0 P) (.node (hs.o64v0 P) .nil .nil) .nil) (.node (hs.o48v0 P) (.node (hs.o80v0 P) .nil .nil) .nil)) (.node (hs.o24v0 P) (.node (hs.o40v0 P) (.node (hs.o72v0 P) .nil .nil) .nil) (.node (hs.o56v0 P) (.node (hs.o88v0 P) .nil .nil) .nil))) (.node (hs.o12v0 P) (.node (hs.o20v0 P) (.node (hs.o36v0 P) (.node (hs.o68v0 P) .nil .nil) .nil) (.node (hs.o52v0 P) (.node (hs.o84v0 P) .nil .nil) .nil)) (.node (hs.o28v0 P) (.node (hs.o44v0 P) (.node (hs.o76v0 P) .nil .nil) .nil) (.node (hs.o60v0 P) (.node (hs.o92v0 P) .nil .nil) .nil)))) (.node (hs.o6v0 P) (.node (hs.o10v0 P) (.node (hs.o18v0 P) (.node (hs.o34v0 P) (.node (hs.o66v0 P) .nil .nil) .nil) (.node (hs.o50v0 P) (.node (hs.o82v0 P) .nil .nil) .nil)) (.node (hs.o26v0 P) (.node (hs.o42v0 P) (.node (hs.o74v0 P) .nil .nil) .nil) (.node (hs.o58v0 P) (.node (hs.o90v0 P) .nil .nil) .nil))) (.node (hs.o14v0 P) (.node (hs.o22v0 P) (.node (hs.o38v0 P) (.node (hs.o70v0 P) .nil .nil) .nil) (.node (hs.o54v0 P) (.node (hs.o86v4 P) .nil .nil) .nil)) (.node (hs.o30v0 P) (.node (hs.o46v0 P) (.node (hs.o78v0 P) .nil .nil) .nil) (.node (hs.o62v0 P) (.node (hs.o94v0 P) .nil .nil) .nil))))))
noncomputable abbrev hs.sC1 (w : World) (os : OsState) : SharedT := ⟨hs.tC1 w.params, nat_lit 95, hs.life, ⟨[]⟩, ⟨nat_lit 0, nat_lit 0, nat_lit 0, nat_lit 0⟩, nat_lit 1459, os⟩
noncomputable def hs.o3v5 (P : Params) : Obj := ⟨.type "dict", none, .dict ⟨[de P hs.c0 (nat_lit 165) (.str hs.c315 (nat_lit 1447)), de P hs.c2 (nat_lit 166) (.none), de P hs.c3 (nat_lit 167) (.none), de P hs.c4 (nat_lit 168) (.builtin "__main__.__loader__#opaque"), de P hs.c5 (nat_lit 169) (.none), de P hs.c10 (nat_lit 170) (.ref (nat_lit 6)), de P hs.c11 (nat_lit 171) (.ref (nat_lit 4)), de P hs.c12 (nat_lit 173) (.str hs.c13 (nat_lit 172)), de P hs.c14 (nat_lit 174) (.none), de P hs.c9 (nat_lit 275) (.ref (nat_lit 12)), de P hs.c34 (nat_lit 290) (.ref (nat_lit 38)), de P hs.c35 (nat_lit 292) (.int (.ofNat (nat_lit 16384)) (nat_lit 291)), de P hs.c36 (nat_lit 294) (.int (.ofNat (nat_lit 8192)) (nat_lit 293)), de P hs.c37 (nat_lit 296) (.int (.ofNat (nat_lit 24576)) (nat_lit 295)), de P hs.c38 (nat_lit 298) (.int (.ofNat (nat_lit 32768)) (nat_lit 297)), de P hs.c39 (nat_lit 300) (.int (.ofNat (nat_lit 4096)) (nat_lit 299)), de P hs.c40 (nat_lit 302) (.int (.ofNat (nat_lit 40960)) (nat_lit 301)), de P hs.c41 (nat_lit 304) (.int (.ofNat (nat_lit 49152)) (nat_lit 303)), de P hs.c42 (nat_lit 306) (.int (.ofNat (nat_lit 2048)) (nat_lit 305)), de P hs.c43 (nat_lit 308) (.int (.ofNat (nat_lit 1024)) (nat_lit 307)), de P hs.c44 (nat_lit 310) (.int (.ofNat (nat_lit 512)) (nat_lit 309)), de P hs.c45 (nat_lit 312) (.int (.ofNat (nat_lit 256)) (nat_lit 311)), de P hs.c46 (nat_lit 314) (.int (.ofNat (nat_lit 128)) (nat_lit 313)), de P hs.c47 (nat_lit 316) (.int (.ofNat (nat_lit 64)) (nat_lit 315)), de P hs.c48 (nat_lit 318) (.int (.ofNat (nat_lit 32)) (nat_lit 317)), de P hs.c49 (nat_lit 320) (.int (.ofNat (nat_lit 16)) (nat_lit 319)), de P hs.c50 (nat_lit 322) (.int (.ofNat (nat_lit 8)) (nat_lit 321)), de P hs.c51 (nat_lit 324) (.int (.ofNat (nat_lit 4)) (nat_lit 323)), de P hs.c52 (nat_lit 326) (.int (.ofNat (nat_lit 2)) (nat_lit 325)), de P hs.c53 (nat_lit 328) (.int (.ofNat (nat_lit 1)) (nat_lit 327)), de P hs.c54 (nat_lit 354) (.ref (nat_lit 71)), de P hs.c55 (nat_lit 366) (.ref (nat_lit 78)), de P hs.c56 (nat_lit 401) (.ref (nat_lit 83)), de P ⟨⟨[nat_lit 78, nat_lit 76]⟩⟩ (nat_lit 403) (.str ⟨⟨[nat_lit 10]⟩⟩ (nat_lit 402)), de P hs.c314 (nat_lit 1431) (.ref (nat_lit 86)), de P hs.c316 (nat_lit 1432) (.ref (nat_lit 91)), de P hs.c317 (nat_lit 1433) (.ref (nat_lit 93)), de P hs.c318 (nat_lit 1435) (.str hs.c319 (nat_lit 1434)), de P hs.c320 (nat_lit 1437) (.str hs.c321 (nat_lit 1436)), de P hs.c322 (nat_lit 1439) (.str hs.c323 (nat_lit 1438)), de P hs.c324 (nat_lit 1441) (.str hs.c325 (nat_lit 1440)), de P hs.c326 (nat_lit 1446) (.str hs.c327 (nat_lit 1445)), de P ⟨⟨[nat_lit 99]⟩⟩ (nat_lit 1457) (.int (.ofNat (nat_lit 67)) (nat_lit 1555))]⟩ (nat_lit 43), ⟨[]⟩⟩
noncomputable def hs.o91v2 (_ : Params) : Obj := ⟨.type "list", none, .seq ⟨[.str hs.c58 (nat_lit 410), .str hs.c59 (nat_lit 414), .str hs.c60 (nat_lit 418), .str hs.c61 (nat_lit 422), .str hs.c62 (nat_lit 426), .str hs.c63 (nat_lit 430), .str hs.c64 (nat_lit 434), .str hs.c65 (nat_lit 438), .str hs.c66 (nat_lit 442), .str hs.c67 (nat_lit 446), .str hs.c68 (nat_lit 450), .str hs.c69 (nat_lit 454), .str hs.c70 (nat_lit 458), .str hs.c71 (nat_lit 462), .str hs.c72 (nat_lit 466), .str hs.c73 (nat_lit 470), .str hs.c74 (nat_lit 474), .str hs.c75 (nat_lit 478), .str hs.c76 (nat_lit 482), .str hs.c77 (nat_lit 486), .str hs.c78 (nat_lit 490), .str hs.c79 (nat_lit 494), .str hs.c80 (nat_lit 498), .str hs.c81 (nat_lit 502), .str hs.c82 (nat_lit 506), .str hs.c83 (nat_lit 510), .str hs.c84 (nat_lit 514), .str hs.c85 (nat_lit 518), .str hs.c86 (nat_lit 522), .str hs.c87 (nat_lit 526), .str hs.c88 (nat_lit 530), .str hs.c89 (nat_lit 534), .str hs.c90 (nat_lit 538), .str ⟨⟨[nat_lit 33]⟩⟩ (nat_lit 1461), .str hs.c92 (nat_lit 546), .str hs.c93 (nat_lit 550), .str hs.c94 (nat_lit 554), .str hs.c95 (nat_lit 558), .str hs.c96 (nat_lit 562), .str hs.c97 (nat_lit 566), .str hs.c98 (nat_lit 570), .str hs.c99 (nat_lit 574), .str ⟨⟨[nat_lit 42]⟩⟩ (nat_lit 1464), .str ⟨⟨[nat_lit 43]⟩⟩ (nat_lit 1467), .str hs.c102 (nat_lit 586), .str ⟨⟨[nat_lit 45]⟩⟩ (nat_lit 1458), .str hs.c104 (nat_lit 594), .str ⟨⟨[nat_lit 47]⟩⟩ (nat_lit 1470), .str hs.c106 (nat_lit 602), .str hs.c107 (nat_lit 606), .str hs.c108 (nat_lit 610), .str hs.c109 (nat_lit 614), .str hs.c110 (nat_lit 618), .str hs.c111 (nat_lit 622), .str hs.c112 (nat_lit 626), .str hs.c113 (nat_lit 630), .str hs.c114 (nat_lit 634), .str hs.c115 (nat_lit 638), .str hs.c116 (nat_lit 642), .str hs.c117 (nat_lit 646), .str hs.c118 (nat_lit 650), .str hs.c119 (nat_lit 654), .str hs.c120 (nat_lit 658), .str hs.c121 (nat_lit 662), .str hs.c122 (nat_lit 666), .str ⟨⟨[nat_lit 65]⟩⟩ (nat_lit 1551), .str ⟨⟨[nat_lit 66]⟩⟩ (nat_lit 1554), .str ⟨⟨[nat_lit 67]⟩⟩ (nat_lit 1557), .str hs.c126 (nat_lit 682), .str hs.c127 (nat_lit 686), .str hs.c128 (nat_lit 690), .str hs.c129 (nat_lit 694), .str hs.c130 (nat_lit 698), .str hs.c131 (nat_lit 702), .str hs.c132 (nat_lit 706), .str hs.c133 (nat_lit 710), .str hs.c134 (nat_lit 714), .str hs.c135 (nat_lit 718), .str hs.c136 (nat_lit 722), .str hs.c137 (nat_lit 726), .str hs.c138 (nat_lit 730), .str hs.c139 (nat_lit 734), .str hs.c140 (nat_lit 738), .str hs.c141 (nat_lit 742), .str hs.c142 (nat_lit 746), .str hs.c143 (nat_lit 750), .str hs.c144 (nat_lit 754), .str hs.c145 (nat_lit 758), .str hs.c146 (nat_lit 762), .str hs.c147 (nat_lit 766), .str hs.c148 (nat_lit 770), .str hs.c149 (nat_lit 774), .str hs.c150 (nat_lit 778), .str hs.c151 (nat_lit 782), .str hs.c152 (nat_lit 786), .str hs.c153 (nat_lit 790), .str hs.c154 (nat_lit 794), .str ⟨⟨[nat_lit 97]⟩⟩ (nat_lit 1473), .str ⟨⟨[nat_lit 98]⟩⟩ (nat_lit 1476), .str ⟨⟨[nat_lit 99]⟩⟩ (nat_lit 1479), .str ⟨⟨[nat_lit 100]⟩⟩ (nat_lit 1482), .str ⟨⟨[nat_lit 101]⟩⟩ (nat_lit 1485), .str ⟨⟨[nat_lit 102]⟩⟩ (nat_lit 1488), .str ⟨⟨[nat_lit 103]⟩⟩ (nat_lit 1491), .str ⟨⟨[nat_lit 104]⟩⟩ (nat_lit 1494), .str ⟨⟨[nat_lit 105]⟩⟩ (nat_lit 1497), .str ⟨⟨[nat_lit 106]⟩⟩ (nat_lit 1500), .str ⟨⟨[nat_lit 107]⟩⟩ (nat_lit 1503), .str ⟨⟨[nat_lit 108]⟩⟩ (nat_lit 1506), .str ⟨⟨[nat_lit 109]⟩⟩ (nat_lit 1509), .str ⟨⟨[nat_lit 110]⟩⟩ (nat_lit 1512), .str ⟨⟨[nat_lit 111]⟩⟩ (nat_lit 1515), .str ⟨⟨[nat_lit 112]⟩⟩ (nat_lit 1518), .str ⟨⟨[nat_lit 113]⟩⟩ (nat_lit 1521), .str ⟨⟨[nat_lit 114]⟩⟩ (nat_lit 1524), .str ⟨⟨[nat_lit 115]⟩⟩ (nat_lit 1527), .str ⟨⟨[nat_lit 116]⟩⟩ (nat_lit 1530), .str ⟨⟨[nat_lit 117]⟩⟩ (nat_lit 1533), .str ⟨⟨[nat_lit 118]⟩⟩ (nat_lit 1536), .str ⟨⟨[nat_lit 119]⟩⟩ (nat_lit 1539), .str ⟨⟨[nat_lit 120]⟩⟩ (nat_lit 1542), .str ⟨⟨[nat_lit 121]⟩⟩ (nat_lit 1545), .str ⟨⟨[nat_lit 122]⟩⟩ (nat_lit 1548), .str hs.c181 (nat_lit 902), .str hs.c182 (nat_lit 906), .str hs.c183 (nat_lit 910), .str hs.c184 (nat_lit 914), .str hs.c185 (nat_lit 918), .str hs.c186 (nat_lit 922), .str hs.c187 (nat_lit 926), .str hs.c188 (nat_lit 930), .str hs.c189 (nat_lit 934), .str hs.c190 (nat_lit 938), .str hs.c191 (nat_lit 942), .str hs.c192 (nat_lit 946), .str hs.c193 (nat_lit 950), .str hs.c194 (nat_lit 954), .str hs.c195 (nat_lit 958), .str hs.c196 (nat_lit 962), .str hs.c197 (nat_lit 966), .str hs.c198 (nat_lit 970), .str hs.c199 (nat_lit 974), .str hs.c200 (nat_lit 978), .str hs.c201 (nat_lit 982), .str hs.c202 (nat_lit 986), .str hs.c203 (nat_lit 990), .str hs.c204 (nat_lit 994), .str hs.c205 (nat_lit 998), .str hs.c206 (nat_lit 1002), .str hs.c207 (nat_lit 1006), .str hs.c208 (nat_lit 1010), .str hs.c209 (nat_lit 1014), .str hs.c210 (nat_lit 1018), .str hs.c211 (nat_lit 1022), .str hs.c212 (nat_lit 1026), .str hs.c213 (nat_lit 1030), .str hs.c214 (nat_lit 1034), .str hs.c215 (nat_lit 1038), .str hs.c216 (nat_lit 1042), .str hs.c217 (nat_lit 1046), .str hs.c218 (nat_lit 1050), .str hs.c219 (nat_lit 1054), .str hs.c220 (nat_lit 1058), .str hs.c221 (nat_lit 1062), .str hs.c222 (nat_lit 1066), .str hs.c223 (nat_lit 1070), .str hs.c224 (nat_lit 1074), .str hs.c225 (nat_lit 1078), .str hs.c226 (nat_lit 1082), .str hs.c227 (nat_lit 1086), .str hs.c228 (nat_lit 1090), .str hs.c229 (nat_lit 1094), .str hs.c230 (nat_lit 1098), .str hs.c231 (nat_lit 1102), .str hs.c232 (nat_lit 1106), .str hs.c233 (nat_lit 1110), .str hs.c234 (nat_lit 1114), .str hs.c235 (nat_lit 1118), .str hs.c236 (nat_lit 1122), .str hs.c237 (nat_lit 1126), .str hs.c238 (nat_lit 1130), .str hs.c239 (nat_lit 1134), .str hs.c240 (nat_lit 1138), .str hs.c241 (nat_lit 1142), .str hs.c242 (nat_lit 1146), .str hs.c243 (nat_lit 1150), .str hs.c244 (nat_lit 1154), .str hs.c245 (nat_lit 1158), .str hs.c246 (nat_lit 1162), .str hs.c247 (nat_lit 1166), .str hs.c248 (nat_lit 1170), .str hs.c249 (nat_lit 1174), .str hs.c250 (nat_lit 1178), .str hs.c251 (nat_lit 1182), .str hs.c252 (nat_lit 1186), .str hs.c253 (nat_lit 1190), .str hs.c254 (nat_lit 1194), .str hs.c255 (nat_lit 1198), .str hs.c256 (nat_lit 1202), .str hs.c257 (nat_lit 1206), .str hs.c258 (nat_lit 1210), .str hs.c259 (nat_lit 1214), .str hs.c260 (nat_lit 1218), .str hs.c261 (nat_lit 1222), .str hs.c262 (nat_lit 1226), .str hs.c263 (nat_lit 1230), .str hs.c264 (nat_lit 1234), .str hs.c265 (nat_lit 1238), .str hs.c266 (nat_lit 1242), .str hs.c267 (nat_lit 1246), .str hs.c268 (nat_lit 1250), .str hs.c269 (nat_lit 1254), .str hs.c270 (nat_lit 1258), .str hs.c271 (nat_lit 1262), .str hs.c272 (nat_lit 1266), .str hs.c273 (nat_lit 1270), .str hs.c274 (nat_lit 1274), .str hs.c275 (nat_lit 1278), .str hs.c276 (nat_lit 1282), .str hs.c277 (nat_lit 1286), .str hs.c278 (nat_lit 1290), .str hs.c279 (nat_lit 1294), .str hs.c280 (nat_lit 1298), .str hs.c281 (nat_lit 1302), .str hs.c282 (nat_lit 1306), .str hs.c283 (nat_lit 1310), .str hs.c284 (nat_lit 1314), .str hs.c285 (nat_lit 1318), .str hs.c286 (nat_lit 1322), .str hs.c287 (nat_lit 1326), .str hs.c288 (nat_lit 1330), .str hs.c289 (nat_lit 1334), .str hs.c290 (nat_lit 1338), .str hs.c291 (nat_lit 1342), .str hs.c292 (nat_lit 1346), .str hs.c293 (nat_lit 1350), .str hs.c294 (nat_lit 1354), .str hs.c295 (nat_lit 1358), .str hs.c296 (nat_lit 1362), .str hs.c297 (nat_lit 1366), .str hs.c298 (nat_lit 1370), .str hs.c299 (nat_lit 1374), .str hs.c300 (nat_lit 1378), .str hs.c301 (nat_lit 1382), .str hs.c302 (nat_lit 1386), .str hs.c303 (nat_lit 1390), .str hs.c304 (nat_lit 1394), .str hs.c305 (nat_lit 1398), .str hs.c306 (nat_lit 1402), .str hs.c307 (nat_lit 1406), .str hs.c308 (nat_lit 1410), .str hs.c309 (nat_lit 1414), .str hs.c310 (nat_lit 1418), .str hs.c311 (nat_lit 1422), .str hs.c312 (nat_lit 1426), .str hs.c313 (nat_lit 1430)]⟩ (nat_lit 0), ⟨[]⟩⟩
noncomputable def hs.o94v1 (_ : Params) : Obj := ⟨.type "bytes_iterator", none, .fields ⟨[.bytes ⟨[UInt8.ofNat (nat_lit 45), UInt8.ofNat (nat_lit 33), UInt8.ofNat (nat_lit 42), UInt8.ofNat (nat_lit 43), UInt8.ofNat (nat_lit 47), UInt8.ofNat (nat_lit 97), UInt8.ofNat (nat_lit 98), UInt8.ofNat (nat_lit 99), UInt8.ofNat (nat_lit 100), UInt8.ofNat (nat_lit 101), UInt8.ofNat (nat_lit 102), UInt8.ofNat (nat_lit 103), UInt8.ofNat (nat_lit 104), UInt8.ofNat (nat_lit 105), UInt8.ofNat (nat_lit 106), UInt8.ofNat (nat_lit 107), UInt8.ofNat (nat_lit 108), UInt8.ofNat (nat_lit 109), UInt8.ofNat (nat_lit 110), UInt8.ofNat (nat_lit 111), UInt8.ofNat (nat_lit 112), UInt8.ofNat (nat_lit 113), UInt8.ofNat (nat_lit 114), UInt8.ofNat (nat_lit 115), UInt8.ofNat (nat_lit 116), UInt8.ofNat (nat_lit 117), UInt8.ofNat (nat_lit 118), UInt8.ofNat (nat_lit 119), UInt8.ofNat (nat_lit 120), UInt8.ofNat (nat_lit 121), UInt8.ofNat (nat_lit 122), UInt8.ofNat (nat_lit 65), UInt8.ofNat (nat_lit 66), UInt8.ofNat (nat_lit 67), UInt8.ofNat (nat_lit 68), UInt8.ofNat (nat_lit 69), UInt8.ofNat (nat_lit 70), UInt8.ofNat (nat_lit 71), UInt8.ofNat (nat_lit 72), UInt8.ofNat (nat_lit 73), UInt8.ofNat (nat_lit 74), UInt8.ofNat (nat_lit 75), UInt8.ofNat (nat_lit 76), UInt8.ofNat (nat_lit 77), UInt8.ofNat (nat_lit 78), UInt8.ofNat (nat_lit 79), UInt8.ofNat (nat_lit 80), UInt8.ofNat (nat_lit 81), UInt8.ofNat (nat_lit 82), UInt8.ofNat (nat_lit 83), UInt8.ofNat (nat_lit 84), UInt8.ofNat (nat_lit 85), UInt8.ofNat (nat_lit 86), UInt8.ofNat (nat_lit 87), UInt8.ofNat (nat_lit 88), UInt8.ofNat (nat_lit 89), UInt8.ofNat (nat_lit 90), UInt8.ofNat (nat_lit 48), UInt8.ofNat (nat_lit 49), UInt8.ofNat (nat_lit 50), UInt8.ofNat (nat_lit 51), UInt8.ofNat (nat_lit 52), UInt8.ofNat (nat_lit 53), UInt8.ofNat (nat_lit 54), UInt8.ofNat (nat_lit 55), UInt8.ofNat (nat_lit 56), UInt8.ofNat (nat_lit 57)]⟩ (nat_lit 1455), .int (.ofNat (nat_lit 34)) (nat_lit 0)]⟩, ⟨[]⟩⟩
noncomputable def hs.tC2 (P : Params) : BT := (.node (hs.o0v0 P) (.node (hs.o1v0 P) (.node (hs.o3v5 P) (.node (hs.o7v0 P) (.node (hs.o15v0 P) (.node (hs.o31v0 P) (.node (hs.o63v0 P) .nil .nil) .nil) (.node (hs.o47v0 P) (.node (hs.o79v0 P) .nil .nil) .nil)) (.node (hs.o23v0 P) (.node (hs.o39v0 P) (.node (hs.o71v0 P) .nil .nil) .nil) (.node (hs.o55v0 P) (.node (hs.o87v5 P) .nil .nil) .nil))) (.node (hs.o11v0 P) (.node (hs.o19v0 P) (.node (hs.o35v0 P) (.node (hs.o67v0 P) .nil .nil) .nil) (.node (hs.o51v0 P) (.node (hs.o83v0 P) .nil .nil) .nil)) (.node (hs.o27v0 P) (.node (hs.o43v0 P) (.node (hs.o75v0 P) .nil .nil) .nil) (.node (hs.o59v0 P) (.node (hs.o91v2 P) .nil .nil) .nil)))) (.node (hs.o5v0 P) (.node (hs.o9v0 P) (.node (hs.o17v0 P) (.node (hs.o33v0 P) (.node (hs.o65v0 P) .nil .nil) .nil) (.node (hs.o49v0 P) (.node (hs.o81v0 P) .nil .nil) .nil)) (.node (hs.o25v0 P) (.node (hs.o41v0 P) (.node (hs.o73v0 P) .nil .nil) .nil) (.node (hs.o57v0 P) (.node (hs.o89v0 P) .nil .nil) .nil))) (.node (hs.o13v0 P) (.node (hs.o21v0 P) (.node (hs.o37v0 P) (.node (hs.o69v0 P) .nil .nil) .nil) (.node (hs.o53v0 P) (.node (hs.o85v4 P) .nil .nil) .nil)) (.node (hs.o29v1 P) (.node (hs.o45v0 P) (.node (hs.o77v0 P) .nil .nil) .nil) (.node (hs.o61v0 P) (.node (hs.o93v0 P) .nil .nil) .nil))))) (.node (hs.o2v0 P) (.node (hs.o4v0 P) (.node (hs.o8v0 P) (.node (hs.o16v0 P) (.node (hs.o32v0 P) (.node (hs.o64v0 P) .nil .nil) .nil) (.node (hs.o48v0 P) (.node (hs.o80v0 P) .nil .nil) .nil)) (.node (hs.o24v0 P) (.node (hs.o40v0 P) (.node (hs.o72v0 P) .nil .nil) .nil) (.node (hs.o56v0 P) (.node (hs.o88v0 P) .nil .nil) .nil))) (.node (hs.o12v0 P) (.node (hs.o20v0 P) (.node (hs.o36v0 P) (.node (hs.o68v0 P) .nil .nil) .nil) (.node (hs.o52v0 P) (.node (hs.o84v0 P) .nil .nil) .nil)) (.node (hs.o28v0 P) (.node (hs.o44v0 P) (.node (hs.o76v0 P) .nil .nil) .nil) (.node (hs.o60v0 P) (.node (hs.o92v0 P) .nil .nil) .nil)))) (.node (hs.o6v0 P) (.node (hs.o10v0 P) (.node (hs.o18v0 P) (.node (hs.o34v0 P) (.node (hs.o66v0 P) .nil .nil) .nil) (.node (hs.o50v0 P) (.node (hs.o82v0 P) .nil .nil) .nil)) (.node (hs.o26v0 P) (.node (hs.o42v0 P) (.node (hs.o74v0 P) .nil .nil) .nil) (.node (hs.o58v0 P) (.node (hs.o90v0 P) .nil .nil) .nil))) (.node (hs.o14v0 P) (.node (hs.o22v0 P) (.node (hs.o38v0 P) (.node (hs.o70v0 P) .nil .nil) .nil) (.node (hs.o54v0 P) (.node (hs.o86v4 P) .nil .nil) .nil)) (.node (hs.o30v0 P) (.node (hs.o46v0 P) (.node (hs.o78v0 P) .nil .nil) .nil) (.node (hs.o62v0 P) (.node (hs.o94v1 P) .nil .nil) .nil))))))
noncomputable abbrev hs.sC2 (w : World) (os : OsState) : SharedT := ⟨hs.tC2 w.params, nat_lit 95, hs.life, ⟨[]⟩, ⟨nat_lit 0, nat_lit 0, nat_lit 0, nat_lit 0⟩, nat_lit 1558, os⟩
noncomputable def hs.o3v6 (P : Params) : Obj := ⟨.type "dict", none, .dict ⟨[de P hs.c0 (nat_lit 165) (.str hs.c315 (nat_lit 1447)), de P hs.c2 (nat_lit 166) (.none), de P hs.c3 (nat_lit 167) (.none), de P hs.c4 (nat_lit 168) (.builtin "__main__.__loader__#opaque"), de P hs.c5 (nat_lit 169) (.none), de P hs.c10 (nat_lit 170) (.ref (nat_lit 6)), de P hs.c11 (nat_lit 171) (.ref (nat_lit 4)), de P hs.c12 (nat_lit 173) (.str hs.c13 (nat_lit 172)), de P hs.c14 (nat_lit 174) (.none), de P hs.c9 (nat_lit 275) (.ref (nat_lit 12)), de P hs.c34 (nat_lit 290) (.ref (nat_lit 38)), de P hs.c35 (nat_lit 292) (.int (.ofNat (nat_lit 16384)) (nat_lit 291)), de P hs.c36 (nat_lit 294) (.int (.ofNat (nat_lit 8192)) (nat_lit 293)), de P hs.c37 (nat_lit 296) (.int (.ofNat (nat_lit 24576)) (nat_lit 295)), de P hs.c38 (nat_lit 298) (.int (.ofNat (nat_lit 32768)) (nat_lit 297)), de P hs.c39 (nat_lit 300) (.int (.ofNat (nat_lit 4096)) (nat_lit 299)), de P hs.c40 (nat_lit 302) (.int (.ofNat (nat_lit 40960)) (nat_lit 301)), de P hs.c41 (nat_lit 304) (.int (.ofNat (nat_lit 49152)) (nat_lit 303)), de P hs.c42 (nat_lit 306) (.int (.ofNat (nat_lit 2048)) (nat_lit 305)), de P hs.c43 (nat_lit 308) (.int (.ofNat (nat_lit 1024)) (nat_lit 307)), de P hs.c44 (nat_lit 310) (.int (.ofNat (nat_lit 512)) (nat_lit 309)), de P hs.c45 (nat_lit 312) (.int (.ofNat (nat_lit 256)) (nat_lit 311)), de P hs.c46 (nat_lit 314) (.int (.ofNat (nat_lit 128)) (nat_lit 313)), de P hs.c47 (nat_lit 316) (.int (.ofNat (nat_lit 64)) (nat_lit 315)), de P hs.c48 (nat_lit 318) (.int (.ofNat (nat_lit 32)) (nat_lit 317)), de P hs.c49 (nat_lit 320) (.int (.ofNat (nat_lit 16)) (nat_lit 319)), de P hs.c50 (nat_lit 322) (.int (.ofNat (nat_lit 8)) (nat_lit 321)), de P hs.c51 (nat_lit 324) (.int (.ofNat (nat_lit 4)) (nat_lit 323)), de P hs.c52 (nat_lit 326) (.int (.ofNat (nat_lit 2)) (nat_lit 325)), de P hs.c53 (nat_lit 328) (.int (.ofNat (nat_lit 1)) (nat_lit 327)), de P hs.c54 (nat_lit 354) (.ref (nat_lit 71)), de P hs.c55 (nat_lit 366) (.ref (nat_lit 78)), de P hs.c56 (nat_lit 401) (.ref (nat_lit 83)), de P ⟨⟨[nat_lit 78, nat_lit 76]⟩⟩ (nat_lit 403) (.str ⟨⟨[nat_lit 10]⟩⟩ (nat_lit 402)), de P hs.c314 (nat_lit 1431) (.ref (nat_lit 86)), de P hs.c316 (nat_lit 1432) (.ref (nat_lit 91)), de P hs.c317 (nat_lit 1433) (.ref (nat_lit 93)), de P hs.c318 (nat_lit 1435) (.str hs.c319 (nat_lit 1434)), de P hs.c320 (nat_lit 1437) (.str hs.c321 (nat_lit 1436)), de P hs.c322 (nat_lit 1439) (.str hs.c323 (nat_lit 1438)), de P hs.c324 (nat_lit 1441) (.str hs.c325 (nat_lit 1440)), de P hs.c326 (nat_lit 1446) (.str hs.c327 (nat_lit 1445)), de P ⟨⟨[nat_lit 99]⟩⟩ (nat_lit 1457) (.int (.ofNat (nat_lit 57)) (nat_lit 1654))]⟩ (nat_lit 43), ⟨[]⟩⟩
noncomputable def hs.o91v3 (_ : Params) : Obj := ⟨.type "list", none, .seq ⟨[.str hs.c58 (nat_lit 410), .str hs.c59 (nat_lit 414), .str hs.c60 (nat_lit 418), .str hs.c61 (nat_lit 422), .str hs.c62 (nat_lit 426), .str hs.c63 (nat_lit 430), .str hs.c64 (nat_lit 434), .str hs.c65 (nat_lit 438), .str hs.c66 (nat_lit 442), .str hs.c67 (nat_lit 446), .str hs.c68 (nat_lit 450), .str hs.c69 (nat_lit 454), .str hs.c70 (nat_lit 458), .str hs.c71 (nat_lit 462), .str hs.c72 (nat_lit 466), .str hs.c73 (nat_lit 470), .str hs.c74 (nat_lit 474), .str hs.c75 (nat_lit 478), .str hs.c76 (nat_lit 482), .str hs.c77 (nat_lit 486), .str hs.c78 (nat_lit 490), .str hs.c79 (nat_lit 494), .str hs.c80 (nat_lit 498), .str hs.c81 (nat_lit 502), .str hs.c82 (nat_lit 506), .str hs.c83 (nat_lit 510), .str hs.c84 (nat_lit 514), .str hs.c85 (nat_lit 518), .str hs.c86 (nat_lit 522), .str hs.c87 (nat_lit 526), .str hs.c88 (nat_lit 530), .str hs.c89 (nat_lit 534), .str hs.c90 (nat_lit 538), .str ⟨⟨[nat_lit 33]⟩⟩ (nat_lit 1461), .str hs.c92 (nat_lit 546), .str hs.c93 (nat_lit 550), .str hs.c94 (nat_lit 554), .str hs.c95 (nat_lit 558), .str hs.c96 (nat_lit 562), .str hs.c97 (nat_lit 566), .str hs.c98 (nat_lit 570), .str hs.c99 (nat_lit 574), .str ⟨⟨[nat_lit 42]⟩⟩ (nat_lit 1464), .str ⟨⟨[nat_lit 43]⟩⟩ (nat_lit 1467), .str hs.c102 (nat_lit 586), .str ⟨⟨[nat_lit 45]⟩⟩ (nat_lit 1458), .str hs.c104 (nat_lit 594), .str ⟨⟨[nat_lit 47]⟩⟩ (nat_lit 1470), .str ⟨⟨[nat_lit 48]⟩⟩ (nat_lit 1629), .str ⟨⟨[nat_lit 49]⟩⟩ (nat_lit 1632), .str ⟨⟨[nat_lit 50]⟩⟩ (nat_lit 1635), .str ⟨⟨[nat_lit 51]⟩⟩ (nat_lit 1638), .str ⟨⟨[nat_lit 52]⟩⟩ (nat_lit 1641), .str ⟨⟨[nat_lit 53]⟩⟩ (nat_lit 1644), .str ⟨⟨[nat_lit 54]⟩⟩ (nat_lit 1647), .str ⟨⟨[nat_lit 55]⟩⟩ (nat_lit 1650), .str ⟨⟨[nat_lit 56]⟩⟩ (nat_lit 1653), .str ⟨⟨[nat_lit 57]⟩⟩ (nat_lit 1656), .str hs.c116 (nat_lit 642), .str hs.c117 (nat_lit 646), .str hs.c118 (nat_lit 650), .str hs.c119 (nat_lit 654), .str hs.c120 (nat_lit 658), .str hs.c121 (nat_lit 662), .str hs.c122 (nat_lit 666), .str ⟨⟨[nat_lit 65]⟩⟩ (nat_lit 1551), .str ⟨⟨[nat_lit 66]⟩⟩ (nat_lit 1554), .str ⟨⟨[nat_lit 67]⟩⟩ (nat_lit 1557), .str ⟨⟨[nat_lit 68]⟩⟩ (nat_lit 1560), .str ⟨⟨[nat_lit 69]⟩⟩ (nat_lit 1563), .str ⟨⟨[nat_lit 70]⟩⟩ (nat_lit 1566), .str ⟨⟨[nat_lit 71]⟩⟩ (nat_lit 1569), .str ⟨⟨[nat_lit 72]⟩⟩ (nat_lit 1572), .str ⟨⟨[nat_lit 73]⟩⟩ (nat_lit 1575), .str ⟨⟨[nat_lit 74]⟩⟩ (nat_lit 1578), .str ⟨⟨[nat_lit 75]⟩⟩ (nat_lit 1581), .str ⟨⟨[nat_lit 76]⟩⟩ (nat_lit 1584), .str ⟨⟨[nat_lit 77]⟩⟩ (nat_lit 1587), .str ⟨⟨[nat_lit 78]⟩⟩ (nat_lit 1590), .str ⟨⟨[nat_lit 79]⟩⟩ (nat_lit 1593), .str ⟨⟨[nat_lit 80]⟩⟩ (nat_lit 1596), .str ⟨⟨[nat_lit 81]⟩⟩ (nat_lit 1599), .str ⟨⟨[nat_lit 82]⟩⟩ (nat_lit 1602), .str ⟨⟨[nat_lit 83]⟩⟩ (nat_lit 1605), .str ⟨⟨[nat_lit 84]⟩⟩ (nat_lit 1608), .str ⟨⟨[nat_lit 85]⟩⟩ (nat_lit 1611), .str ⟨⟨[nat_lit 86]⟩⟩ (nat_lit 1614), .str ⟨⟨[nat_lit 87]⟩⟩ (nat_lit 1617), .str ⟨⟨[nat_lit 88]⟩⟩ (nat_lit 1620), .str ⟨⟨[nat_lit 89]⟩⟩ (nat_lit 1623), .str ⟨⟨[nat_lit 90]⟩⟩ (nat_lit 1626), .str hs.c149 (nat_lit 774), .str hs.c150 (nat_lit 778), .str hs.c151 (nat_lit 782), .str hs.c152 (nat_lit 786), .str hs.c153 (nat_lit 790), .str hs.c154 (nat_lit 794), .str ⟨⟨[nat_lit 97]⟩⟩ (nat_lit 1473), .str ⟨⟨[nat_lit 98]⟩⟩ (nat_lit 1476), .str ⟨⟨[nat_lit 99]⟩⟩ (nat_lit 1479), .str ⟨⟨[nat_lit 100]⟩⟩ (nat_lit 1482), .str ⟨⟨[nat_lit 101]⟩⟩ (nat_lit 1485), .str ⟨⟨[nat_lit 102]⟩⟩ (nat_lit 1488), .str ⟨⟨[nat_lit 103]⟩⟩ (nat_lit 1491), .str ⟨⟨[nat_lit 104]⟩⟩ (nat_lit 1494), .str ⟨⟨[nat_lit 105]⟩⟩ (nat_lit 1497), .str ⟨⟨[nat_lit 106]⟩⟩ (nat_lit 1500), .str ⟨⟨[nat_lit 107]⟩⟩ (nat_lit 1503), .str ⟨⟨[nat_lit 108]⟩⟩ (nat_lit 1506), .str ⟨⟨[nat_lit 109]⟩⟩ (nat_lit 1509), .str ⟨⟨[nat_lit 110]⟩⟩ (nat_lit 1512), .str ⟨⟨[nat_lit 111]⟩⟩ (nat_lit 1515), .str ⟨⟨[nat_lit 112]⟩⟩ (nat_lit 1518), .str ⟨⟨[nat_lit 113]⟩⟩ (nat_lit 1521), .str ⟨⟨[nat_lit 114]⟩⟩ (nat_lit 1524), .str ⟨⟨[nat_lit 115]⟩⟩ (nat_lit 1527), .str ⟨⟨[nat_lit 116]⟩⟩ (nat_lit 1530), .str ⟨⟨[nat_lit 117]⟩⟩ (nat_lit 1533), .str ⟨⟨[nat_lit 118]⟩⟩ (nat_lit 1536), .str ⟨⟨[nat_lit 119]⟩⟩ (nat_lit 1539), .str ⟨⟨[nat_lit 120]⟩⟩ (nat_lit 1542), .str ⟨⟨[nat_lit 121]⟩⟩ (nat_lit 1545), .str ⟨⟨[nat_lit 122]⟩⟩ (nat_lit 1548), .str hs.c181 (nat_lit 902), .str hs.c182 (nat_lit 906), .str hs.c183 (nat_lit 910), .str hs.c184 (nat_lit 914), .str hs.c185 (nat_lit 918), .str hs.c186 (nat_lit 922), .str hs.c187 (nat_lit 926), .str hs.c188 (nat_lit 930), .str hs.c189 (nat_lit 934), .str hs.c190 (nat_lit 938), .str hs.c191 (nat_lit 942), .str hs.c192 (nat_lit 946), .str hs.c193 (nat_lit 950), .str hs.c194 (nat_lit 954), .str hs.c195 (nat_lit 958), .str hs.c196 (nat_lit 962), .str hs.c197 (nat_lit 966), .str hs.c198 (nat_lit 970), .str hs.c199 (nat_lit 974), .str hs.c200 (nat_lit 978), .str hs.c201 (nat_lit 982), .str hs.c202 (nat_lit 986), .str hs.c203 (nat_lit 990), .str hs.c204 (nat_lit 994), .str hs.c205 (nat_lit 998), .str hs.c206 (nat_lit 1002), .str hs.c207 (nat_lit 1006), .str hs.c208 (nat_lit 1010), .str hs.c209 (nat_lit 1014), .str hs.c210 (nat_lit 1018), .str hs.c211 (nat_lit 1022), .str hs.c212 (nat_lit 1026), .str hs.c213 (nat_lit 1030), .str hs.c214 (nat_lit 1034), .str hs.c215 (nat_lit 1038), .str hs.c216 (nat_lit 1042), .str hs.c217 (nat_lit 1046), .str hs.c218 (nat_lit 1050), .str hs.c219 (nat_lit 1054), .str hs.c220 (nat_lit 1058), .str hs.c221 (nat_lit 1062), .str hs.c222 (nat_lit 1066), .str hs.c223 (nat_lit 1070), .str hs.c224 (nat_lit 1074), .str hs.c225 (nat_lit 1078), .str hs.c226 (nat_lit 1082), .str hs.c227 (nat_lit 1086), .str hs.c228 (nat_lit 1090), .str hs.c229 (nat_lit 1094), .str hs.c230 (nat_lit 1098), .str hs.c231 (nat_lit 1102), .str hs.c232 (nat_lit 1106), .str hs.c233 (nat_lit 1110), .str hs.c234 (nat_lit 1114), .str hs.c235 (nat_lit 1118), .str hs.c236 (nat_lit 1122), .str hs.c237 (nat_lit 1126), .str hs.c238 (nat_lit 1130), .str hs.c239 (nat_lit 1134), .str hs.c240 (nat_lit 1138), .str hs.c241 (nat_lit 1142), .str hs.c242 (nat_lit 1146), .str hs.c243 (nat_lit 1150), .str hs.c244 (nat_lit 1154), .str hs.c245 (nat_lit 1158), .str hs.c246 (nat_lit 1162), .str hs.c247 (nat_lit 1166), .str hs.c248 (nat_lit 1170), .str hs.c249 (nat_lit 1174), .str hs.c250 (nat_lit 1178), .str hs.c251 (nat_lit 1182), .str hs.c252 (nat_lit 1186), .str hs.c253 (nat_lit 1190), .str hs.c254 (nat_lit 1194), .str hs.c255 (nat_lit 1198), .str hs.c256 (nat_lit 1202), .str hs.c257 (nat_lit 1206), .str hs.c258 (nat_lit 1210), .str hs.c259 (nat_lit 1214), .str hs.c260 (nat_lit 1218), .str hs.c261 (nat_lit 1222), .str hs.c262 (nat_lit 1226), .str hs.c263 (nat_lit 1230), .str hs.c264 (nat_lit 1234), .str hs.c265 (nat_lit 1238), .str hs.c266 (nat_lit 1242), .str hs.c267 (nat_lit 1246), .str hs.c268 (nat_lit 1250), .str hs.c269 (nat_lit 1254), .str hs.c270 (nat_lit 1258), .str hs.c271 (nat_lit 1262), .str hs.c272 (nat_lit 1266), .str hs.c273 (nat_lit 1270), .str hs.c274 (nat_lit 1274), .str hs.c275 (nat_lit 1278), .str hs.c276 (nat_lit 1282), .str hs.c277 (nat_lit 1286), .str hs.c278 (nat_lit 1290), .str hs.c279 (nat_lit 1294), .str hs.c280 (nat_lit 1298), .str hs.c281 (nat_lit 1302), .str hs.c282 (nat_lit 1306), .str hs.c283 (nat_lit 1310), .str hs.c284 (nat_lit 1314), .str hs.c285 (nat_lit 1318), .str hs.c286 (nat_lit 1322), .str hs.c287 (nat_lit 1326), .str hs.c288 (nat_lit 1330), .str hs.c289 (nat_lit 1334), .str hs.c290 (nat_lit 1338), .str hs.c291 (nat_lit 1342), .str hs.c292 (nat_lit 1346), .str hs.c293 (nat_lit 1350), .str hs.c294 (nat_lit 1354), .str hs.c295 (nat_lit 1358), .str hs.c296 (nat_lit 1362), .str hs.c297 (nat_lit 1366), .str hs.c298 (nat_lit 1370), .str hs.c299 (nat_lit 1374), .str hs.c300 (nat_lit 1378), .str hs.c301 (nat_lit 1382), .str hs.c302 (nat_lit 1386), .str hs.c303 (nat_lit 1390), .str hs.c304 (nat_lit 1394), .str hs.c305 (nat_lit 1398), .str hs.c306 (nat_lit 1402), .str hs.c307 (nat_lit 1406), .str hs.c308 (nat_lit 1410), .str hs.c309 (nat_lit 1414), .str hs.c310 (nat_lit 1418), .str hs.c311 (nat_lit 1422), .str hs.c312 (nat_lit 1426), .str hs.c313 (nat_lit 1430)]⟩ (nat_lit 0), ⟨[]⟩⟩
noncomputable def hs.o94v2 (_ : Params) : Obj := ⟨.type "bytes_iterator", none, .fields ⟨[.bytes ⟨[UInt8.ofNat (nat_lit 45), UInt8.ofNat (nat_lit 33), UInt8.ofNat (nat_lit 42), UInt8.ofNat (nat_lit 43), UInt8.ofNat (nat_lit 47), UInt8.ofNat (nat_lit 97), UInt8.ofNat (nat_lit 98), UInt8.ofNat (nat_lit 99), UInt8.ofNat (nat_lit 100), UInt8.ofNat (nat_lit 101), UInt8.ofNat (nat_lit 102), UInt8.ofNat (nat_lit 103), UInt8.ofNat (nat_lit 104), UInt8.ofNat (nat_lit 105), UInt8.ofNat (nat_lit 106), UInt8.ofNat (nat_lit 107), UInt8.ofNat (nat_lit 108), UInt8.ofNat (nat_lit 109), UInt8.ofNat (nat_lit 110), UInt8.ofNat (nat_lit 111), UInt8.ofNat (nat_lit 112), UInt8.ofNat (nat_lit 113), UInt8.ofNat (nat_lit 114), UInt8.ofNat (nat_lit 115), UInt8.ofNat (nat_lit 116), UInt8.ofNat (nat_lit 117), UInt8.ofNat (nat_lit 118), UInt8.ofNat (nat_lit 119), UInt8.ofNat (nat_lit 120), UInt8.ofNat (nat_lit 121), UInt8.ofNat (nat_lit 122), UInt8.ofNat (nat_lit 65), UInt8.ofNat (nat_lit 66), UInt8.ofNat (nat_lit 67), UInt8.ofNat (nat_lit 68), UInt8.ofNat (nat_lit 69), UInt8.ofNat (nat_lit 70), UInt8.ofNat (nat_lit 71), UInt8.ofNat (nat_lit 72), UInt8.ofNat (nat_lit 73), UInt8.ofNat (nat_lit 74), UInt8.ofNat (nat_lit 75), UInt8.ofNat (nat_lit 76), UInt8.ofNat (nat_lit 77), UInt8.ofNat (nat_lit 78), UInt8.ofNat (nat_lit 79), UInt8.ofNat (nat_lit 80), UInt8.ofNat (nat_lit 81), UInt8.ofNat (nat_lit 82), UInt8.ofNat (nat_lit 83), UInt8.ofNat (nat_lit 84), UInt8.ofNat (nat_lit 85), UInt8.ofNat (nat_lit 86), UInt8.ofNat (nat_lit 87), UInt8.ofNat (nat_lit 88), UInt8.ofNat (nat_lit 89), UInt8.ofNat (nat_lit 90), UInt8.ofNat (nat_lit 48), UInt8.ofNat (nat_lit 49), UInt8.ofNat (nat_lit 50), UInt8.ofNat (nat_lit 51), UInt8.ofNat (nat_lit 52), UInt8.ofNat (nat_lit 53), UInt8.ofNat (nat_lit 54), UInt8.ofNat (nat_lit 55), UInt8.ofNat (nat_lit 56), UInt8.ofNat (nat_lit 57)]⟩ (nat_lit 1455), .int (.ofNat (nat_lit 67)) (nat_lit 0)]⟩, ⟨[]⟩⟩
noncomputable def hs.tC3 (P : Params) : BT := (.node (hs.o0v0 P) (.node (hs.o1v0 P) (.node (hs.o3v6 P) (.node (hs.o7v0 P) (.node (hs.o15v0 P) (.node (hs.o31v0 P) (.node (hs.o63v0 P) .nil .nil) .nil) (.node (hs.o47v0 P) (.node (hs.o79v0 P) .nil .nil) .nil)) (.node (hs.o23v0 P) (.node (hs.o39v0 P) (.node (hs.o71v0 P) .nil .nil) .nil) (.node (hs.o55v0 P) (.node (hs.o87v5 P) .nil .nil) .nil))) (.node (hs.o11v0 P) (.node (hs.o19v0 P) (.node (hs.o35v0 P) (.node (hs.o67v0 P) .nil .nil) .nil) (.node (hs.o51v0 P) (.node (hs.o83v0 P) .nil .nil) .nil)) (.node (hs.o27v0 P) (.node (hs.o43v0 P) (.node (hs.o75v0 P) .nil .nil) .nil) (.node (hs.o59v0 P) (.node (hs.o91v3 P) .nil .nil) .nil)))) (.node (hs.o5v0 P) (.node (hs.o9v0 P) (.node (hs.o17v0 P) (.node (hs.o33v0 P) (.node (hs.o65v0 P) .nil .nil) .nil) (.node (hs.o49v0 P) (.node (hs.o81v0 P) .nil .nil) .nil)) (.node (hs.o25v0 P) (.node (hs.o41v0 P) (.node (hs.o73v0 P) .nil .nil) .nil) (.node (hs.o57v0 P) (.node (hs.o89v0 P) .nil .nil) .nil))) (.node (hs.o13v0 P) (.node (hs.o21v0 P) (.node (hs.o37v0 P) (.node (hs.o69v0 P) .nil .nil) .nil) (.node (hs.o53v0 P) (.node (hs.o85v4 P) .nil .nil) .nil)) (.node (hs.o29v1 P) (.node (hs.o45v0 P) (.node (hs.o77v0 P) .nil .nil) .nil) (.node (hs.o61v0 P) (.node (hs.o93v0 P) .nil .nil) .nil))))) (.node (hs.o2v0 P) (.node (hs.o4v0 P) (.node (hs.o8v0 P) (.node (hs.o16v0 P) (.node (hs.o32v0 P) (.node (hs.o64v0 P) .nil .nil) .nil) (.node (hs.o48v0 P) (.node (hs.o80v0 P) .nil .nil) .nil)) (.node (hs.o24v0 P) (.node (hs.o40v0 P) (.node (hs.o72v0 P) .nil .nil) .nil) (.node (hs.o56v0 P) (.node (hs.o88v0 P) .nil .nil) .nil))) (.node (hs.o12v0 P) (.node (hs.o20v0 P) (.node (hs.o36v0 P) (.node (hs.o68v0 P) .nil .nil) .nil) (.node (hs.o52v0 P) (.node (hs.o84v0 P) .nil .nil) .nil)) (.node (hs.o28v0 P) (.node (hs.o44v0 P) (.node (hs.o76v0 P) .nil .nil) .nil) (.node (hs.o60v0 P) (.node (hs.o92v0 P) .nil .nil) .nil)))) (.node (hs.o6v0 P) (.node (hs.o10v0 P) (.node (hs.o18v0 P) (.node (hs.o34v0 P) (.node (hs.o66v0 P) .nil .nil) .nil) (.node (hs.o50v0 P) (.node (hs.o82v0 P) .nil .nil) .nil)) (.node (hs.o26v0 P) (.node (hs.o42v0 P) (.node (hs.o74v0 P) .nil .nil) .nil) (.node (hs.o58v0 P) (.node (hs.o90v0 P) .nil .nil) .nil))) (.node (hs.o14v0 P) (.node (hs.o22v0 P) (.node (hs.o38v0 P) (.node (hs.o70v0 P) .nil .nil) .nil) (.node (hs.o54v0 P) (.node (hs.o86v4 P) .nil .nil) .nil)) (.node (hs.o30v0 P) (.node (hs.o46v0 P) (.node (hs.o78v0 P) .nil .nil) .nil) (.node (hs.o62v0 P) (.node (hs.o94v2 P) .nil .nil) .nil))))))
noncomputable abbrev hs.sC3 (w : World) (os : OsState) : SharedT := ⟨hs.tC3 w.params, nat_lit 95, hs.life, ⟨[]⟩, ⟨nat_lit 0, nat_lit 0, nat_lit 0, nat_lit 0⟩, nat_lit 1657, os⟩
noncomputable def hs.o94v3 (_ : Params) : Obj := ⟨.type "bytes_iterator", none, .fields ⟨[.none, .int (.ofNat (nat_lit 67)) (nat_lit 0)]⟩, ⟨[]⟩⟩
noncomputable def hs.o95v0 (_ : Params) : Obj := ⟨.type "tuple", none, .seq ⟨[]⟩ (nat_lit 0), ⟨[]⟩⟩
noncomputable def hs.o96v0 (_ : Params) : Obj := ⟨.type "StopIteration", none, .fields ⟨[.ref (nat_lit 95), .none, .none, .none, .bool false, .none]⟩, ⟨[]⟩⟩
noncomputable def hs.t34 (P : Params) : BT := (.node (hs.o0v0 P) (.node (hs.o1v0 P) (.node (hs.o3v6 P) (.node (hs.o7v0 P) (.node (hs.o15v0 P) (.node (hs.o31v0 P) (.node (hs.o63v0 P) .nil .nil) (.node (hs.o95v0 P) .nil .nil)) (.node (hs.o47v0 P) (.node (hs.o79v0 P) .nil .nil) .nil)) (.node (hs.o23v0 P) (.node (hs.o39v0 P) (.node (hs.o71v0 P) .nil .nil) .nil) (.node (hs.o55v0 P) (.node (hs.o87v5 P) .nil .nil) .nil))) (.node (hs.o11v0 P) (.node (hs.o19v0 P) (.node (hs.o35v0 P) (.node (hs.o67v0 P) .nil .nil) .nil) (.node (hs.o51v0 P) (.node (hs.o83v0 P) .nil .nil) .nil)) (.node (hs.o27v0 P) (.node (hs.o43v0 P) (.node (hs.o75v0 P) .nil .nil) .nil) (.node (hs.o59v0 P) (.node (hs.o91v3 P) .nil .nil) .nil)))) (.node (hs.o5v0 P) (.node (hs.o9v0 P) (.node (hs.o17v0 P) (.node (hs.o33v0 P) (.node (hs.o65v0 P) .nil .nil) .nil) (.node (hs.o49v0 P) (.node (hs.o81v0 P) .nil .nil) .nil)) (.node (hs.o25v0 P) (.node (hs.o41v0 P) (.node (hs.o73v0 P) .nil .nil) .nil) (.node (hs.o57v0 P) (.node (hs.o89v0 P) .nil .nil) .nil))) (.node (hs.o13v0 P) (.node (hs.o21v0 P) (.node (hs.o37v0 P) (.node (hs.o69v0 P) .nil .nil) .nil) (.node (hs.o53v0 P) (.node (hs.o85v4 P) .nil .nil) .nil)) (.node (hs.o29v1 P) (.node (hs.o45v0 P) (.node (hs.o77v0 P) .nil .nil) .nil) (.node (hs.o61v0 P) (.node (hs.o93v0 P) .nil .nil) .nil))))) (.node (hs.o2v0 P) (.node (hs.o4v0 P) (.node (hs.o8v0 P) (.node (hs.o16v0 P) (.node (hs.o32v0 P) (.node (hs.o64v0 P) .nil .nil) (.node (hs.o96v0 P) .nil .nil)) (.node (hs.o48v0 P) (.node (hs.o80v0 P) .nil .nil) .nil)) (.node (hs.o24v0 P) (.node (hs.o40v0 P) (.node (hs.o72v0 P) .nil .nil) .nil) (.node (hs.o56v0 P) (.node (hs.o88v0 P) .nil .nil) .nil))) (.node (hs.o12v0 P) (.node (hs.o20v0 P) (.node (hs.o36v0 P) (.node (hs.o68v0 P) .nil .nil) .nil) (.node (hs.o52v0 P) (.node (hs.o84v0 P) .nil .nil) .nil)) (.node (hs.o28v0 P) (.node (hs.o44v0 P) (.node (hs.o76v0 P) .nil .nil) .nil) (.node (hs.o60v0 P) (.node (hs.o92v0 P) .nil .nil) .nil)))) (.node (hs.o6v0 P) (.node (hs.o10v0 P) (.node (hs.o18v0 P) (.node (hs.o34v0 P) (.node (hs.o66v0 P) .nil .nil) .nil) (.node (hs.o50v0 P) (.node (hs.o82v0 P) .nil .nil) .nil)) (.node (hs.o26v0 P) (.node (hs.o42v0 P) (.node (hs.o74v0 P) .nil .nil) .nil) (.node (hs.o58v0 P) (.node (hs.o90v0 P) .nil .nil) .nil))) (.node (hs.o14v0 P) (.node (hs.o22v0 P) (.node (hs.o38v0 P) (.node (hs.o70v0 P) .nil .nil) .nil) (.node (hs.o54v0 P) (.node (hs.o86v4 P) .nil .nil) .nil)) (.node (hs.o30v0 P) (.node (hs.o46v0 P) (.node (hs.o78v0 P) .nil .nil) .nil) (.node (hs.o62v0 P) (.node (hs.o94v3 P) .nil .nil) .nil))))))
noncomputable abbrev hs.s34 (w : World) (os : OsState) : SharedT := ⟨hs.t34 w.params, nat_lit 97, hs.life, ⟨[]⟩, ⟨nat_lit 0, nat_lit 0, nat_lit 0, nat_lit 0⟩, nat_lit 1657, os⟩
noncomputable def hs.o91v4 (_ : Params) : Obj := ⟨.type "list", none, .seq ⟨[.str hs.c58 (nat_lit 410), .str hs.c59 (nat_lit 414), .str hs.c60 (nat_lit 418), .str hs.c61 (nat_lit 422), .str hs.c62 (nat_lit 426), .str hs.c63 (nat_lit 430), .str hs.c64 (nat_lit 434), .str hs.c65 (nat_lit 438), .str hs.c66 (nat_lit 442), .str hs.c67 (nat_lit 446), .str hs.c68 (nat_lit 450), .str hs.c69 (nat_lit 454), .str hs.c70 (nat_lit 458), .str hs.c71 (nat_lit 462), .str hs.c72 (nat_lit 466), .str hs.c73 (nat_lit 470), .str hs.c74 (nat_lit 474), .str hs.c75 (nat_lit 478), .str hs.c76 (nat_lit 482), .str hs.c77 (nat_lit 486), .str hs.c78 (nat_lit 490), .str hs.c79 (nat_lit 494), .str hs.c80 (nat_lit 498), .str hs.c81 (nat_lit 502), .str hs.c82 (nat_lit 506), .str hs.c83 (nat_lit 510), .str hs.c84 (nat_lit 514), .str hs.c85 (nat_lit 518), .str hs.c86 (nat_lit 522), .str hs.c87 (nat_lit 526), .str hs.c88 (nat_lit 530), .str hs.c89 (nat_lit 534), .str ⟨⟨[nat_lit 95]⟩⟩ (nat_lit 1657), .str ⟨⟨[nat_lit 33]⟩⟩ (nat_lit 1461), .str hs.c92 (nat_lit 546), .str hs.c93 (nat_lit 550), .str hs.c94 (nat_lit 554), .str hs.c95 (nat_lit 558), .str hs.c96 (nat_lit 562), .str hs.c97 (nat_lit 566), .str hs.c98 (nat_lit 570), .str hs.c99 (nat_lit 574), .str ⟨⟨[nat_lit 42]⟩⟩ (nat_lit 1464), .str ⟨⟨[nat_lit 43]⟩⟩ (nat_lit 1467), .str hs.c102 (nat_lit 586), .str ⟨⟨[nat_lit 45]⟩⟩ (nat_lit 1458), .str hs.c104 (nat_lit 594), .str ⟨⟨[nat_lit 47]⟩⟩ (nat_lit 1470), .str ⟨⟨[nat_lit 48]⟩⟩ (nat_lit 1629), .str ⟨⟨[nat_lit 49]⟩⟩ (nat_lit 1632), .str ⟨⟨[nat_lit 50]⟩⟩ (nat_lit 1635), .str ⟨⟨[nat_lit 51]⟩⟩ (nat_lit 1638), .str ⟨⟨[nat_lit 52]⟩⟩ (nat_lit 1641), .str ⟨⟨[nat_lit 53]⟩⟩ (nat_lit 1644), .str ⟨⟨[nat_lit 54]⟩⟩ (nat_lit 1647), .str ⟨⟨[nat_lit 55]⟩⟩ (nat_lit 1650), .str ⟨⟨[nat_lit 56]⟩⟩ (nat_lit 1653), .str ⟨⟨[nat_lit 57]⟩⟩ (nat_lit 1656), .str hs.c116 (nat_lit 642), .str hs.c117 (nat_lit 646), .str hs.c118 (nat_lit 650), .str hs.c119 (nat_lit 654), .str hs.c120 (nat_lit 658), .str hs.c121 (nat_lit 662), .str hs.c122 (nat_lit 666), .str ⟨⟨[nat_lit 65]⟩⟩ (nat_lit 1551), .str ⟨⟨[nat_lit 66]⟩⟩ (nat_lit 1554), .str ⟨⟨[nat_lit 67]⟩⟩ (nat_lit 1557), .str ⟨⟨[nat_lit 68]⟩⟩ (nat_lit 1560), .str ⟨⟨[nat_lit 69]⟩⟩ (nat_lit 1563), .str ⟨⟨[nat_lit 70]⟩⟩ (nat_lit 1566), .str ⟨⟨[nat_lit 71]⟩⟩ (nat_lit 1569), .str ⟨⟨[nat_lit 72]⟩⟩ (nat_lit 1572), .str ⟨⟨[nat_lit 73]⟩⟩ (nat_lit 1575), .str ⟨⟨[nat_lit 74]⟩⟩ (nat_lit 1578), .str ⟨⟨[nat_lit 75]⟩⟩ (nat_lit 1581), .str ⟨⟨[nat_lit 76]⟩⟩ (nat_lit 1584), .str ⟨⟨[nat_lit 77]⟩⟩ (nat_lit 1587), .str ⟨⟨[nat_lit 78]⟩⟩ (nat_lit 1590), .str ⟨⟨[nat_lit 79]⟩⟩ (nat_lit 1593), .str ⟨⟨[nat_lit 80]⟩⟩ (nat_lit 1596), .str ⟨⟨[nat_lit 81]⟩⟩ (nat_lit 1599), .str ⟨⟨[nat_lit 82]⟩⟩ (nat_lit 1602), .str ⟨⟨[nat_lit 83]⟩⟩ (nat_lit 1605), .str ⟨⟨[nat_lit 84]⟩⟩ (nat_lit 1608), .str ⟨⟨[nat_lit 85]⟩⟩ (nat_lit 1611), .str ⟨⟨[nat_lit 86]⟩⟩ (nat_lit 1614), .str ⟨⟨[nat_lit 87]⟩⟩ (nat_lit 1617), .str ⟨⟨[nat_lit 88]⟩⟩ (nat_lit 1620), .str ⟨⟨[nat_lit 89]⟩⟩ (nat_lit 1623), .str ⟨⟨[nat_lit 90]⟩⟩ (nat_lit 1626), .str hs.c149 (nat_lit 774), .str hs.c150 (nat_lit 778), .str hs.c151 (nat_lit 782), .str hs.c152 (nat_lit 786), .str hs.c153 (nat_lit 790), .str hs.c154 (nat_lit 794), .str ⟨⟨[nat_lit 97]⟩⟩ (nat_lit 1473), .str ⟨⟨[nat_lit 98]⟩⟩ (nat_lit 1476), .str ⟨⟨[nat_lit 99]⟩⟩ (nat_lit 1479), .str ⟨⟨[nat_lit 100]⟩⟩ (nat_lit 1482), .str ⟨⟨[nat_lit 101]⟩⟩ (nat_lit 1485), .str ⟨⟨[nat_lit 102]⟩⟩ (nat_lit 1488), .str ⟨⟨[nat_lit 103]⟩⟩ (nat_lit 1491), .str ⟨⟨[nat_lit 104]⟩⟩ (nat_lit 1494), .str ⟨⟨[nat_lit 105]⟩⟩ (nat_lit 1497), .str ⟨⟨[nat_lit 106]⟩⟩ (nat_lit 1500), .str ⟨⟨[nat_lit 107]⟩⟩ (nat_lit 1503), .str ⟨⟨[nat_lit 108]⟩⟩ (nat_lit 1506), .str ⟨⟨[nat_lit 109]⟩⟩ (nat_lit 1509), .str ⟨⟨[nat_lit 110]⟩⟩ (nat_lit 1512), .str ⟨⟨[nat_lit 111]⟩⟩ (nat_lit 1515), .str ⟨⟨[nat_lit 112]⟩⟩ (nat_lit 1518), .str ⟨⟨[nat_lit 113]⟩⟩ (nat_lit 1521), .str ⟨⟨[nat_lit 114]⟩⟩ (nat_lit 1524), .str ⟨⟨[nat_lit 115]⟩⟩ (nat_lit 1527), .str ⟨⟨[nat_lit 116]⟩⟩ (nat_lit 1530), .str ⟨⟨[nat_lit 117]⟩⟩ (nat_lit 1533), .str ⟨⟨[nat_lit 118]⟩⟩ (nat_lit 1536), .str ⟨⟨[nat_lit 119]⟩⟩ (nat_lit 1539), .str ⟨⟨[nat_lit 120]⟩⟩ (nat_lit 1542), .str ⟨⟨[nat_lit 121]⟩⟩ (nat_lit 1545), .str ⟨⟨[nat_lit 122]⟩⟩ (nat_lit 1548), .str hs.c181 (nat_lit 902), .str hs.c182 (nat_lit 906), .str hs.c183 (nat_lit 910), .str hs.c184 (nat_lit 914), .str hs.c185 (nat_lit 918), .str hs.c186 (nat_lit 922), .str hs.c187 (nat_lit 926), .str hs.c188 (nat_lit 930), .str hs.c189 (nat_lit 934), .str hs.c190 (nat_lit 938), .str hs.c191 (nat_lit 942), .str hs.c192 (nat_lit 946), .str hs.c193 (nat_lit 950), .str hs.c194 (nat_lit 954), .str hs.c195 (nat_lit 958), .str hs.c196 (nat_lit 962), .str hs.c197 (nat_lit 966), .str hs.c198 (nat_lit 970), .str hs.c199 (nat_lit 974), .str hs.c200 (nat_lit 978), .str hs.c201 (nat_lit 982), .str hs.c202 (nat_lit 986), .str hs.c203 (nat_lit 990), .str hs.c204 (nat_lit 994), .str hs.c205 (nat_lit 998), .str hs.c206 (nat_lit 1002), .str hs.c207 (nat_lit 1006), .str hs.c208 (nat_lit 1010), .str hs.c209 (nat_lit 1014), .str hs.c210 (nat_lit 1018), .str hs.c211 (nat_lit 1022), .str hs.c212 (nat_lit 1026), .str hs.c213 (nat_lit 1030), .str hs.c214 (nat_lit 1034), .str hs.c215 (nat_lit 1038), .str hs.c216 (nat_lit 1042), .str hs.c217 (nat_lit 1046), .str hs.c218 (nat_lit 1050), .str hs.c219 (nat_lit 1054), .str hs.c220 (nat_lit 1058), .str hs.c221 (nat_lit 1062), .str hs.c222 (nat_lit 1066), .str hs.c223 (nat_lit 1070), .str hs.c224 (nat_lit 1074), .str hs.c225 (nat_lit 1078), .str hs.c226 (nat_lit 1082), .str hs.c227 (nat_lit 1086), .str hs.c228 (nat_lit 1090), .str hs.c229 (nat_lit 1094), .str hs.c230 (nat_lit 1098), .str hs.c231 (nat_lit 1102), .str hs.c232 (nat_lit 1106), .str hs.c233 (nat_lit 1110), .str hs.c234 (nat_lit 1114), .str hs.c235 (nat_lit 1118), .str hs.c236 (nat_lit 1122), .str hs.c237 (nat_lit 1126), .str hs.c238 (nat_lit 1130), .str hs.c239 (nat_lit 1134), .str hs.c240 (nat_lit 1138), .str hs.c241 (nat_lit 1142), .str hs.c242 (nat_lit 1146), .str hs.c243 (nat_lit 1150), .str hs.c244 (nat_lit 1154), .str hs.c245 (nat_lit 1158), .str hs.c246 (nat_lit 1162), .str hs.c247 (nat_lit 1166), .str hs.c248 (nat_lit 1170), .str hs.c249 (nat_lit 1174), .str hs.c250 (nat_lit 1178), .str hs.c251 (nat_lit 1182), .str hs.c252 (nat_lit 1186), .str hs.c253 (nat_lit 1190), .str hs.c254 (nat_lit 1194), .str hs.c255 (nat_lit 1198), .str hs.c256 (nat_lit 1202), .str hs.c257 (nat_lit 1206), .str hs.c258 (nat_lit 1210), .str hs.c259 (nat_lit 1214), .str hs.c260 (nat_lit 1218), .str hs.c261 (nat_lit 1222), .str hs.c262 (nat_lit 1226), .str hs.c263 (nat_lit 1230), .str hs.c264 (nat_lit 1234), .str hs.c265 (nat_lit 1238), .str hs.c266 (nat_lit 1242), .str hs.c267 (nat_lit 1246), .str hs.c268 (nat_lit 1250), .str hs.c269 (nat_lit 1254), .str hs.c270 (nat_lit 1258), .str hs.c271 (nat_lit 1262), .str hs.c272 (nat_lit 1266), .str hs.c273 (nat_lit 1270), .str hs.c274 (nat_lit 1274), .str hs.c275 (nat_lit 1278), .str hs.c276 (nat_lit 1282), .str hs.c277 (nat_lit 1286), .str hs.c278 (nat_lit 1290), .str hs.c279 (nat_lit 1294), .str hs.c280 (nat_lit 1298), .str hs.c281 (nat_lit 1302), .str hs.c282 (nat_lit 1306), .str hs.c283 (nat_lit 1310), .str hs.c284 (nat_lit 1314), .str hs.c285 (nat_lit 1318), .str hs.c286 (nat_lit 1322), .str hs.c287 (nat_lit 1326), .str hs.c288 (nat_lit 1330), .str hs.c289 (nat_lit 1334), .str hs.c290 (nat_lit 1338), .str hs.c291 (nat_lit 1342), .str hs.c292 (nat_lit 1346), .str hs.c293 (nat_lit 1350), .str hs.c294 (nat_lit 1354), .str hs.c295 (nat_lit 1358), .str hs.c296 (nat_lit 1362), .str hs.c297 (nat_lit 1366), .str hs.c298 (nat_lit 1370), .str hs.c299 (nat_lit 1374), .str hs.c300 (nat_lit 1378), .str hs.c301 (nat_lit 1382), .str hs.c302 (nat_lit 1386), .str hs.c303 (nat_lit 1390), .str hs.c304 (nat_lit 1394), .str hs.c305 (nat_lit 1398), .str hs.c306 (nat_lit 1402), .str hs.c307 (nat_lit 1406), .str hs.c308 (nat_lit 1410), .str hs.c309 (nat_lit 1414), .str hs.c310 (nat_lit 1418), .str hs.c311 (nat_lit 1422), .str hs.c312 (nat_lit 1426), .str hs.c313 (nat_lit 1430)]⟩ (nat_lit 0), ⟨[]⟩⟩
noncomputable def hs.t35 (P : Params) : BT := (.node (hs.o0v0 P) (.node (hs.o1v0 P) (.node (hs.o3v6 P) (.node (hs.o7v0 P) (.node (hs.o15v0 P) (.node (hs.o31v0 P) (.node (hs.o63v0 P) .nil .nil) (.node (hs.o95v0 P) .nil .nil)) (.node (hs.o47v0 P) (.node (hs.o79v0 P) .nil .nil) .nil)) (.node (hs.o23v0 P) (.node (hs.o39v0 P) (.node (hs.o71v0 P) .nil .nil) .nil) (.node (hs.o55v0 P) (.node (hs.o87v5 P) .nil .nil) .nil))) (.node (hs.o11v0 P) (.node (hs.o19v0 P) (.node (hs.o35v0 P) (.node (hs.o67v0 P) .nil .nil) .nil) (.node (hs.o51v0 P) (.node (hs.o83v0 P) .nil .nil) .nil)) (.node (hs.o27v0 P) (.node (hs.o43v0 P) (.node (hs.o75v0 P) .nil .nil) .nil) (.node (hs.o59v0 P) (.node (hs.o91v4 P) .nil .nil) .nil)))) (.node (hs.o5v0 P) (.node (hs.o9v0 P) (.node (hs.o17v0 P) (.node (hs.o33v0 P) (.node (hs.o65v0 P) .nil .nil) .nil) (.node (hs.o49v0 P) (.node (hs.o81v0 P) .nil .nil) .nil)) (.node (hs.o25v0 P) (.node (hs.o41v0 P) (.node (hs.o73v0 P) .nil .nil) .nil) (.node (hs.o57v0 P) (.node (hs.o89v0 P) .nil .nil) .nil))) (.node (hs.o13v0 P) (.node (hs.o21v0 P) (.node (hs.o37v0 P) (.node (hs.o69v0 P) .nil .nil) .nil) (.node (hs.o53v0 P) (.node (hs.o85v4 P) .nil .nil) .nil)) (.node (hs.o29v1 P) (.node (hs.o45v0 P) (.node (hs.o77v0 P) .nil .nil) .nil) (.node (hs.o61v0 P) (.node (hs.o93v0 P) .nil .nil) .nil))))) (.node (hs.o2v0 P) (.node (hs.o4v0 P) (.node (hs.o8v0 P) (.node (hs.o16v0 P) (.node (hs.o32v0 P) (.node (hs.o64v0 P) .nil .nil) (.node (hs.o96v0 P) .nil .nil)) (.node (hs.o48v0 P) (.node (hs.o80v0 P) .nil .nil) .nil)) (.node (hs.o24v0 P) (.node (hs.o40v0 P) (.node (hs.o72v0 P) .nil .nil) .nil) (.node (hs.o56v0 P) (.node (hs.o88v0 P) .nil .nil) .nil))) (.node (hs.o12v0 P) (.node (hs.o20v0 P) (.node (hs.o36v0 P) (.node (hs.o68v0 P) .nil .nil) .nil) (.node (hs.o52v0 P) (.node (hs.o84v0 P) .nil .nil) .nil)) (.node (hs.o28v0 P) (.node (hs.o44v0 P) (.node (hs.o76v0 P) .nil .nil) .nil) (.node (hs.o60v0 P) (.node (hs.o92v0 P) .nil .nil) .nil)))) (.node (hs.o6v0 P) (.node (hs.o10v0 P) (.node (hs.o18v0 P) (.node (hs.o34v0 P) (.node (hs.o66v0 P) .nil .nil) .nil) (.node (hs.o50v0 P) (.node (hs.o82v0 P) .nil .nil) .nil)) (.node (hs.o26v0 P) (.node (hs.o42v0 P) (.node (hs.o74v0 P) .nil .nil) .nil) (.node (hs.o58v0 P) (.node (hs.o90v0 P) .nil .nil) .nil))) (.node (hs.o14v0 P) (.node (hs.o22v0 P) (.node (hs.o38v0 P) (.node (hs.o70v0 P) .nil .nil) .nil) (.node (hs.o54v0 P) (.node (hs.o86v4 P) .nil .nil) .nil)) (.node (hs.o30v0 P) (.node (hs.o46v0 P) (.node (hs.o78v0 P) .nil .nil) .nil) (.node (hs.o62v0 P) (.node (hs.o94v3 P) .nil .nil) .nil))))))
noncomputable abbrev hs.s35 (w : World) (os : OsState) : SharedT := ⟨hs.t35 w.params, nat_lit 97, hs.life, ⟨[]⟩, ⟨nat_lit 0, nat_lit 0, nat_lit 0, nat_lit 0⟩, nat_lit 1660, os⟩
noncomputable def hs.o3v7 (P : Params) : Obj := ⟨.type "dict", none, .dict ⟨[de P hs.c0 (nat_lit 165) (.str hs.c315 (nat_lit 1447)), de P hs.c2 (nat_lit 166) (.none), de P hs.c3 (nat_lit 167) (.none), de P hs.c4 (nat_lit 168) (.builtin "__main__.__loader__#opaque"), de P hs.c5 (nat_lit 169) (.none), de P hs.c10 (nat_lit 170) (.ref (nat_lit 6)), de P hs.c11 (nat_lit 171) (.ref (nat_lit 4)), de P hs.c12 (nat_lit 173) (.str hs.c13 (nat_lit 172)), de P hs.c14 (nat_lit 174) (.none), de P hs.c9 (nat_lit 275) (.ref (nat_lit 12)), de P hs.c34 (nat_lit 290) (.ref (nat_lit 38)), de P hs.c35 (nat_lit 292) (.int (.ofNat (nat_lit 16384)) (nat_lit 291)), de P hs.c36 (nat_lit 294) (.int (.ofNat (nat_lit 8192)) (nat_lit 293)), de P hs.c37 (nat_lit 296) (.int (.ofNat (nat_lit 24576)) (nat_lit 295)), de P hs.c38 (nat_lit 298) (.int (.ofNat (nat_lit 32768)) (nat_lit 297)), de P hs.c39 (nat_lit 300) (.int (.ofNat (nat_lit 4096)) (nat_lit 299)), de P hs.c40 (nat_lit 302) (.int (.ofNat (nat_lit 40960)) (nat_lit 301)), de P hs.c41 (nat_lit 304) (.int (.ofNat (nat_lit 49152)) (nat_lit 303)), de P hs.c42 (nat_lit 306) (.int (.ofNat (nat_lit 2048)) (nat_lit 305)), de P hs.c43 (nat_lit 308) (.int (.ofNat (nat_lit 1024)) (nat_lit 307)), de P hs.c44 (nat_lit 310) (.int (.ofNat (nat_lit 512)) (nat_lit 309)), de P hs.c45 (nat_lit 312) (.int (.ofNat (nat_lit 256)) (nat_lit 311)), de P hs.c46 (nat_lit 314) (.int (.ofNat (nat_lit 128)) (nat_lit 313)), de P hs.c47 (nat_lit 316) (.int (.ofNat (nat_lit 64)) (nat_lit 315)), de P hs.c48 (nat_lit 318) (.int (.ofNat (nat_lit 32)) (nat_lit 317)), de P hs.c49 (nat_lit 320) (.int (.ofNat (nat_lit 16)) (nat_lit 319)), de P hs.c50 (nat_lit 322) (.int (.ofNat (nat_lit 8)) (nat_lit 321)), de P hs.c51 (nat_lit 324) (.int (.ofNat (nat_lit 4)) (nat_lit 323)), de P hs.c52 (nat_lit 326) (.int (.ofNat (nat_lit 2)) (nat_lit 325)), de P hs.c53 (nat_lit 328) (.int (.ofNat (nat_lit 1)) (nat_lit 327)), de P hs.c54 (nat_lit 354) (.ref (nat_lit 71)), de P hs.c55 (nat_lit 366) (.ref (nat_lit 78)), de P hs.c56 (nat_lit 401) (.ref (nat_lit 83)), de P ⟨⟨[nat_lit 78, nat_lit 76]⟩⟩ (nat_lit 403) (.str ⟨⟨[nat_lit 10]⟩⟩ (nat_lit 402)), de P hs.c314 (nat_lit 1431) (.ref (nat_lit 86)), de P hs.c316 (nat_lit 1432) (.ref (nat_lit 91)), de P hs.c317 (nat_lit 1433) (.ref (nat_lit 93)), de P hs.c318 (nat_lit 1435) (.str hs.c319 (nat_lit 1434)), de P hs.c320 (nat_lit 1437) (.str hs.c321 (nat_lit 1436)), de P hs.c322 (nat_lit 1439) (.str hs.c323 (nat_lit 1438)), de P hs.c324 (nat_lit 1441) (.str hs.c325 (nat_lit 1440)), de P hs.c326 (nat_lit 1446) (.str hs.c327 (nat_lit 1445)), de P ⟨⟨[nat_lit 99]⟩⟩ (nat_lit 1457) (.int (.ofNat (nat_lit 32)) (nat_lit 1661))]⟩ (nat_lit 43), ⟨[]⟩⟩
noncomputable def hs.o93v1 (_ : Params) : Obj := ⟨.type "list", none, .seq ⟨[.str hs.c58 (nat_lit 410), .str hs.c59 (nat_lit 414), .str hs.c60 (nat_lit 418), .str hs.c61 (nat_lit 422), .str hs.c62 (nat_lit 426), .str hs.c63 (nat_lit 430), .str hs.c64 (nat_lit 434), .str hs.c65 (nat_lit 438), .str hs.c66 (nat_lit 442), .str hs.c67 (nat_lit 446), .str hs.c68 (nat_lit 450), .str hs.c69 (nat_lit 454), .str hs.c70 (nat_lit 458), .str hs.c71 (nat_lit 462), .str hs.c72 (nat_lit 466), .str hs.c73 (nat_lit 470), .str hs.c74 (nat_lit 474), .str hs.c75 (nat_lit 478), .str hs.c76 (nat_lit 482), .str hs.c77 (nat_lit 486), .str hs.c78 (nat_lit 490), .str hs.c79 (nat_lit 494), .str hs.c80 (nat_lit 498), .str hs.c81 (nat_lit 502), .str hs.c82 (nat_lit 506), .str hs.c83 (nat_lit 510), .str hs.c84 (nat_lit 514), .str hs.c85 (nat_lit 518), .str hs.c86 (nat_lit 522), .str hs.c87 (nat_lit 526), .str hs.c88 (nat_lit 530), .str hs.c89 (nat_lit 534), .str ⟨⟨[nat_lit 32]⟩⟩ (nat_lit 1663), .str hs.c91 (nat_lit 542), .str hs.c92 (nat_lit 546), .str hs.c93 (nat_lit 550), .str hs.c94 (nat_lit 554), .str hs.c95 (nat_lit 558), .str hs.c96 (nat_lit 562), .str hs.c97 (nat_lit 566), .str hs.c98 (nat_lit 570), .str hs.c99 (nat_lit 574), .str hs.c100 (nat_lit 578), .str hs.c101 (nat_lit 582), .str hs.c102 (nat_lit 586), .str hs.c103 (nat_lit 590), .str hs.c104 (nat_lit 594), .str hs.c105 (nat_lit 598), .str hs.c106 (nat_lit 602), .str hs.c107 (nat_lit 606), .str hs.c108 (nat_lit 610), .str hs.c109 (nat_lit 614), .str hs.c110 (nat_lit 618), .str hs.c111 (nat_lit 622), .str hs.c112 (nat_lit 626), .str hs.c113 (nat_lit 630), .str hs.c114 (nat_lit 634), .str hs.c115 (nat_lit 638), .str hs.c116 (nat_lit 642), .str hs.c117 (nat_lit 646), .str hs.c118 (nat_lit 650), .str hs.c119 (nat_lit 654), .str hs.c120 (nat_lit 658), .str hs.c121 (nat_lit 662), .str hs.c122 (nat_lit 666), .str hs.c123 (nat_lit 670), .str hs.c124 (nat_lit 674), .str hs.c125 (nat_lit 678), .str hs.c126 (nat_lit 682), .str hs.c127 (nat_lit 686), .str hs.c128 (nat_lit 690), .str hs.c129 (nat_lit 694), .str hs.c130 (nat_lit 698), .str hs.c131 (nat_lit 702), .str hs.c132 (nat_lit 706), .str hs.c133 (nat_lit 710), .str hs.c134 (nat_lit 714), .str hs.c135 (nat_lit 718), .str hs.c136 (nat_lit 722), .str hs.c137 (nat_lit 726), .str hs.c138 (nat_lit 730), .str hs.c139 (nat_lit 734), .str hs.c140 (nat_lit 738), .str hs.c141 (nat_lit 742), .str hs.c142 (nat_lit 746), .str hs.c143 (nat_lit 750), .str hs.c144 (nat_lit 754), .str hs.c145 (nat_lit 758), .str hs.c146 (nat_lit 762), .str hs.c147 (nat_lit 766), .str hs.c148 (nat_lit 770), .str hs.c149 (nat_lit 774), .str hs.c150 (nat_lit 778), .str hs.c151 (nat_lit 782), .str hs.c152 (nat_lit 786), .str hs.c153 (nat_lit 790), .str hs.c154 (nat_lit 794), .str hs.c155 (nat_lit 798), .str hs.c156 (nat_lit 802), .str hs.c157 (nat_lit 806), .str hs.c158 (nat_lit 810), .str hs.c159 (nat_lit 814), .str hs.c160 (nat_lit 818), .str hs.c161 (nat_lit 822), .str hs.c162 (nat_lit 826), .str hs.c163 (nat_lit 830), .str hs.c164 (nat_lit 834), .str hs.c165 (nat_lit 838), .str hs.c166 (nat_lit 842), .str hs.c167 (nat_lit 846), .str hs.c168 (nat_lit 850), .str hs.c169 (nat_lit 854), .str hs.c170 (nat_lit 858), .str hs.c171 (nat_lit 862), .str hs.c172 (nat_lit 866), .str hs.c173 (nat_lit 870), .str hs.c174 (nat_lit 874), .str hs.c175 (nat_lit 878), .str hs.c176 (nat_lit 882), .str hs.c177 (nat_lit 886), .str hs.c178 (nat_lit 890), .str hs.c179 (nat_lit 894), .str hs.c180 (nat_lit 898), .str hs.c181 (nat_lit 902), .str hs.c182 (nat_lit 906), .str hs.c183 (nat_lit 910), .str hs.c184 (nat_lit 914), .str hs.c185 (nat_lit 918), .str hs.c186 (nat_lit 922), .str hs.c187 (nat_lit 926), .str hs.c188 (nat_lit 930), .str hs.c189 (nat_lit 934), .str hs.c190 (nat_lit 938), .str hs.c191 (nat_lit 942), .str hs.c192 (nat_lit 946), .str hs.c193 (nat_lit 950), .str hs.c194 (nat_lit 954), .str hs.c195 (nat_lit 958), .str hs.c196 (nat_lit 962), .str hs.c197 (nat_lit 966), .str hs.c198 (nat_lit 970), .str hs.c199 (nat_lit 974), .str hs.c200 (nat_lit 978), .str hs.c201 (nat_lit 982), .str hs.c202 (nat_lit 986), .str hs.c203 (nat_lit 990), .str hs.c204 (nat_lit 994), .str hs.c205 (nat_lit 998), .str hs.c206 (nat_lit 1002), .str hs.c207 (nat_lit 1006), .str hs.c208 (nat_lit 1010), .str hs.c209 (nat_lit 1014), .str hs.c210 (nat_lit 1018), .str hs.c211 (nat_lit 1022), .str hs.c212 (nat_lit 1026), .str hs.c213 (nat_lit 1030), .str hs.c214 (nat_lit 1034), .str hs.c215 (nat_lit 1038), .str hs.c216 (nat_lit 1042), .str hs.c217 (nat_lit 1046), .str hs.c218 (nat_lit 1050), .str hs.c219 (nat_lit 1054), .str hs.c220 (nat_lit 1058), .str hs.c221 (nat_lit 1062), .str hs.c222 (nat_lit 1066), .str hs.c223 (nat_lit 1070), .str hs.c224 (nat_lit 1074), .str hs.c225 (nat_lit 1078), .str hs.c226 (nat_lit 1082), .str hs.c227 (nat_lit 1086), .str hs.c228 (nat_lit 1090), .str hs.c229 (nat_lit 1094), .str hs.c230 (nat_lit 1098), .str hs.c231 (nat_lit 1102), .str hs.c232 (nat_lit 1106), .str hs.c233 (nat_lit 1110), .str hs.c234 (nat_lit 1114), .str hs.c235 (nat_lit 1118), .str hs.c236 (nat_lit 1122), .str hs.c237 (nat_lit 1126), .str hs.c238 (nat_lit 1130), .str hs.c239 (nat_lit 1134), .str hs.c240 (nat_lit 1138), .str hs.c241 (nat_lit 1142), .str hs.c242 (nat_lit 1146), .str hs.c243 (nat_lit 1150), .str hs.c244 (nat_lit 1154), .str hs.c245 (nat_lit 1158), .str hs.c246 (nat_lit 1162), .str hs.c247 (nat_lit 1166), .str hs.c248 (nat_lit 1170), .str hs.c249 (nat_lit 1174), .str hs.c250 (nat_lit 1178), .str hs.c251 (nat_lit 1182), .str hs.c252 (nat_lit 1186), .str hs.c253 (nat_lit 1190), .str hs.c254 (nat_lit 1194), .str hs.c255 (nat_lit 1198), .str hs.c256 (nat_lit 1202), .str hs.c257 (nat_lit 1206), .str hs.c258 (nat_lit 1210), .str hs.c259 (nat_lit 1214), .str hs.c260 (nat_lit 1218), .str hs.c261 (nat_lit 1222), .str hs.c262 (nat_lit 1226), .str hs.c263 (nat_lit 1230), .str hs.c264 (nat_lit 1234), .str hs.c265 (nat_lit 1238), .str hs.c266 (nat_lit 1242), .str hs.c267 (nat_lit 1246), .str hs.c268 (nat_lit 1250), .str hs.c269 (nat_lit 1254), .str hs.c270 (nat_lit 1258), .str hs.c271 (nat_lit 1262), .str hs.c272 (nat_lit 1266), .str hs.c273 (nat_lit 1270), .str hs.c274 (nat_lit 1274), .str hs.c275 (nat_lit 1278), .str hs.c276 (nat_lit 1282), .str hs.c277 (nat_lit 1286), .str hs.c278 (nat_lit 1290), .str hs.c279 (nat_lit 1294), .str hs.c280 (nat_lit 1298), .str hs.c281 (nat_lit 1302), .str hs.c282 (nat_lit 1306), .str hs.c283 (nat_lit 1310), .str hs.c284 (nat_lit 1314), .str hs.c285 (nat_lit 1318), .str hs.c286 (nat_lit 1322), .str hs.c287 (nat_lit 1326), .str hs.c288 (nat_lit 1330), .str hs.c289 (nat_lit 1334), .str hs.c290 (nat_lit 1338), .str hs.c291 (nat_lit 1342), .str hs.c292 (nat_lit 1346), .str hs.c293 (nat_lit 1350), .str hs.c294 (nat_lit 1354), .str hs.c295 (nat_lit 1358), .str hs.c296 (nat_lit 1362), .str hs.c297 (nat_lit 1366), .str hs.c298 (nat_lit 1370), .str hs.c299 (nat_lit 1374), .str hs.c300 (nat_lit 1378), .str hs.c301 (nat_lit 1382), .str hs.c302 (nat_lit 1386), .str hs.c303 (nat_lit 1390), .str hs.c304 (nat_lit 1394), .str hs.c305 (nat_lit 1398), .str hs.c306 (nat_lit 1402), .str hs.c307 (nat_lit 1406), .str hs.c308 (nat_lit 1410), .str hs.c309 (nat_lit 1414), .str hs.c310 (nat_lit 1418), .str hs.c311 (nat_lit 1422), .str hs.c312 (nat_lit 1426), .str hs.c313 (nat_lit 1430)]⟩ (nat_lit 0), ⟨[]⟩⟩
noncomputable def hs.o97v0 (_ : Params) : Obj := ⟨.type "bytes_iterator", none, .fields ⟨[.bytes ⟨[UInt8.ofNat (nat_lit 32), UInt8.ofNat (nat_lit 33), UInt8.ofNat (nat_lit 34), UInt8.ofNat (nat_lit 35), UInt8.ofNat (nat_lit 36), UInt8.ofNat (nat_lit 37), UInt8.ofNat (nat_lit 38), UInt8.ofNat (nat_lit 39), UInt8.ofNat (nat_lit 40), UInt8.ofNat (nat_lit 41), UInt8.ofNat (nat_lit 42), UInt8.ofNat (nat_lit 43), UInt8.ofNat (nat_lit 44), UInt8.ofNat (nat_lit 45), UInt8.ofNat (nat_lit 46), UInt8.ofNat (nat_lit 47), UInt8.ofNat (nat_lit 48), UInt8.ofNat (nat_lit 49), UInt8.ofNat (nat_lit 50), UInt8.ofNat (nat_lit 51), UInt8.ofNat (nat_lit 52), UInt8.ofNat (nat_lit 53), UInt8.ofNat (nat_lit 54), UInt8.ofNat (nat_lit 55), UInt8.ofNat (nat_lit 56), UInt8.ofNat (nat_lit 57), UInt8.ofNat (nat_lit 58), UInt8.ofNat (nat_lit 59), UInt8.ofNat (nat_lit 60), UInt8.ofNat (nat_lit 62), UInt8.ofNat (nat_lit 63), UInt8.ofNat (nat_lit 64), UInt8.ofNat (nat_lit 65), UInt8.ofNat (nat_lit 66), UInt8.ofNat (nat_lit 67), UInt8.ofNat (nat_lit 68), UInt8.ofNat (nat_lit 69), UInt8.ofNat (nat_lit 70), UInt8.ofNat (nat_lit 71), UInt8.ofNat (nat_lit 72), UInt8.ofNat (nat_lit 73), UInt8.ofNat (nat_lit 74), UInt8.ofNat (nat_lit 75), UInt8.ofNat (nat_lit 76), UInt8.ofNat (nat_lit 77), UInt8.ofNat (nat_lit 78), UInt8.ofNat (nat_lit 79), UInt8.ofNat (nat_lit 80), UInt8.ofNat (nat_lit 81), UInt8.ofNat (nat_lit 82), UInt8.ofNat (nat_lit 83), UInt8.ofNat (nat_lit 84), UInt8.ofNat (nat_lit 85), UInt8.ofNat (nat_lit 86), UInt8.ofNat (nat_lit 87), UInt8.ofNat (nat_lit 88), UInt8.ofNat (nat_lit 89), UInt8.ofNat (nat_lit 90), UInt8.ofNat (nat_lit 91), UInt8.ofNat (nat_lit 92), UInt8.ofNat (nat_lit 93), UInt8.ofNat (nat_lit 94), UInt8.ofNat (nat_lit 95), UInt8.ofNat (nat_lit 96), UInt8.ofNat (nat_lit 97), UInt8.ofNat (nat_lit 98), UInt8.ofNat (nat_lit 99), UInt8.ofNat (nat_lit 100), UInt8.ofNat (nat_lit 101), UInt8.ofNat (nat_lit 102), UInt8.ofNat (nat_lit 103), UInt8.ofNat (nat_lit 104), UInt8.ofNat (nat_lit 105), UInt8.ofNat (nat_lit 106), UInt8.ofNat (nat_lit 107), UInt8.ofNat (nat_lit 108), UInt8.ofNat (nat_lit 109), UInt8.ofNat (nat_lit 110), UInt8.ofNat (nat_lit 111), UInt8.ofNat (nat_lit 112), UInt8.ofNat (nat_lit 113), UInt8.ofNat (nat_lit 114), UInt8.ofNat (nat_lit 115), UInt8.ofNat (nat_lit 116), UInt8.ofNat (nat_lit 117), UInt8.ofNat (nat_lit 118), UInt8.ofNat (nat_lit 119), UInt8.ofNat (nat_lit 120), UInt8.ofNat (nat_lit 121), UInt8.ofNat (nat_lit 122), UInt8.ofNat (nat_lit 123), UInt8.ofNat (nat_lit 124), UInt8.ofNat (nat_lit 125), UInt8.ofNat (nat_lit 126), UInt8.ofNat (nat_lit 9)]⟩ (nat_lit 1660), .int (.ofNat (nat_lit 1)) (nat_lit 0)]⟩, ⟨[]⟩⟩
noncomputable def hs.tD1 (P : Params) : BT := (.node (hs.o0v0 P) (.node (hs.o1v0 P) (.node (hs.o3v7 P) (.node (hs.o7v0 P) (.node (hs.o15v0 P) (.node (hs.o31v0 P) (.node (hs.o63v0 P) .nil .nil) (.node (hs.o95v0 P) .nil .nil)) (.node (hs.o47v0 P) (.node (hs.o79v0 P) .nil .nil) .nil)) (.node (hs.o23v0 P) (.node (hs.o39v0 P) (.node (hs.o71v0 P) .nil .nil) .nil) (.node (hs.o55v0 P) (.node (hs.o87v5 P) .nil .nil) .nil))) (.node (hs.o11v0 P) (.node (hs.o19v0 P) (.node (hs.o35v0 P) (.node (hs.o67v0 P) .nil .nil) .nil) (.node (hs.o51v0 P) (.node (hs.o83v0 P) .nil .nil) .nil)) (.node (hs.o27v0 P) (.node (hs.o43v0 P) (.node (hs.o75v0 P) .nil .nil) .nil) (.node (hs.o59v0 P) (.node (hs.o91v4 P) .nil .nil) .nil)))) (.node (hs.o5v0 P) (.node (hs.o9v0 P) (.node (hs.o17v0 P) (.node (hs.o33v0 P) (.node (hs.o65v0 P) .nil .nil) (.node (hs.o97v0 P) .nil .nil)) (.node (hs.o49v0 P) (.node (hs.o81v0 P) .nil .nil) .nil)) (.node (hs.o25v0 P) (.node (hs.o41v0 P) (.node (hs.o73v0 P) .nil .nil) .nil) (.node (hs.o57v0 P) (.node (hs.o89v0 P) .nil .nil) .nil))) (.node (hs.o13v0 P) (.node (hs.o21v0 P) (.node (hs.o37v0 P) (.node (hs.o69v0 P) .nil .nil) .nil) (.node (hs.o53v0 P) (.node (hs.o85v4 P) .nil .nil) .nil)) (.node (hs.o29v1 P) (.node (hs.o45v0 P) (.node (hs.o77v0 P) .nil .nil) .nil) (.node (hs.o61v0 P) (.node (hs.o93v1 P) .nil .nil) .nil))))) (.node (hs.o2v0 P) (.node (hs.o4v0 P) (.node (hs.o8v0 P) (.node (hs.o16v0 P) (.node (hs.o32v0 P) (.node (hs.o64v0 P) .nil .nil) (.node (hs.o96v0 P) .nil .nil)) (.node (hs.o48v0 P) (.node (hs.o80v0 P) .nil .nil) .nil)) (.node (hs.o24v0 P) (.node (hs.o40v0 P) (.node (hs.o72v0 P) .nil .nil) .nil) (.node (hs.o56v0 P) (.node (hs.o88v0 P) .nil .nil) .nil))) (.node (hs.o12v0 P) (.node (hs.o20v0 P) (.node (hs.o36v0 P) (.node (hs.o68v0 P) .nil .nil) .nil) (.node (hs.o52v0 P) (.node (hs.o84v0 P) .nil .nil) .nil)) (.node (hs.o28v0 P) (.node (hs.o44v0 P) (.node (hs.o76v0 P) .nil .nil) .nil) (.node (hs.o60v0 P) (.node (hs.o92v0 P) .nil .nil) .nil)))) (.node (hs.o6v0 P) (.node (hs.o10v0 P) (.node (hs.o18v0 P) (.node (hs.o34v0 P) (.node (hs.o66v0 P) .nil .nil) .nil) (.node (hs.o50v0 P) (.node (hs.o82v0 P) .nil .nil) .nil)) (.node (hs.o26v0 P) (.node (hs.o42v0 P) (.node (hs.o74v0 P) .nil .nil) .nil) (.node (hs.o58v0 P) (.node (hs.o90v0 P) .nil .nil) .nil))) (.node (hs.o14v0 P) (.node (hs.o22v0 P) (.node (hs.o38v0 P) (.node (hs.o70v0 P) .nil .nil) .nil) (.node (hs.o54v0 P) (.node (hs.o86v4 P) .nil .nil) .nil)) (.node (hs.o30v0 P) (.node (hs.o46v0 P) (.node (hs.o78v0 P) .nil .nil) .nil) (.node (hs.o62v0 P) (.node (hs.o94v3 P) .nil .nil) .nil))))))
noncomputable abbrev hs.sD1 (w : World) (os : OsState) : SharedT := ⟨hs.tD1 w.params, nat_lit 98, hs.life, ⟨[]⟩, ⟨nat_lit 0, nat_lit 0, nat_lit 0, nat_lit 0⟩, nat_lit 1664, os⟩
noncomputable def hs.o3v8 (P : Params) : Obj := ⟨.type "dict", none, .dict ⟨[de P hs.c0 (nat_lit 165) (.str hs.c315 (nat_lit 1447)), de P hs.c2 (nat_lit 166) (.none), de P hs.c3 (nat_lit 167) (.none), de P hs.c4 (nat_lit 168) (.builtin "__main__.__loader__#opaque"), de P hs.c5 (nat_lit 169) (.none), de P hs.c10 (nat_lit 170) (.ref (nat_lit 6)), de P hs.c11 (nat_lit 171) (.ref (nat_lit 4)), de P hs.c12 (nat_lit 173) (.str hs.c13 (nat_lit 172)), de P hs.c14 (nat_lit 174) (.none), de P hs.c9 (nat_lit 275) (.ref (nat_lit 12)), de P hs.c34 (nat_lit 290) (.ref (nat_lit 38)), de P hs.c35 (nat_lit 292) (.int (.ofNat (nat_lit 16384)) (nat_lit 291)), de P hs.c36 (nat_lit 294) (.int (.ofNat (nat_lit 8192)) (nat_lit 293)), de P hs.c37 (nat_lit 296) (.int (.ofNat (nat_lit 24576)) (nat_lit 295)), de P hs.c38 (nat_lit 298) (.int (.ofNat (nat_lit 32768)) (nat_lit 297)), de P hs.c39 (nat_lit 300) (.int (.ofNat (nat_lit 4096)) (nat_lit 299)), de P hs.c40 (nat_lit 302) (.int (.ofNat (nat_lit 40960)) (nat_lit 301)), de P hs.c41 (nat_lit 304) (.int (.ofNat (nat_lit 49152)) (nat_lit 303)), de P hs.c42 (nat_lit 306) (.int (.ofNat (nat_lit 2048)) (nat_lit 305)), de P hs.c43 (nat_lit 308) (.int (.ofNat (nat_lit 1024)) (nat_lit 307)), de P hs.c44 (nat_lit 310) (.int (.ofNat (nat_lit 512)) (nat_lit 309)), de P hs.c45 (nat_lit 312) (.int (.ofNat (nat_lit 256)) (nat_lit 311)), de P hs.c46 (nat_lit 314) (.int (.ofNat (nat_lit 128)) (nat_lit 313)), de P hs.c47 (nat_lit 316) (.int (.ofNat (nat_lit 64)) (nat_lit 315)), de P hs.c48 (nat_lit 318) (.int (.ofNat (nat_lit 32)) (nat_lit 317)), de P hs.c49 (nat_lit 320) (.int (.ofNat (nat_lit 16)) (nat_lit 319)), de P hs.c50 (nat_lit 322) (.int (.ofNat (nat_lit 8)) (nat_lit 321)), de P hs.c51 (nat_lit 324) (.int (.ofNat (nat_lit 4)) (nat_lit 323)), de P hs.c52 (nat_lit 326) (.int (.ofNat (nat_lit 2)) (nat_lit 325)), de P hs.c53 (nat_lit 328) (.int (.ofNat (nat_lit 1)) (nat_lit 327)), de P hs.c54 (nat_lit 354) (.ref (nat_lit 71)), de P hs.c55 (nat_lit 366) (.ref (nat_lit 78)), de P hs.c56 (nat_lit 401) (.ref (nat_lit 83)), de P ⟨⟨[nat_lit 78, nat_lit 76]⟩⟩ (nat_lit 403) (.str ⟨⟨[nat_lit 10]⟩⟩ (nat_lit 402)), de P hs.c314 (nat_lit 1431) (.ref (nat_lit 86)), de P hs.c316 (nat_lit 1432) (.ref (nat_lit 91)), de P hs.c317 (nat_lit 1433) (.ref (nat_lit 93)), de P hs.c318 (nat_lit 1435) (.str hs.c319 (nat_lit 1434)), de P hs.c320 (nat_lit 1437) (.str hs.c321 (nat_lit 1436)), de P hs.c322 (nat_lit 1439) (.str hs.c323 (nat_lit 1438)), de P hs.c324 (nat_lit 1441) (.str hs.c325 (nat_lit 1440)), de P hs.c326 (nat_lit 1446) (.str hs.c327 (nat_lit 1445)), de P ⟨⟨[nat_lit 99]⟩⟩ (nat_lit 1457) (.int (.ofNat (nat_lit 65)) (nat_lit 1757))]⟩ (nat_lit 43), ⟨[]⟩⟩
noncomputable def hs.o93v2 (_ : Params) : Obj := ⟨.type "list", none, .seq ⟨[.str hs.c58 (nat_lit 410), .str hs.c59 (nat_lit 414), .str hs.c60 (nat_lit 418), .str hs.c61 (nat_lit 422), .str hs.c62 (nat_lit 426), .str hs.c63 (nat_lit 430), .str hs.c64 (nat_lit 434), .str hs.c65 (nat_lit 438), .str hs.c66 (nat_lit 442), .str hs.c67 (nat_lit 446), .str hs.c68 (nat_lit 450), .str hs.c69 (nat_lit 454), .str hs.c70 (nat_lit 458), .str hs.c71 (nat_lit 462), .str hs.c72 (nat_lit 466), .str hs.c73 (nat_lit 470), .str hs.c74 (nat_lit 474), .str hs.c75 (nat_lit 478), .str hs.c76 (nat_lit 482), .str hs.c77 (nat_lit 486), .str hs.c78 (nat_lit 490), .str hs.c79 (nat_lit 494), .str hs.c80 (nat_lit 498), .str hs.c81 (nat_lit 502), .str hs.c82 (nat_lit 506), .str hs.c83 (nat_lit 510), .str hs.c84 (nat_lit 514), .str hs.c85 (nat_lit 518), .str hs.c86 (nat_lit 522), .str hs.c87 (nat_lit 526), .str hs.c88 (nat_lit 530), .str hs.c89 (nat_lit 534), .str ⟨⟨[nat_lit 32]⟩⟩ (nat_lit 1663), .str ⟨⟨[nat_lit 33]⟩⟩ (nat_lit 1666), .str ⟨⟨[nat_lit 34]⟩⟩ (nat_lit 1669), .str ⟨⟨[nat_lit 35]⟩⟩ (nat_lit 1672), .str ⟨⟨[nat_lit 36]⟩⟩ (nat_lit 1675), .str ⟨⟨[nat_lit 37]⟩⟩ (nat_lit 1678), .str ⟨⟨[nat_lit 38]⟩⟩ (nat_lit 1681), .str ⟨⟨[nat_lit 39]⟩⟩ (nat_lit 1684), .str ⟨⟨[nat_lit 40]⟩⟩ (nat_lit 1687), .str ⟨⟨[nat_lit 41]⟩⟩ (nat_lit 1690), .str ⟨⟨[nat_lit 42]⟩⟩ (nat_lit 1693), .str ⟨⟨[nat_lit 43]⟩⟩ (nat_lit 1696), .str ⟨⟨[nat_lit 44]⟩⟩ (nat_lit 1699), .str ⟨⟨[nat_lit 45]⟩⟩ (nat_lit 1702), .str ⟨⟨[nat_lit 46]⟩⟩ (nat_lit 1705), .str ⟨⟨[nat_lit 47]⟩⟩ (nat_lit 1708), .str ⟨⟨[nat_lit 48]⟩⟩ (nat_lit 1711), .str ⟨⟨[nat_lit 49]⟩⟩ (nat_lit 1714), .str ⟨⟨[nat_lit 50]⟩⟩ (nat_lit 1717), .str ⟨⟨[nat_lit 51]⟩⟩ (nat_lit 1720), .str ⟨⟨[nat_lit 52]⟩⟩ (nat_lit 1723), .str ⟨⟨[nat_lit 53]⟩⟩ (nat_lit 1726), .str ⟨⟨[nat_lit 54]⟩⟩ (nat_lit 1729), .str ⟨⟨[nat_lit 55]⟩⟩ (nat_lit 1732), .str ⟨⟨[nat_lit 56]⟩⟩ (nat_lit 1735), .str ⟨⟨[nat_lit 57]⟩⟩ (nat_lit 1738), .str ⟨⟨[nat_lit 58]⟩⟩ (nat_lit 1741), .str ⟨⟨[nat_lit 59]⟩⟩ (nat_lit 1744), .str ⟨⟨[nat_lit 60]⟩⟩ (nat_lit 1747), .str hs.c119 (nat_lit 654), .str ⟨⟨[nat_lit 62]⟩⟩ (nat_lit 1750), .str ⟨⟨[nat_lit 63]⟩⟩ (nat_lit 1753), .str ⟨⟨[nat_lit 64]⟩⟩ (nat_lit 1756), .str ⟨⟨[nat_lit 65]⟩⟩ (nat_lit 1759), .str hs.c124 (nat_lit 674), .str hs.c125 (nat_lit 678), .str hs.c126 (nat_lit 682), .str hs.c127 (nat_lit 686), .str hs.c128 (nat_lit 690), .str hs.c129 (nat_lit 694), .str hs.c130 (nat_lit 698), .str hs.c131 (nat_lit 702), .str hs.c132 (nat_lit 706), .str hs.c133 (nat_lit 710), .str hs.c134 (nat_lit 714), .str hs.c135 (nat_lit 718), .str hs.c136 (nat_lit 722), .str hs.c137 (nat_lit 726), .str hs.c138 (nat_lit 730), .str hs.c139 (nat_lit 734), .str hs.c140 (nat_lit 738), .str hs.c141 (nat_lit 742), .str hs.c142 (nat_lit 746), .str hs.c143 (nat_lit 750), .str hs.c144 (nat_lit 754), .str hs.c145 (nat_lit 758), .str hs.c146 (nat_lit 762), .str hs.c147 (nat_lit 766), .str hs.c148 (nat_lit 770), .str hs.c149 (nat_lit 774), .str hs.c150 (nat_lit 778), .str hs.c151 (nat_lit 782), .str hs.c152 (nat_lit 786), .str hs.c153 (nat_lit 790), .str hs.c154 (nat_lit 794), .str hs.c155 (nat_lit 798), .str hs.c156 (nat_lit 802), .str hs.c157 (nat_lit 806), .str hs.c158 (nat_lit 810), .str hs.c159 (nat_lit 814), .str hs.c160 (nat_lit 818), .str hs.c161 (nat_lit 822), .str hs.c162 (nat_lit 826), .str hs.c163 (nat_lit 830), .str hs.c164 (nat_lit 834), .str hs.c165 (nat_lit 838), .str hs.c166 (nat_lit 842), .str hs.c167 (nat_lit 846), .str hs.c168 (nat_lit 850), .str hs.c169 (nat_lit 854), .str hs.c170 (nat_lit 858), .str hs.c171 (nat_lit 862), .str hs.c172 (nat_lit 866), .str hs.c173 (nat_lit 870), .str hs.c174 (nat_lit 874), .str hs.c175 (nat_lit 878), .str hs.c176 (nat_lit 882), .str hs.c177 (nat_lit 886), .str hs.c178 (nat_lit 890), .str hs.c179 (nat_lit 894), .str hs.c180 (nat_lit 898), .str hs.c181 (nat_lit 902), .str hs.c182 (nat_lit 906), .str hs.c183 (nat_lit 910), .str hs.c184 (nat_lit 914), .str hs.c185 (nat_lit 918), .str hs.c186 (nat_lit 922), .str hs.c187 (nat_lit 926), .str hs.c188 (nat_lit 930), .str hs.c189 (nat_lit 934), .str hs.c190 (nat_lit 938), .str hs.c191 (nat_lit 942), .str hs.c192 (nat_lit 946), .str hs.c193 (nat_lit 950), .str hs.c194 (nat_lit 954), .str hs.c195 (nat_lit 958), .str hs.c196 (nat_lit 962), .str hs.c197 (nat_lit 966), .str hs.c198 (nat_lit 970), .str hs.c199 (nat_lit 974), .str hs.c200 (nat_lit 978), .str hs.c201 (nat_lit 982), .str hs.c202 (nat_lit 986), .str hs.c203 (nat_lit 990), .str hs.c204 (nat_lit 994), .str hs.c205 (nat_lit 998), .str hs.c206 (nat_lit 1002), .str hs.c207 (nat_lit 1006), .str hs.c208 (nat_lit 1010), .str hs.c209 (nat_lit 1014), .str hs.c210 (nat_lit 1018), .str hs.c211 (nat_lit 1022), .str hs.c212 (nat_lit 1026), .str hs.c213 (nat_lit 1030), .str hs.c214 (nat_lit 1034), .str hs.c215 (nat_lit 1038), .str hs.c216 (nat_lit 1042), .str hs.c217 (nat_lit 1046), .str hs.c218 (nat_lit 1050), .str hs.c219 (nat_lit 1054), .str hs.c220 (nat_lit 1058), .str hs.c221 (nat_lit 1062), .str hs.c222 (nat_lit 1066), .str hs.c223 (nat_lit 1070), .str hs.c224 (nat_lit 1074), .str hs.c225 (nat_lit 1078), .str hs.c226 (nat_lit 1082), .str hs.c227 (nat_lit 1086), .str hs.c228 (nat_lit 1090), .str hs.c229 (nat_lit 1094), .str hs.c230 (nat_lit 1098), .str hs.c231 (nat_lit 1102), .str hs.c232 (nat_lit 1106), .str hs.c233 (nat_lit 1110), .str hs.c234 (nat_lit 1114), .str hs.c235 (nat_lit 1118), .str hs.c236 (nat_lit 1122), .str hs.c237 (nat_lit 1126), .str hs.c238 (nat_lit 1130), .str hs.c239 (nat_lit 1134), .str hs.c240 (nat_lit 1138), .str hs.c241 (nat_lit 1142), .str hs.c242 (nat_lit 1146), .str hs.c243 (nat_lit 1150), .str hs.c244 (nat_lit 1154), .str hs.c245 (nat_lit 1158), .str hs.c246 (nat_lit 1162), .str hs.c247 (nat_lit 1166), .str hs.c248 (nat_lit 1170), .str hs.c249 (nat_lit 1174), .str hs.c250 (nat_lit 1178), .str hs.c251 (nat_lit 1182), .str hs.c252 (nat_lit 1186), .str hs.c253 (nat_lit 1190), .str hs.c254 (nat_lit 1194), .str hs.c255 (nat_lit 1198), .str hs.c256 (nat_lit 1202), .str hs.c257 (nat_lit 1206), .str hs.c258 (nat_lit 1210), .str hs.c259 (nat_lit 1214), .str hs.c260 (nat_lit 1218), .str hs.c261 (nat_lit 1222), .str hs.c262 (nat_lit 1226), .str hs.c263 (nat_lit 1230), .str hs.c264 (nat_lit 1234), .str hs.c265 (nat_lit 1238), .str hs.c266 (nat_lit 1242), .str hs.c267 (nat_lit 1246), .str hs.c268 (nat_lit 1250), .str hs.c269 (nat_lit 1254), .str hs.c270 (nat_lit 1258), .str hs.c271 (nat_lit 1262), .str hs.c272 (nat_lit 1266), .str hs.c273 (nat_lit 1270), .str hs.c274 (nat_lit 1274), .str hs.c275 (nat_lit 1278), .str hs.c276 (nat_lit 1282), .str hs.c277 (nat_lit 1286), .str hs.c278 (nat_lit 1290), .str hs.c279 (nat_lit 1294), .str hs.c280 (nat_lit 1298), .str hs.c281 (nat_lit 1302), .str hs.c282 (nat_lit 1306), .str hs.c283 (nat_lit 1310), .str hs.c284 (nat_lit 1314), .str hs.c285 (nat_lit 1318), .str hs.c286 (nat_lit 1322), .str hs.c287 (nat_lit 1326), .str hs.c288 (nat_lit 1330), .str hs.c289 (nat_lit 1334), .str hs.c290 (nat_lit 1338), .str hs.c291 (nat_lit 1342), .str hs.c292 (nat_lit 1346), .str hs.c293 (nat_lit 1350), .str hs.c294 (nat_lit 1354), .str hs.c295 (nat_lit 1358), .str hs.c296 (nat_lit 1362), .str hs.c297 (nat_lit 1366), .str hs.c298 (nat_lit 1370), .str hs.c299 (nat_lit 1374), .str hs.c300 (nat_lit 1378), .str hs.c301 (nat_lit 1382), .str hs.c302 (nat_lit 1386), .str hs.c303 (nat_lit 1390), .str hs.c304 (nat_lit 1394), .str hs.c305 (nat_lit 1398), .str hs.c306 (nat_lit 1402), .str hs.c307 (nat_lit 1406), .str hs.c308 (nat_lit 1410), .str hs.c309 (nat_lit 1414), .str hs.c310 (nat_lit 1418), .str hs.c311 (nat_lit 1422), .str hs.c312 (nat_lit 1426), .str hs.c313 (nat_lit 1430)]⟩ (nat_lit 0), ⟨[]⟩⟩
noncomputable def hs.o97v1 (_ : Params) : Obj := ⟨.type "bytes_iterator", none, .fields ⟨[.bytes ⟨[UInt8.ofNat (nat_lit 32), UInt8.ofNat (nat_lit 33), UInt8.ofNat (nat_lit 34), UInt8.ofNat (nat_lit 35), UInt8.ofNat (nat_lit 36), UInt8.ofNat (nat_lit 37), UInt8.ofNat (nat_lit 38), UInt8.ofNat (nat_lit 39), UInt8.ofNat (nat_lit 40), UInt8.ofNat (nat_lit 41), UInt8.ofNat (nat_lit 42), UInt8.ofNat (nat_lit 43), UInt8.ofNat (nat_lit 44), UInt8.ofNat (nat_lit 45), UInt8.ofNat (nat_lit 46), UInt8.ofNat (nat_lit 47), UInt8.ofNat (nat_lit 48), UInt8.ofNat (nat_lit 49), UInt8.ofNat (nat_lit 50), UInt8.ofNat (nat_lit 51), UInt8.ofNat (nat_lit 52), UInt8.ofNat (nat_lit 53), UInt8.ofNat (nat_lit 54), UInt8.ofNat (nat_lit 55), UInt8.ofNat (nat_lit 56), UInt8.ofNat (nat_lit 57), UInt8.ofNat (nat_lit 58), UInt8.ofNat (nat_lit 59), UInt8.ofNat (nat_lit 60), UInt8.ofNat (nat_lit 62), UInt8.ofNat (nat_lit 63), UInt8.ofNat (nat_lit 64), UInt8.ofNat (nat_lit 65), UInt8.ofNat (nat_lit 66), UInt8.ofNat (nat_lit 67), UInt8.ofNat (nat_lit 68), UInt8.ofNat (nat_lit 69), UInt8.ofNat (nat_lit 70), UInt8.ofNat (nat_lit 71), UInt8.ofNat (nat_lit 72), UInt8.ofNat (nat_lit 73), UInt8.ofNat (nat_lit 74), UInt8.ofNat (nat_lit 75), UInt8.ofNat (nat_lit 76), UInt8.ofNat (nat_lit 77), UInt8.ofNat (nat_lit 78), UInt8.ofNat (nat_lit 79), UInt8.ofNat (nat_lit 80), UInt8.ofNat (nat_lit 81), UInt8.ofNat (nat_lit 82), UInt8.ofNat (nat_lit 83), UInt8.ofNat (nat_lit 84), UInt8.ofNat (nat_lit 85), UInt8.ofNat (nat_lit 86), UInt8.ofNat (nat_lit 87), UInt8.ofNat (nat_lit 88), UInt8.ofNat (nat_lit 89), UInt8.ofNat (nat_lit 90), UInt8.ofNat (nat_lit 91), UInt8.ofNat (nat_lit 92), UInt8.ofNat (nat_lit 93), UInt8.ofNat (nat_lit 94), UInt8.ofNat (nat_lit 95), UInt8.ofNat (nat_lit 96), UInt8.ofNat (nat_lit 97), UInt8.ofNat (nat_lit 98), UInt8.ofNat (nat_lit 99), UInt8.ofNat (nat_lit 100), UInt8.ofNat (nat_lit 101), UInt8.ofNat (nat_lit 102), UInt8.ofNat (nat_lit 103), UInt8.ofNat (nat_lit 104), UInt8.ofNat (nat_lit 105), UInt8.ofNat (nat_lit 106), UInt8.ofNat (nat_lit 107), UInt8.ofNat (nat_lit 108), UInt8.ofNat (nat_lit 109), UInt8.ofNat (nat_lit 110), UInt8.ofNat (nat_lit 111), UInt8.ofNat (nat_lit 112), UInt8.ofNat (nat_lit 113), UInt8.ofNat (nat_lit 114), UInt8.ofNat (nat_lit 115), UInt8.ofNat (nat_lit 116), UInt8.ofNat (nat_lit 117), UInt8.ofNat (nat_lit 118), UInt8.ofNat (nat_lit 119), UInt8.ofNat (nat_lit 120), UInt8.ofNat (nat_lit 121), UInt8.ofNat (nat_lit 122), UInt8.ofNat (nat_lit 123), UInt8.ofNat (nat_lit 124), UInt8.ofNat (nat_lit 125), UInt8.ofNat (nat_lit 126), UInt8.ofNat (nat_lit 9)]⟩ (nat_lit 1660), .int (.ofNat (nat_lit 33)) (nat_lit 0)]⟩, ⟨[]⟩⟩
noncomputable def hs.tD2 (P : Params) : BT := (.node (hs.o0v0 P) (.node (hs.o1v0 P) (.node (hs.o3v8 P) (.node (hs.o7v0 P) (.node (hs.o15v0 P) (.node (hs.o31v0 P) (.node (hs.o63v0 P) .nil .nil) (.node (hs.o95v0 P) .nil .nil)) (.node (hs.o47v0 P) (.node (hs.o79v0 P) .nil .nil) .nil)) (.node (hs.o23v0 P) (.node (hs.o39v0 P) (.node (hs.o71v0 P) .nil .nil) .nil) (.node (hs.o55v0 P) (.node (hs.o87v5 P) .nil .nil) .nil))) (.node (hs.o11v0 P) (.node (hs.o19v0 P) (.node (hs.o35v0 P) (.node (hs.o67v0 P) .nil .nil) .nil) (.node (hs.o51v0 P) (.node (hs.o83v0 P) .nil .nil) .nil)) (.node (hs.o27v0 P) (.node (hs.o43v0 P) (.node (hs.o75v0 P) .nil .nil) .nil) (.node (hs.o59v0 P) (.node (hs.o91v4 P) .nil .nil) .nil)))) (.node (hs.o5v0 P) (.node (hs.o9v0 P) (.node (hs.o17v0 P) (.node (hs.o33v0 P) (.node (hs.o65v0 P) .nil .nil) (.node (hs.o97v1 P) .nil .nil)) (.node (hs.o49v0 P) (.node (hs.o81v0 P) .nil .nil) .nil)) (.node (hs.o25v0 P) (.node (hs.o41v0 P) (.node (hs.o73v0 P) .nil .nil) .nil) (.node (hs.o57v0 P) (.node (hs.o89v0 P) .nil .nil) .nil))) (.node (hs.o13v0 P) (.node (hs.o21v0 P) (.node (hs.o37v0 P) (.node (hs.o69v0 P) .nil .nil) .nil) (.node (hs.o53v0 P) (.node (hs.o85v4 P) .nil .nil) .nil)) (.node (hs.o29v1 P) (.node (hs.o45v0 P) (.node (hs.o77v0 P) .nil .nil) .nil) (.node (hs.o61v0 P) (.node (hs.o93v2 P) .nil .nil) .nil))))) (.node (hs.o2v0 P) (.node (hs.o4v0 P) (.node (hs.o8v0 P) (.node (hs.o16v0 P) (.node (hs.o32v0 P) (.node (hs.o64v0 P) .nil .nil) (.node (hs.o96v0 P) .nil .nil)) (.node (hs.o48v0 P) (.node (hs.o80v0 P) .nil .nil) .nil)) (.node (hs.o24v0 P) (.node (hs.o40v0 P) (.node (hs.o72v0 P) .nil .nil) .nil) (.node (hs.o56v0 P) (.node (hs.o88v0 P) .nil .nil) .nil))) (.node (hs.o12v0 P) (.node (hs.o20v0 P) (.node (hs.o36v0 P) (.node (hs.o68v0 P) .nil .nil) .nil) (.node (hs.o52v0 P) (.node (hs.o84v0 P) .nil .nil) .nil)) (.node (hs.o28v0 P) (.node (hs.o44v0 P) (.node (hs.o76v0 P) .nil .nil) .nil) (.node (hs.o60v0 P) (.node (hs.o92v0 P) .nil .nil) .nil)))) (.node (hs.o6v0 P) (.node (hs.o10v0 P) (.node (hs.o18v0 P) (.node (hs.o34v0 P) (.node (hs.o66v0 P) .nil .nil) .nil) (.node (hs.o50v0 P) (.node (hs.o82v0 P) .nil .nil) .nil)) (.node (hs.o26v0 P) (.node (hs.o42v0 P) (.node (hs.o74v0 P) .nil .nil) .nil) (.node (hs.o58v0 P) (.node (hs.o90v0 P) .nil .nil) .nil))) (.node (hs.o14v0 P) (.node (hs.o22v0 P) (.node (hs.o38v0 P) (.node (hs.o70v0 P) .nil .nil) .nil) (.node (hs.o54v0 P) (.node (hs.o86v4 P) .nil .nil) .nil)) (.node (hs.o30v0 P) (.node (hs.o46v0 P) (.node (hs.o78v0 P) .nil .nil) .nil) (.node (hs.o62v0 P) (.node (hs.o94v3 P) .nil .nil) .nil))))))
noncomputable abbrev hs.sD2 (w : World) (os : OsState) : SharedT := ⟨hs.tD2 w.params, nat_lit 98, hs.life, ⟨[]⟩, ⟨nat_lit 0, nat_lit 0, nat_lit 0, nat_lit 0⟩, nat_lit 1760, os⟩
noncomputable def hs.o3v9 (P : Params) : Obj := ⟨.type "dict", none, .dict ⟨[de P hs.c0 (nat_lit 165) (.str hs.c315 (nat_lit 1447)), de P hs.c2 (nat_lit 166) (.none), de P hs.c3 (nat_lit 167) (.none), de P hs.c4 (nat_lit 168) (.builtin "__main__.__loader__#opaque"), de P hs.c5 (nat_lit 169) (.none), de P hs.c10 (nat_lit 170) (.ref (nat_lit 6)), de P hs.c11 (nat_lit 171) (.ref (nat_lit 4)), de P hs.c12 (nat_lit 173) (.str hs.c13 (nat_lit 172)), de P hs.c14 (nat_lit 174) (.none), de P hs.c9 (nat_lit 275) (.ref (nat_lit 12)), de P hs.c34 (nat_lit 290) (.ref (nat_lit 38)), de P hs.c35 (nat_lit 292) (.int (.ofNat (nat_lit 16384)) (nat_lit 291)), de P hs.c36 (nat_lit 294) (.int (.ofNat (nat_lit 8192)) (nat_lit 293)), de P hs.c37 (nat_lit 296) (.int (.ofNat (nat_lit 24576)) (nat_lit 295)), de P hs.c38 (nat_lit 298) (.int (.ofNat (nat_lit 32768)) (nat_lit 297)), de P hs.c39 (nat_lit 300) (.int (.ofNat (nat_lit 4096)) (nat_lit 299)), de P hs.c40 (nat_lit 302) (.int (.ofNat (nat_lit 40960)) (nat_lit 301)), de P hs.c41 (nat_lit 304) (.int (.ofNat (nat_lit 49152)) (nat_lit 303)), de P hs.c42 (nat_lit 306) (.int (.ofNat (nat_lit 2048)) (nat_lit 305)), de P hs.c43 (nat_lit 308) (.int (.ofNat (nat_lit 1024)) (nat_lit 307)), de P hs.c44 (nat_lit 310) (.int (.ofNat (nat_lit 512)) (nat_lit 309)), de P hs.c45 (nat_lit 312) (.int (.ofNat (nat_lit 256)) (nat_lit 311)), de P hs.c46 (nat_lit 314) (.int (.ofNat (nat_lit 128)) (nat_lit 313)), de P hs.c47 (nat_lit 316) (.int (.ofNat (nat_lit 64)) (nat_lit 315)), de P hs.c48 (nat_lit 318) (.int (.ofNat (nat_lit 32)) (nat_lit 317)), de P hs.c49 (nat_lit 320) (.int (.ofNat (nat_lit 16)) (nat_lit 319)), de P hs.c50 (nat_lit 322) (.int (.ofNat (nat_lit 8)) (nat_lit 321)), de P hs.c51 (nat_lit 324) (.int (.ofNat (nat_lit 4)) (nat_lit 323)), de P hs.c52 (nat_lit 326) (.int (.ofNat (nat_lit 2)) (nat_lit 325)), de P hs.c53 (nat_lit 328) (.int (.ofNat (nat_lit 1)) (nat_lit 327)), de P hs.c54 (nat_lit 354) (.ref (nat_lit 71)), de P hs.c55 (nat_lit 366) (.ref (nat_lit 78)), de P hs.c56 (nat_lit 401) (.ref (nat_lit 83)), de P ⟨⟨[nat_lit 78, nat_lit 76]⟩⟩ (nat_lit 403) (.str ⟨⟨[nat_lit 10]⟩⟩ (nat_lit 402)), de P hs.c314 (nat_lit 1431) (.ref (nat_lit 86)), de P hs.c316 (nat_lit 1432) (.ref (nat_lit 91)), de P hs.c317 (nat_lit 1433) (.ref (nat_lit 93)), de P hs.c318 (nat_lit 1435) (.str hs.c319 (nat_lit 1434)), de P hs.c320 (nat_lit 1437) (.str hs.c321 (nat_lit 1436)), de P hs.c322 (nat_lit 1439) (.str hs.c323 (nat_lit 1438)), de P hs.c324 (nat_lit 1441) (.str hs.c325 (nat_lit 1440)), de P hs.c326 (nat_lit 1446) (.str hs.c327 (nat_lit 1445)), de P ⟨⟨[nat_lit 99]⟩⟩ (nat_lit 1457) (.int (.ofNat (nat_lit 96)) (nat_lit 1850))]⟩ (nat_lit 43), ⟨[]⟩⟩
noncomputable def hs.o93v3 (_ : Params) : Obj := ⟨.type "list", none, .seq ⟨[.str hs.c58 (nat_lit 410), .str hs.c59 (nat_lit 414), .str hs.c60 (nat_lit 418), .str hs.c61 (nat_lit 422), .str hs.c62 (nat_lit 426), .str hs.c63 (nat_lit 430), .str hs.c64 (nat_lit 434), .str hs.c65 (nat_lit 438), .str hs.c66 (nat_lit 442), .str hs.c67 (nat_lit 446), .str hs.c68 (nat_lit 450), .str hs.c69 (nat_lit 454), .str hs.c70 (nat_lit 458), .str hs.c71 (nat_lit 462), .str hs.c72 (nat_lit 466), .str hs.c73 (nat_lit 470), .str hs.c74 (nat_lit 474), .str hs.c75 (nat_lit 478), .str hs.c76 (nat_lit 482), .str hs.c77 (nat_lit 486), .str hs.c78 (nat_lit 490), .str hs.c79 (nat_lit 494), .str hs.c80 (nat_lit 498), .str hs.c81 (nat_lit 502), .str hs.c82 (nat_lit 506), .str hs.c83 (nat_lit 510), .str hs.c84 (nat_lit 514), .str hs.c85 (nat_lit 518), .str hs.c86 (nat_lit 522), .str hs.c87 (nat_lit 526), .str hs.c88 (nat_lit 530), .str hs.c89 (nat_lit 534), .str ⟨⟨[nat_lit 32]⟩⟩ (nat_lit 1663), .str ⟨⟨[nat_lit 33]⟩⟩ (nat_lit 1666), .str ⟨⟨[nat_lit 34]⟩⟩ (nat_lit 1669), .str ⟨⟨[nat_lit 35]⟩⟩ (nat_lit 1672), .str ⟨⟨[nat_lit 36]⟩⟩ (nat_lit 1675), .str ⟨⟨[nat_lit 37]⟩⟩ (nat_lit 1678), .str ⟨⟨[nat_lit 38]⟩⟩ (nat_lit 1681), .str ⟨⟨[nat_lit 39]⟩⟩ (nat_lit 1684), .str ⟨⟨[nat_lit 40]⟩⟩ (nat_lit 1687), .str ⟨⟨[nat_lit 41]⟩⟩ (nat_lit 1690), .str ⟨⟨[nat_lit 42]⟩⟩ (nat_lit 1693), .str ⟨⟨[nat_lit 43]⟩⟩ (nat_lit 1696), .str ⟨⟨[nat_lit 44]⟩⟩ (nat_lit 1699), .str ⟨⟨[nat_lit 45]⟩⟩ (nat_lit 1702), .str ⟨⟨[nat_lit 46]⟩⟩ (nat_lit 1705), .str ⟨⟨[nat_lit 47]⟩⟩ (nat_lit 1708), .str ⟨⟨[nat_lit 48]⟩⟩ (nat_lit 1711), .str ⟨⟨[nat_lit 49]⟩⟩ (nat_lit 1714), .str ⟨⟨[nat_lit 50]⟩⟩ (nat_lit 1717), .str ⟨⟨[nat_lit 51]⟩⟩ (nat_lit 1720), .str ⟨⟨[nat_lit 52]⟩⟩ (nat_lit 1723), .str ⟨⟨[nat_lit 53]⟩⟩ (nat_lit 1726), .str ⟨⟨[nat_lit 54]⟩⟩ (nat_lit 1729), .str ⟨⟨[nat_lit 55]⟩⟩ (nat_lit 1732), .str ⟨⟨[nat_lit 56]⟩⟩ (nat_lit 1735), .str ⟨⟨[nat_lit 57]⟩⟩ (nat_lit 1738), .str ⟨⟨[nat_lit 58]⟩⟩ (nat_lit 1741), .str ⟨⟨[nat_lit 59]⟩⟩ (nat_lit 1744), .str ⟨⟨[nat_lit 60]⟩⟩ (nat_lit 1747), .str hs.c119 (nat_lit 654), .str ⟨⟨[nat_lit 62]⟩⟩ (nat_lit 1750), .str ⟨⟨[nat_lit 63]⟩⟩ (nat_lit 1753), .str ⟨⟨[nat_lit 64]⟩⟩ (nat_lit 1756), .str ⟨⟨[nat_lit 65]⟩⟩ (nat_lit 1759), .str ⟨⟨[nat_lit 66]⟩⟩ (nat_lit 1762), .str ⟨⟨[nat_lit 67]⟩⟩ (nat_lit 1765), .str ⟨⟨[nat_lit 68]⟩⟩ (nat_lit 1768), .str ⟨⟨[nat_lit 69]⟩⟩ (nat_lit 1771), .str ⟨⟨[nat_lit 70]⟩⟩ (nat_lit 1774), .str ⟨⟨[nat_lit 71]⟩⟩ (nat_lit 1777), .str ⟨⟨[nat_lit 72]⟩⟩ (nat_lit 1780), .str ⟨⟨[nat_lit 73]⟩⟩ (nat_lit 1783), .str ⟨⟨[nat_lit 74]⟩⟩ (nat_lit 1786), .str ⟨⟨[nat_lit 75]⟩⟩ (nat_lit 1789), .str ⟨⟨[nat_lit 76]⟩⟩ (nat_lit 1792), .str ⟨⟨[nat_lit 77]⟩⟩ (nat_lit 1795), .str ⟨⟨[nat_lit 78]⟩⟩ (nat_lit 1798), .str ⟨⟨[nat_lit 79]⟩⟩ (nat_lit 1801), .str ⟨⟨[nat_lit 80]⟩⟩ (nat_lit 1804), .str ⟨⟨[nat_lit 81]⟩⟩ (nat_lit 1807), .str ⟨⟨[nat_lit 82]⟩⟩ (nat_lit 1810), .str ⟨⟨[nat_lit 83]⟩⟩ (nat_lit 1813), .str ⟨⟨[nat_lit 84]⟩⟩ (nat_lit 1816), .str ⟨⟨[nat_lit 85]⟩⟩ (nat_lit 1819), .str ⟨⟨[nat_lit 86]⟩⟩ (nat_lit 1822), .str ⟨⟨[nat_lit 87]⟩⟩ (nat_lit 1825), .str ⟨⟨[nat_lit 88]⟩⟩ (nat_lit 1828), .str ⟨⟨[nat_lit 89]⟩⟩ (nat_lit 1831), .str ⟨⟨[nat_lit 90]⟩⟩ (nat_lit 1834), .str ⟨⟨[nat_lit 91]⟩⟩ (nat_lit 1837), .str ⟨⟨[nat_lit 92]⟩⟩ (nat_lit 1840), .str ⟨⟨[nat_lit 93]⟩⟩ (nat_lit 1843), .str ⟨⟨[nat_lit 94]⟩⟩ (nat_lit 1846), .str ⟨⟨[nat_lit 95]⟩⟩ (nat_lit 1849), .str ⟨⟨[nat_lit 96]⟩⟩ (nat_lit 1852), .str hs.c155 (nat_lit 798), .str hs.c156 (nat_lit 802), .str hs.c157 (nat_lit 806), .str hs.c158 (nat_lit 810), .str hs.c159 (nat_lit 814), .str hs.c160 (nat_lit 818), .str hs.c161 (nat_lit 822), .str hs.c162 (nat_lit 826), .str hs.c163 (nat_lit 830), .str hs.c164 (nat_lit 834), .str hs.c165 (nat_lit 838), .str hs.c166 (nat_lit 842), .str hs.c167 (nat_lit 846), .str hs.c168 (nat_lit 850), .str hs.c169 (nat_lit 854), .str hs.c170 (nat_lit 858), .str hs.c171 (nat_lit 862), .str hs.c172 (nat_lit 866), .str hs.c173 (nat_lit 870), .str hs.c174 (nat_lit 874), .str hs.c175 (nat_lit 878), .str hs.c176 (nat_lit 882), .str hs.c177 (nat_lit 886), .str hs.c178 (nat_lit 890), .str hs.c179 (nat_lit 894), .str hs.c180 (nat_lit 898), .str hs.c181 (nat_lit 902), .str hs.c182 (nat_lit 906), .str hs.c183 (nat_lit 910), .str hs.c184 (nat_lit 914), .str hs.c185 (nat_lit 918), .str hs.c186 (nat_lit 922), .str hs.c187 (nat_lit 926), .str hs.c188 (nat_lit 930), .str hs.c189 (nat_lit 934), .str hs.c190 (nat_lit 938), .str hs.c191 (nat_lit 942), .str hs.c192 (nat_lit 946), .str hs.c193 (nat_lit 950), .str hs.c194 (nat_lit 954), .str hs.c195 (nat_lit 958), .str hs.c196 (nat_lit 962), .str hs.c197 (nat_lit 966), .str hs.c198 (nat_lit 970), .str hs.c199 (nat_lit 974), .str hs.c200 (nat_lit 978), .str hs.c201 (nat_lit 982), .str hs.c202 (nat_lit 986), .str hs.c203 (nat_lit 990), .str hs.c204 (nat_lit 994), .str hs.c205 (nat_lit 998), .str hs.c206 (nat_lit 1002), .str hs.c207 (nat_lit 1006), .str hs.c208 (nat_lit 1010), .str hs.c209 (nat_lit 1014), .str hs.c210 (nat_lit 1018), .str hs.c211 (nat_lit 1022), .str hs.c212 (nat_lit 1026), .str hs.c213 (nat_lit 1030), .str hs.c214 (nat_lit 1034), .str hs.c215 (nat_lit 1038), .str hs.c216 (nat_lit 1042), .str hs.c217 (nat_lit 1046), .str hs.c218 (nat_lit 1050), .str hs.c219 (nat_lit 1054), .str hs.c220 (nat_lit 1058), .str hs.c221 (nat_lit 1062), .str hs.c222 (nat_lit 1066), .str hs.c223 (nat_lit 1070), .str hs.c224 (nat_lit 1074), .str hs.c225 (nat_lit 1078), .str hs.c226 (nat_lit 1082), .str hs.c227 (nat_lit 1086), .str hs.c228 (nat_lit 1090), .str hs.c229 (nat_lit 1094), .str hs.c230 (nat_lit 1098), .str hs.c231 (nat_lit 1102), .str hs.c232 (nat_lit 1106), .str hs.c233 (nat_lit 1110), .str hs.c234 (nat_lit 1114), .str hs.c235 (nat_lit 1118), .str hs.c236 (nat_lit 1122), .str hs.c237 (nat_lit 1126), .str hs.c238 (nat_lit 1130), .str hs.c239 (nat_lit 1134), .str hs.c240 (nat_lit 1138), .str hs.c241 (nat_lit 1142), .str hs.c242 (nat_lit 1146), .str hs.c243 (nat_lit 1150), .str hs.c244 (nat_lit 1154), .str hs.c245 (nat_lit 1158), .str hs.c246 (nat_lit 1162), .str hs.c247 (nat_lit 1166), .str hs.c248 (nat_lit 1170), .str hs.c249 (nat_lit 1174), .str hs.c250 (nat_lit 1178), .str hs.c251 (nat_lit 1182), .str hs.c252 (nat_lit 1186), .str hs.c253 (nat_lit 1190), .str hs.c254 (nat_lit 1194), .str hs.c255 (nat_lit 1198), .str hs.c256 (nat_lit 1202), .str hs.c257 (nat_lit 1206), .str hs.c258 (nat_lit 1210), .str hs.c259 (nat_lit 1214), .str hs.c260 (nat_lit 1218), .str hs.c261 (nat_lit 1222), .str hs.c262 (nat_lit 1226), .str hs.c263 (nat_lit 1230), .str hs.c264 (nat_lit 1234), .str hs.c265 (nat_lit 1238), .str hs.c266 (nat_lit 1242), .str hs.c267 (nat_lit 1246), .str hs.c268 (nat_lit 1250), .str hs.c269 (nat_lit 1254), .str hs.c270 (nat_lit 1258), .str hs.c271 (nat_lit 1262), .str hs.c272 (nat_lit 1266), .str hs.c273 (nat_lit 1270), .str hs.c274 (nat_lit 1274), .str hs.c275 (nat_lit 1278), .str hs.c276 (nat_lit 1282), .str hs.c277 (nat_lit 1286), .str hs.c278 (nat_lit 1290), .str hs.c279 (nat_lit 1294), .str hs.c280 (nat_lit 1298), .str hs.c281 (nat_lit 1302), .str hs.c282 (nat_lit 1306), .str hs.c283 (nat_lit 1310), .str hs.c284 (nat_lit 1314), .str hs.c285 (nat_lit 1318), .str hs.c286 (nat_lit 1322), .str hs.c287 (nat_lit 1326), .str hs.c288 (nat_lit 1330), .str hs.c289 (nat_lit 1334), .str hs.c290 (nat_lit 1338), .str hs.c291 (nat_lit 1342), .str hs.c292 (nat_lit 1346), .str hs.c293 (nat_lit 1350), .str hs.c294 (nat_lit 1354), .str hs.c295 (nat_lit 1358), .str hs.c296 (nat_lit 1362), .str hs.c297 (nat_lit 1366), .str hs.c298 (nat_lit 1370), .str hs.c299 (nat_lit 1374), .str hs.c300 (nat_lit 1378), .str hs.c301 (nat_lit 1382), .str hs.c302 (nat_lit 1386), .str hs.c303 (nat_lit 1390), .str hs.c304 (nat_lit 1394), .str hs.c305 (nat_lit 1398), .str hs.c306 (nat_lit 1402), .str hs.c307 (nat_lit 1406), .str hs.c308 (nat_lit 1410), .str hs.c309 (nat_lit 1414), .str hs.c310 (nat_lit 1418), .str hs.c311 (nat_lit 1422), .str hs.c312 (nat_lit 1426), .str hs.c313 (nat_lit 1430)]⟩ (nat_lit 0), ⟨[]⟩⟩
noncomputable def hs.o97v2 (_ : Params) : Obj := ⟨.type "bytes_iterator", none, .fields ⟨[.bytes ⟨[UInt8.ofNat (nat_lit 32), UInt8.ofNat (nat_lit 33), UInt8.ofNat (nat_lit 34), UInt8.ofNat (nat_lit 35), UInt8.ofNat (nat_lit 36), UInt8.ofNat (nat_lit 37), UInt8.ofNat (nat_lit 38), UInt8.ofNat (nat_lit 39), UInt8.ofNat (nat_lit 40), UInt8.ofNat (nat_lit 41), UInt8.ofNat (nat_lit 42), UInt8.ofNat (nat_lit 43), UInt8.ofNat (nat_lit 44), UInt8.ofNat (nat_lit 45), UInt8.ofNat (nat_lit 46), UInt8.ofNat (nat_lit 47), UInt8.ofNat (nat_lit 48), UInt8.ofNat (nat_lit 49), UInt8.ofNat (nat_lit 50), UInt8.ofNat (nat_lit 51), UInt8.ofNat (nat_lit 52), UInt8.ofNat (nat_lit 53), UInt8.ofNat (nat_lit 54), UInt8.ofNat (nat_lit 55), UInt8.ofNat (nat_lit 56), UInt8.ofNat (nat_lit 57), UInt8.ofNat (nat_lit 58), UInt8.ofNat (nat_lit 59), UInt8.ofNat (nat_lit 60), UInt8.ofNat (nat_lit 62), UInt8.ofNat (nat_lit 63), UInt8.ofNat (nat_lit 64), UInt8.ofNat (nat_lit 65), UInt8.ofNat (nat_lit 66), UInt8.ofNat (nat_lit 67), UInt8.ofNat (nat_lit 68), UInt8.ofNat (nat_lit 69), UInt8.ofNat (nat_lit 70), UInt8.ofNat (nat_lit 71), UInt8.ofNat (nat_lit 72), UInt8.ofNat (nat_lit 73), UInt8.ofNat (nat_lit 74), UInt8.ofNat (nat_lit 75), UInt8.ofNat (nat_lit 76), UInt8.ofNat (nat_lit 77), UInt8.ofNat (nat_lit 78), UInt8.ofNat (nat_lit 79), UInt8.ofNat (nat_lit 80), UInt8.ofNat (nat_lit 81), UInt8.ofNat (nat_lit 82), UInt8.ofNat (nat_lit 83), UInt8.ofNat (nat_lit 84), UInt8.ofNat (nat_lit 85), UInt8.ofNat (nat_lit 86), UInt8.ofNat (nat_lit 87), UInt8.ofNat (nat_lit 88), UInt8.ofNat (nat_lit 89), UInt8.ofNat (nat_lit 90), UInt8.ofNat (nat_lit 91), UInt8.ofNat (nat_lit 92), UInt8.ofNat (nat_lit 93), UInt8.ofNat (nat_lit 94), UInt8.ofNat (nat_lit 95), UInt8.ofNat (nat_lit 96), UInt8.ofNat (nat_lit 97), UInt8.ofNat (nat_lit 98), UInt8.ofNat (nat_lit 99), UInt8.ofNat (nat_lit 100), UInt8.ofNat (nat_lit 101), UInt8.ofNat (nat_lit 102), UInt8.ofNat (nat_lit 103), UInt8.ofNat (nat_lit 104), UInt8.ofNat (nat_lit 105), UInt8.ofNat (nat_lit 106), UInt8.ofNat (nat_lit 107), UInt8.ofNat (nat_lit 108), UInt8.ofNat (nat_lit 109), UInt8.ofNat (nat_lit 110), UInt8.ofNat (nat_lit 111), UInt8.ofNat (nat_lit 112), UInt8.ofNat (nat_lit 113), UInt8.ofNat (nat_lit 114), UInt8.ofNat (nat_lit 115), UInt8.ofNat (nat_lit 116), UInt8.ofNat (nat_lit 117), UInt8.ofNat (nat_lit 118), UInt8.ofNat (nat_lit 119), UInt8.ofNat (nat_lit 120), UInt8.ofNat (nat_lit 121), UInt8.ofNat (nat_lit 122), UInt8.ofNat (nat_lit 123), UInt8.ofNat (nat_lit 124), UInt8.ofNat (nat_lit 125), UInt8.ofNat (nat_lit 126), UInt8.ofNat (nat_lit 9)]⟩ (nat_lit 1660), .int (.ofNat (nat_lit 64)) (nat_lit 0)]⟩, ⟨[]⟩⟩
noncomputable def hs.tD3 (P : Params) : BT := (.node (hs.o0v0 P) (.node (hs.o1v0 P) (.node (hs.o3v9 P) (.node (hs.o7v0 P) (.node (hs.o15v0 P) (.node (hs.o31v0 P) (.node (hs.o63v0 P) .nil .nil) (.node (hs.o95v0 P) .nil .nil)) (.node (hs.o47v0 P) (.node (hs.o79v0 P) .nil .nil) .nil)) (.node (hs.o23v0 P) (.node (hs.o39v0 P) (.node (hs.o71v0 P) .nil .nil) .nil) (.node (hs.o55v0 P) (.node (hs.o87v5 P) .nil .nil) .nil))) (.node (hs.o11v0 P) (.node (hs.o19v0 P) (.node (hs.o35v0 P) (.node (hs.o67v0 P) .nil .nil) .nil) (.node (hs.o51v0 P) (.node (hs.o83v0 P) .nil .nil) .nil)) (.node (hs.o27v0 P) (.node (hs.o43v0 P) (.node (hs.o75v0 P) .nil .nil) .nil) (.node (hs.o59v0 P) (.node (hs.o91v4 P) .nil .nil) .nil)))) (.node (hs.o5v0 P) (.node (hs.o9v0 P) (.node (hs.o17v0 P) (.node (hs.o33v0 P) (.node (hs.o65v0 P) .nil .nil) (.node (hs.o97v2 P) .nil .nil)) (.node (hs.o49v0 P) (.node (hs.o81v0 P) .nil .nil) .nil)) (.node (hs.o25v0 P) (.node (hs.o41v0 P) (.node (hs.o73v0 P) .nil .nil) .nil) (.node (hs.o57v0 P) (.node (hs.o89v0 P) .nil .nil) .nil))) (.node (hs.o13v0 P) (.node (hs.o21v0 P) (.node (hs.o37v0 P) (.node (hs.o69v0 P) .nil .nil) .nil) (.node (hs.o53v0 P) (.node (hs.o85v4 P) .nil .nil) .nil)) (.node (hs.o29v1 P) (.node (hs.o45v0 P) (.node (hs.o77v0 P) .nil .nil) .nil) (.node (hs.o61v0 P) (.node (hs.o93v3 P) .nil .nil) .nil))))) (.node (hs.o2v0 P) (.node (hs.o4v0 P) (.node (hs.o8v0 P) (.node (hs.o16v0 P) (.node (hs.o32v0 P) (.node (hs.o64v0 P) .nil .nil) (.node (hs.o96v0 P) .nil .nil)) (.node (hs.o48v0 P) (.node (hs.o80v0 P) .nil .nil) .nil)) (.node (hs.o24v0 P) (.node (hs.o40v0 P) (.node (hs.o72v0 P) .nil .nil) .nil) (.node (hs.o56v0 P) (.node (hs.o88v0 P) .nil .nil) .nil))) (.node (hs.o12v0 P) (.node (hs.o20v0 P) (.node (hs.o36v0 P) (.node (hs.o68v0 P) .nil .nil) .nil) (.node (hs.o52v0 P) (.node (hs.o84v0 P) .nil .nil) .nil)) (.node (hs.o28v0 P) (.node (hs.o44v0 P) (.node (hs.o76v0 P) .nil .nil) .nil) (.node (hs.o60v0 P) (.node (hs.o92v0 P) .nil .nil) .nil)))) (.node (hs.o6v0 P) (.node (hs.o10v0 P) (.node (hs.o18v0 P) (.node (hs.o34v0 P) (.node (hs.o66v0 P) .nil .nil) .nil) (.node (hs.o50v0 P) (.node (hs.o82v0 P) .nil .nil) .nil)) (.node (hs.o26v0 P) (.node (hs.o42v0 P) (.node (hs.o74v0 P) .nil .nil) .nil) (.node (hs.o58v0 P) (.node (hs.o90v0 P) .nil .nil) .nil))) (.node (hs.o14v0 P) (.node (hs.o22v0 P) (.node (hs.o38v0 P) (.node (hs.o70v0 P) .nil .nil) .nil) (.node (hs.o54v0 P) (.node (hs.o86v4 P) .nil .nil) .nil)) (.node (hs.o30v0 P) (.node (hs.o46v0 P) (.node (hs.o78v0 P) .nil .nil) .nil) (.node (hs.o62v0 P) (.node (hs.o94v3 P) .nil .nil) .nil))))))
noncomputable abbrev hs.sD3 (w : World) (os : OsState) : SharedT := ⟨hs.tD3 w.params, nat_lit 98, hs.life, ⟨[]⟩, ⟨nat_lit 0, nat_lit 0, nat_lit 0, nat_lit 0⟩, nat_lit 1853, os⟩
noncomputable def hs.o3v10 (P : Params) : Obj := ⟨.type "dict", none, .dict ⟨[de P hs.c0 (nat_lit 165) (.str hs.c315 (nat_lit 1447)), de P hs.c2 (nat_lit 166) (.none), de P hs.c3 (nat_lit 167) (.none), de P hs.c4 (nat_lit 168) (.builtin "__main__.__loader__#opaque"), de P hs.c5 (nat_lit 169) (.none), de P hs.c10 (nat_lit 170) (.ref (nat_lit 6)), de P hs.c11 (nat_lit 171) (.ref (nat_lit 4)), de P hs.c12 (nat_lit 173) (.str hs.c13 (nat_lit 172)), de P hs.c14 (nat_lit 174) (.none), de P hs.c9 (nat_lit 275) (.ref (nat_lit 12)), de P hs.c34 (nat_lit 290) (.ref (nat_lit 38)), de P hs.c35 (nat_lit 292) (.int (.ofNat (nat_lit 16384)) (nat_lit 291)), de P hs.c36 (nat_lit 294) (.int (.ofNat (nat_lit 8192)) (nat_lit 293)), de P hs.c37 (nat_lit 296) (.int (.ofNat (nat_lit 24576)) (nat_lit 295)), de P hs.c38 (nat_lit 298) (.int (.ofNat (nat_lit 32768)) (nat_lit 297)), de P hs.c39 (nat_lit 300) (.int (.ofNat (nat_lit 4096)) (nat_lit 299)), de P hs.c40 (nat_lit 302) (.int (.ofNat (nat_lit 40960)) (nat_lit 301)), de P hs.c41 (nat_lit 304) (.int (.ofNat (nat_lit 49152)) (nat_lit 303)), de P hs.c42 (nat_lit 306) (.int (.ofNat (nat_lit 2048)) (nat_lit 305)), de P hs.c43 (nat_lit 308) (.int (.ofNat (nat_lit 1024)) (nat_lit 307)), de P hs.c44 (nat_lit 310) (.int (.ofNat (nat_lit 512)) (nat_lit 309)), de P hs.c45 (nat_lit 312) (.int (.ofNat (nat_lit 256)) (nat_lit 311)), de P hs.c46 (nat_lit 314) (.int (.ofNat (nat_lit 128)) (nat_lit 313)), de P hs.c47 (nat_lit 316) (.int (.ofNat (nat_lit 64)) (nat_lit 315)), de P hs.c48 (nat_lit 318) (.int (.ofNat (nat_lit 32)) (nat_lit 317)), de P hs.c49 (nat_lit 320) (.int (.ofNat (nat_lit 16)) (nat_lit 319)), de P hs.c50 (nat_lit 322) (.int (.ofNat (nat_lit 8)) (nat_lit 321)), de P hs.c51 (nat_lit 324) (.int (.ofNat (nat_lit 4)) (nat_lit 323)), de P hs.c52 (nat_lit 326) (.int (.ofNat (nat_lit 2)) (nat_lit 325)), de P hs.c53 (nat_lit 328) (.int (.ofNat (nat_lit 1)) (nat_lit 327)), de P hs.c54 (nat_lit 354) (.ref (nat_lit 71)), de P hs.c55 (nat_lit 366) (.ref (nat_lit 78)), de P hs.c56 (nat_lit 401) (.ref (nat_lit 83)), de P ⟨⟨[nat_lit 78, nat_lit 76]⟩⟩ (nat_lit 403) (.str ⟨⟨[nat_lit 10]⟩⟩ (nat_lit 402)), de P hs.c314 (nat_lit 1431) (.ref (nat_lit 86)), de P hs.c316 (nat_lit 1432) (.ref (nat_lit 91)), de P hs.c317 (nat_lit 1433) (.ref (nat_lit 93)), de P hs.c318 (nat_lit 1435) (.str hs.c319 (nat_lit 1434)), de P hs.c320 (nat_lit 1437) (.str hs.c321 (nat_lit 1436)), de P hs.c322 (nat_lit 1439) (.str hs.c323 (nat_lit 1438)), de P hs.c324 (nat_lit 1441) (.str hs.c325 (nat_lit 1440)), de P hs.c326 (nat_lit 1446) (.str hs.c327 (nat_lit 1445)), de P ⟨⟨[nat_lit 99]⟩⟩ (nat_lit 1457) (.int (.ofNat (nat_lit 9)) (nat_lit 1943))]⟩ (nat_lit 43), ⟨[]⟩⟩
noncomputable def hs.o93v4 (_ : Params) : Obj := ⟨.type "list", none, .seq ⟨[.str hs.c58 (nat_lit 410), .str hs.c59 (nat_lit 414), .str hs.c60 (nat_lit 418), .str hs.c61 (nat_lit 422), .str hs.c62 (nat_lit 426), .str hs.c63 (nat_lit 430), .str hs.c64 (nat_lit 434), .str hs.c65 (nat_lit 438), .str hs.c66 (nat_lit 442), .str ⟨⟨[nat_lit 9]⟩⟩ (nat_lit 1945), .str hs.c68 (nat_lit 450), .str hs.c69 (nat_lit 454), .str hs.c70 (nat_lit 458), .str hs.c71 (nat_lit 462), .str hs.c72 (nat_lit 466), .str hs.c73 (nat_lit 470), .str hs.c74 (nat_lit 474), .str hs.c75 (nat_lit 478), .str hs.c76 (nat_lit 482), .str hs.c77 (nat_lit 486), .str hs.c78 (nat_lit 490), .str hs.c79 (nat_lit 494), .str hs.c80 (nat_lit 498), .str hs.c81 (nat_lit 502), .str hs.c82 (nat_lit 506), .str hs.c83 (nat_lit 510), .str hs.c84 (nat_lit 514), .str hs.c85 (nat_lit 518), .str hs.c86 (nat_lit 522), .str hs.c87 (nat_lit 526), .str hs.c88 (nat_lit 530), .str hs.c89 (nat_lit 534), .str ⟨⟨[nat_lit 32]⟩⟩ (nat_lit 1663), .str ⟨⟨[nat_lit 33]⟩⟩ (nat_lit 1666), .str ⟨⟨[nat_lit 34]⟩⟩ (nat_lit 1669), .str ⟨⟨[nat_lit 35]⟩⟩ (nat_lit 1672), .str ⟨⟨[nat_lit 36]⟩⟩ (nat_lit 1675), .str ⟨⟨[nat_lit 37]⟩⟩ (nat_lit 1678), .str ⟨⟨[nat_lit 38]⟩⟩ (nat_lit 1681), .str ⟨⟨[nat_lit 39]⟩⟩ (nat_lit 1684), .str ⟨⟨[nat_lit 40]⟩⟩ (nat_lit 1687), .str ⟨⟨[nat_lit 41]⟩⟩ (nat_lit 1690), .str ⟨⟨[nat_lit 42]⟩⟩ (nat_lit 1693), .str ⟨⟨[nat_lit 43]⟩⟩ (nat_lit 1696), .str ⟨⟨[nat_lit 44]⟩⟩ (nat_lit 1699), .str ⟨⟨[nat_lit 45]⟩⟩ (nat_lit 1702), .str ⟨⟨[nat_lit 46]⟩⟩ (nat_lit 1705), .str ⟨⟨[nat_lit 47]⟩⟩ (nat_lit 1708), .str ⟨⟨[nat_lit 48]⟩⟩ (nat_lit 1711), .str ⟨⟨[nat_lit 49]⟩⟩ (nat_lit 1714), .str ⟨⟨[nat_lit 50]⟩⟩ (nat_lit 1717), .str ⟨⟨[nat_lit 51]⟩⟩ (nat_lit 1720), .str ⟨⟨[nat_lit 52]⟩⟩ (nat_lit 1723), .str ⟨⟨[nat_lit 53]⟩⟩ (nat_lit 1726), .str ⟨⟨[nat_lit 54]⟩⟩ (nat_lit 1729), .str ⟨⟨[nat_lit 55]⟩⟩ (nat_lit 1732), .str ⟨⟨[nat_lit 56]⟩⟩ (nat_lit 1735), .str ⟨⟨[nat_lit 57]⟩⟩ (nat_lit 1738), .str ⟨⟨[nat_lit 58]⟩⟩ (nat_lit 1741), .str ⟨⟨[nat_lit 59]⟩⟩ (nat_lit 1744), .str ⟨⟨[nat_lit 60]⟩⟩ (nat_lit 1747), .str hs.c119 (nat_lit 654), .str ⟨⟨[nat_lit 62]⟩⟩ (nat_lit 1750), .str ⟨⟨[nat_lit 63]⟩⟩ (nat_lit 1753), .str ⟨⟨[nat_lit 64]⟩⟩ (nat_lit 1756), .str ⟨⟨[nat_lit 65]⟩⟩ (nat_lit 1759), .str ⟨⟨[nat_lit 66]⟩⟩ (nat_lit 1762), .str ⟨⟨[nat_lit 67]⟩⟩ (nat_lit 1765), .str ⟨⟨[nat_lit 68]⟩⟩ (nat_lit 1768), .str ⟨⟨[nat_lit 69]⟩⟩ (nat_lit 1771), .str ⟨⟨[nat_lit 70]⟩⟩ (nat_lit 1774), .str ⟨⟨[nat_lit 71]⟩⟩ (nat_lit 1777), .str ⟨⟨[nat_lit 72]⟩⟩ (nat_lit 1780), .str ⟨⟨[nat_lit 73]⟩⟩ (nat_lit 1783), .str ⟨⟨[nat_lit 74]⟩⟩ (nat_lit 1786), .str ⟨⟨[nat_lit 75]⟩⟩ (nat_lit 1789), .str ⟨⟨[nat_lit 76]⟩⟩ (nat_lit 1792), .str ⟨⟨[nat_lit 77]⟩⟩ (nat_lit 1795), .str ⟨⟨[nat_lit 78]⟩⟩ (nat_lit 1798), .str ⟨⟨[nat_lit 79]⟩⟩ (nat_lit 1801), .str ⟨⟨[nat_lit 80]⟩⟩ (nat_lit 1804), .str ⟨⟨[nat_lit 81]⟩⟩ (nat_lit 1807), .str ⟨⟨[nat_lit 82]⟩⟩ (nat_lit 1810), .str ⟨⟨[nat_lit 83]⟩⟩ (nat_lit 1813), .str ⟨⟨[nat_lit 84]⟩⟩ (nat_lit 1816), .str ⟨⟨[nat_lit 85]⟩⟩ (nat_lit 1819), .str ⟨⟨[nat_lit 86]⟩⟩ (nat_lit 1822), .str ⟨⟨[nat_lit 87]⟩⟩ (nat_lit 1825), .str ⟨⟨[nat_lit 88]⟩⟩ (nat_lit 1828), .str ⟨⟨[nat_lit 89]⟩⟩ (nat_lit 1831), .str ⟨⟨[nat_lit 90]⟩⟩ (nat_lit 1834), .str ⟨⟨[nat_lit 91]⟩⟩ (nat_lit 1837), .str ⟨⟨[nat_lit 92]⟩⟩ (nat_lit 1840), .str ⟨⟨[nat_lit 93]⟩⟩ (nat_lit 1843), .str ⟨⟨[nat_lit 94]⟩⟩ (nat_lit 1846), .str ⟨⟨[nat_lit 95]⟩⟩ (nat_lit 1849), .str ⟨⟨[nat_lit 96]⟩⟩ (nat_lit 1852), .str ⟨⟨[nat_lit 97]⟩⟩ (nat_lit 1855), .str ⟨⟨[nat_lit 98]⟩⟩ (nat_lit 1858), .str ⟨⟨[nat_lit 99]⟩⟩ (nat_lit 1861), .str ⟨⟨[nat_lit 100]⟩⟩ (nat_lit 1864), .str ⟨⟨[nat_lit 101]⟩⟩ (nat_lit 1867), .str ⟨⟨[nat_lit 102]⟩⟩ (nat_lit 1870), .str ⟨⟨[nat_lit 103]⟩⟩ (nat_lit 1873), .str ⟨⟨[nat_lit 104]⟩⟩ (nat_lit 1876), .str ⟨⟨[nat_lit 105]⟩⟩ (nat_lit 1879), .str ⟨⟨[nat_lit 106]⟩⟩ (nat_lit 1882), .str ⟨⟨[nat_lit 107]⟩⟩ (nat_lit 1885), .str ⟨⟨[nat_lit 108]⟩⟩ (nat_lit 1888), .str ⟨⟨[nat_lit 109]⟩⟩ (nat_lit 1891), .str ⟨⟨[nat_lit 110]⟩⟩ (nat_lit 1894), .str ⟨⟨[nat_lit 111]⟩⟩ (nat_lit 1897), .str ⟨⟨[nat_lit 112]⟩⟩ (nat_lit 1900), .str ⟨⟨[nat_lit 113]⟩⟩ (nat_lit 1903), .str ⟨⟨[nat_lit 114]⟩⟩ (nat_lit 1906), .str ⟨⟨[nat_lit 115]⟩⟩ (nat_lit 1909), .str ⟨⟨[nat_lit 116]⟩⟩ (nat_lit 1912), .str ⟨⟨[nat_lit 117]⟩⟩ (nat_lit 1915), .str ⟨⟨[nat_lit 118]⟩⟩ (nat_lit 1918), .str ⟨⟨[nat_lit 119]⟩⟩ (nat_lit 1921), .str ⟨⟨[nat_lit 120]⟩⟩ (nat_lit 1924), .str ⟨⟨[nat_lit 121]⟩⟩ (nat_lit 1927), .str ⟨⟨[nat_lit 122]⟩⟩ (nat_lit 1930), .str ⟨⟨[nat_lit 123]⟩⟩ (nat_lit 1933), .str ⟨⟨[nat_lit 124]⟩⟩ (nat_lit 1936), .str ⟨⟨[nat_lit 125]⟩⟩ (nat_lit 1939), .str ⟨⟨[nat_lit 126]⟩⟩ (nat_lit 1942), .str hs.c185 (nat_lit 918), .str hs.c186 (nat_lit 922), .str hs.c187 (nat_lit 926), .str hs.c188 (nat_lit 930), .str hs.c189 (nat_lit 934), .str hs.c190 (nat_lit 938), .str hs.c191 (nat_lit 942), .str hs.c192 (nat_lit 946), .str hs.c193 (nat_lit 950), .str hs.c194 (nat_lit 954), .str hs.c195 (nat_lit 958), .str hs.c196 (nat_lit 962), .str hs.c197 (nat_lit 966), .str hs.c198 (nat_lit 970), .str hs.c199 (nat_lit 974), .str hs.c200 (nat_lit 978), .str hs.c201 (nat_lit 982), .str hs.c202 (nat_lit 986), .str hs.c203 (nat_lit 990), .str hs.c204 (nat_lit 994), .str hs.c205 (nat_lit 998), .str hs.c206 (nat_lit 1002), .str hs.c207 (nat_lit 1006), .str hs.c208 (nat_lit 1010), .str hs.c209 (nat_lit 1014), .str hs.c210 (nat_lit 1018), .str hs.c211 (nat_lit 1022), .str hs.c212 (nat_lit 1026), .str hs.c213 (nat_lit 1030), .str hs.c214 (nat_lit 1034), .str hs.c215 (nat_lit 1038), .str hs.c216 (nat_lit 1042), .str hs.c217 (nat_lit 1046), .str hs.c218 (nat_lit 1050), .str hs.c219 (nat_lit 1054), .str hs.c220 (nat_lit 1058), .str hs.c221 (nat_lit 1062), .str hs.c222 (nat_lit 1066), .str hs.c223 (nat_lit 1070), .str hs.c224 (nat_lit 1074), .str hs.c225 (nat_lit 1078), .str hs.c226 (nat_lit 1082), .str hs.c227 (nat_lit 1086), .str hs.c228 (nat_lit 1090), .str hs.c229 (nat_lit 1094), .str hs.c230 (nat_lit 1098), .str hs.c231 (nat_lit 1102), .str hs.c232 (nat_lit 1106), .str hs.c233 (nat_lit 1110), .str hs.c234 (nat_lit 1114), .str hs.c235 (nat_lit 1118), .str hs.c236 (nat_lit 1122), .str hs.c237 (nat_lit 1126), .str hs.c238 (nat_lit 1130), .str hs.c239 (nat_lit 1134), .str hs.c240 (nat_lit 1138), .str hs.c241 (nat_lit 1142), .str hs.c242 (nat_lit 1146), .str hs.c243 (nat_lit 1150), .str hs.c244 (nat_lit 1154), .str hs.c245 (nat_lit 1158), .str hs.c246 (nat_lit 1162), .str hs.c247 (nat_lit 1166), .str hs.c248 (nat_lit 1170), .str hs.c249 (nat_lit 1174), .str hs.c250 (nat_lit 1178), .str hs.c251 (nat_lit 1182), .str hs.c252 (nat_lit 1186), .str hs.c253 (nat_lit 1190), .str hs.c254 (nat_lit 1194), .str hs.c255 (nat_lit 1198), .str hs.c256 (nat_lit 1202), .str hs.c257 (nat_lit 1206), .str hs.c258 (nat_lit 1210), .str hs.c259 (nat_lit 1214), .str hs.c260 (nat_lit 1218), .str hs.c261 (nat_lit 1222), .str hs.c262 (nat_lit 1226), .str hs.c263 (nat_lit 1230), .str hs.c264 (nat_lit 1234), .str hs.c265 (nat_lit 1238), .str hs.c266 (nat_lit 1242), .str hs.c267 (nat_lit 1246), .str hs.c268 (nat_lit 1250), .str hs.c269 (nat_lit 1254), .str hs.c270 (nat_lit 1258), .str hs.c271 (nat_lit 1262), .str hs.c272 (nat_lit 1266), .str hs.c273 (nat_lit 1270), .str hs.c274 (nat_lit 1274), .str hs.c275 (nat_lit 1278), .str hs.c276 (nat_lit 1282), .str hs.c277 (nat_lit 1286), .str hs.c278 (nat_lit 1290), .str hs.c279 (nat_lit 1294), .str hs.c280 (nat_lit 1298), .str hs.c281 (nat_lit 1302), .str hs.c282 (nat_lit 1306), .str hs.c283 (nat_lit 1310), .str hs.c284 (nat_lit 1314), .str hs.c285 (nat_lit 1318), .str hs.c286 (nat_lit 1322), .str hs.c287 (nat_lit 1326), .str hs.c288 (nat_lit 1330), .str hs.c289 (nat_lit 1334), .str hs.c290 (nat_lit 1338), .str hs.c291 (nat_lit 1342), .str hs.c292 (nat_lit 1346), .str hs.c293 (nat_lit 1350), .str hs.c294 (nat_lit 1354), .str hs.c295 (nat_lit 1358), .str hs.c296 (nat_lit 1362), .str hs.c297 (nat_lit 1366), .str hs.c298 (nat_lit 1370), .str hs.c299 (nat_lit 1374), .str hs.c300 (nat_lit 1378), .str hs.c301 (nat_lit 1382), .str hs.c302 (nat_lit 1386), .str hs.c303 (nat_lit 1390), .str hs.c304 (nat_lit 1394), .str hs.c305 (nat_lit 1398), .str hs.c306 (nat_lit 1402), .str hs.c307 (nat_lit 1406), .str hs.c308 (nat_lit 1410), .str hs.c309 (nat_lit 1414), .str hs.c310 (nat_lit 1418), .str hs.c311 (nat_lit 1422), .str hs.c312 (nat_lit 1426), .str hs.c313 (nat_lit 1430)]⟩ (nat_lit 0), ⟨[]⟩⟩
noncomputable def hs.o97v3 (_ : Params) : Obj := ⟨.type "bytes_iterator", none, .fields ⟨[.bytes ⟨[UInt8.ofNat (nat_lit 32), UInt8.ofNat (nat_lit 33), UInt8.ofNat (nat_lit 34), UInt8.ofNat (nat_lit 35), UInt8.ofNat (nat_lit 36), UInt8.ofNat (nat_lit 37), UInt8.ofNat (nat_lit 38), UInt8.ofNat (nat_lit 39), UInt8.ofNat (nat_lit 40), UInt8.ofNat (nat_lit 41), UInt8.ofNat (nat_lit 42), UInt8.ofNat (nat_lit 43), UInt8.ofNat (nat_lit 44), UInt8.ofNat (nat_lit 45), UInt8.ofNat (nat_lit 46), UInt8.ofNat (nat_lit 47), UInt8.ofNat (nat_lit 48), UInt8.ofNat (nat_lit 49), UInt8.ofNat (nat_lit 50), UInt8.ofNat (nat_lit 51), UInt8.ofNat (nat_lit 52), UInt8.ofNat (nat_lit 53), UInt8.ofNat (nat_lit 54), UInt8.ofNat (nat_lit 55), UInt8.ofNat (nat_lit 56), UInt8.ofNat (nat_lit 57), UInt8.ofNat (nat_lit 58), UInt8.ofNat (nat_lit 59), UInt8.ofNat (nat_lit 60), UInt8.ofNat (nat_lit 62), UInt8.ofNat (nat_lit 63), UInt8.ofNat (nat_lit 64), UInt8.ofNat (nat_lit 65), UInt8.ofNat (nat_lit 66), UInt8.ofNat (nat_lit 67), UInt8.ofNat (nat_lit 68), UInt8.ofNat (nat_lit 69), UInt8.ofNat (nat_lit 70), UInt8.ofNat (nat_lit 71), UInt8.ofNat (nat_lit 72), UInt8.ofNat (nat_lit 73), UInt8.ofNat (nat_lit 74), UInt8.ofNat (nat_lit 75), UInt8.ofNat (nat_lit 76), UInt8.ofNat (nat_lit 77), UInt8.ofNat (nat_lit 78), UInt8.ofNat (nat_lit 79), UInt8.ofNat (nat_lit 80), UInt8.ofNat (nat_lit 81), UInt8.ofNat (nat_lit 82), UInt8.ofNat (nat_lit 83), UInt8.ofNat (nat_lit 84), UInt8.ofNat (nat_lit 85), UInt8.ofNat (nat_lit 86), UInt8.ofNat (nat_lit 87), UInt8.ofNat (nat_lit 88), UInt8.ofNat (nat_lit 89), UInt8.ofNat (nat_lit 90), UInt8.ofNat (nat_lit 91), UInt8.ofNat (nat_lit 92), UInt8.ofNat (nat_lit 93), UInt8.ofNat (nat_lit 94), UInt8.ofNat (nat_lit 95), UInt8.ofNat (nat_lit 96), UInt8.ofNat (nat_lit 97), UInt8.ofNat (nat_lit 98), UInt8.ofNat (nat_lit 99), UInt8.ofNat (nat_lit 100), UInt8.ofNat (nat_lit 101), UInt8.ofNat (nat_lit 102), UInt8.ofNat (nat_lit 103), UInt8.ofNat (nat_lit 104), UInt8.ofNat (nat_lit 105), UInt8.ofNat (nat_lit 106), UInt8.ofNat (nat_lit 107), UInt8.ofNat (nat_lit 108), UInt8.ofNat (nat_lit 109), UInt8.ofNat (nat_lit 110), UInt8.ofNat (nat_lit 111), UInt8.ofNat (nat_lit 112), UInt8.ofNat (nat_lit 113), UInt8.ofNat (nat_lit 114), UInt8.ofNat (nat_lit 115), UInt8.ofNat (nat_lit 116), UInt8.ofNat (nat_lit 117), UInt8.ofNat (nat_lit 118), UInt8.ofNat (nat_lit 119), UInt8.ofNat (nat_lit 120), UInt8.ofNat (nat_lit 121), UInt8.ofNat (nat_lit 122), UInt8.ofNat (nat_lit 123), UInt8.ofNat (nat_lit 124), UInt8.ofNat (nat_lit 125), UInt8.ofNat (nat_lit 126), UInt8.ofNat (nat_lit 9)]⟩ (nat_lit 1660), .int (.ofNat (nat_lit 95)) (nat_lit 0)]⟩, ⟨[]⟩⟩
noncomputable def hs.tD4 (P : Params) : BT := (.node (hs.o0v0 P) (.node (hs.o1v0 P) (.node (hs.o3v10 P) (.node (hs.o7v0 P) (.node (hs.o15v0 P) (.node (hs.o31v0 P) (.node (hs.o63v0 P) .nil .nil) (.node (hs.o95v0 P) .nil .nil)) (.node (hs.o47v0 P) (.node (hs.o79v0 P) .nil .nil) .nil)) (.node (hs.o23v0 P) (.node (hs.o39v0 P) (.node (hs.o71v0 P) .nil .nil) .nil) (.node (hs.o55v0 P) (.node (hs.o87v5 P) .nil .nil) .nil))) (.node (hs.o11v0 P) (.node (hs.o19v0 P) (.node (hs.o35v0 P) (.node (hs.o67v0 P) .nil .nil) .nil) (.node (hs.o51v0 P) (.node (hs.o83v0 P) .nil .nil) .nil)) (.node (hs.o27v0 P) (.node (hs.o43v0 P) (.node (hs.o75v0 P) .nil .nil) .nil) (.node (hs.o59v0 P) (.node (hs.o91v4 P) .nil .nil) .nil)))) (.node (hs.o5v0 P) (.node (hs.o9v0 P) (.node (hs.o17v0 P) (.node (hs.o33v0 P) (.node (hs.o65v0 P) .nil .nil) (.node (hs.o97v3 P) .nil .nil)) (.node (hs.o49v0 P) (.node (hs.o81v0 P) .nil .nil) .nil)) (.node (hs.o25v0 P) (.node (hs.o41v0 P) (.node (hs.o73v0 P) .nil .nil) .nil) (.node (hs.o57v0 P) (.node (hs.o89v0 P) .nil .nil) .nil))) (.node (hs.o13v0 P) (.node (hs.o21v0 P) (.node (hs.o37v0 P) (.node (hs.o69v0 P) .nil .nil) .nil) (.node (hs.o53v0 P) (.node (hs.o85v4 P) .nil .nil) .nil)) (.node (hs.o29v1 P) (.node (hs.o45v0 P) (.node (hs.o77v0 P) .nil .nil) .nil) (.node (hs.o61v0 P) (.node (hs.o93v4 P) .nil .nil) .nil))))) (.node (hs.o2v0 P) (.node (hs.o4v0 P) (.node (hs.o8v0 P) (.node (hs.o16v0 P) (.node (hs.o32v0 P) (.node (hs.o64v0 P) .nil .nil) (.node (hs.o96v0 P) .nil .nil)) (.node (hs.o48v0 P) (.node (hs.o80v0 P) .nil .nil) .nil)) (.node (hs.o24v0 P) (.node (hs.o40v0 P) (.node (hs.o72v0 P) .nil .nil) .nil) (.node (hs.o56v0 P) (.node (hs.o88v0 P) .nil .nil) .nil))) (.node (hs.o12v0 P) (.node (hs.o20v0 P) (.node (hs.o36v0 P) (.node (hs.o68v0 P) .nil .nil) .nil) (.node (hs.o52v0 P) (.node (hs.o84v0 P) .nil .nil) .nil)) (.node (hs.o28v0 P) (.node (hs.o44v0 P) (.node (hs.o76v0 P) .nil .nil) .nil) (.node (hs.o60v0 P) (.node (hs.o92v0 P) .nil .nil) .nil)))) (.node (hs.o6v0 P) (.node (hs.o10v0 P) (.node (hs.o18v0 P) (.node (hs.o34v0 P) (.node (hs.o66v0 P) .nil .nil) .nil) (.node (hs.o50v0 P) (.node (hs.o82v0 P) .nil .nil) .nil)) (.node (hs.o26v0 P) (.node (hs.o42v0 P) (.node (hs.o74v0 P) .nil .nil) .nil) (.node (hs.o58v0 P) (.node (hs.o90v0 P) .nil .nil) .nil))) (.node (hs.o14v0 P) (.node (hs.o22v0 P) (.node (hs.o38v0 P) (.node (hs.o70v0 P) .nil .nil) .nil) (.node (hs.o54v0 P) (.node (hs.o86v4 P) .nil .nil) .nil)) (.node (hs.o30v0 P) (.node (hs.o46v0 P) (.node (hs.o78v0 P) .nil .nil) .nil) (.node (hs.o62v0 P) (.node (hs.o94v3 P) .nil .nil) .nil))))))
noncomputable abbrev hs.sD4 (w : World) (os : OsState) : SharedT := ⟨hs.tD4 w.params, nat_lit 98, hs.life, ⟨[]⟩, ⟨nat_lit 0, nat_lit 0, nat_lit 0, nat_lit 0⟩, nat_lit 1946, os⟩
noncomputable def hs.o97v4 (_ : Params) : Obj := ⟨.type "bytes_iterator", none, .fields ⟨[.none, .int (.ofNat (nat_lit 95)) (nat_lit 0)]⟩, ⟨[]⟩⟩
noncomputable def hs.o98v0 (_ : Params) : Obj := ⟨.type "tuple", none, .seq ⟨[]⟩ (nat_lit 0), ⟨[]⟩⟩
noncomputable def hs.o99v0 (_ : Params) : Obj := ⟨.type "StopIteration", none, .fields ⟨[.ref (nat_lit 98), .none, .none, .none, .bool false, .none]⟩, ⟨[]⟩⟩
noncomputable def hs.t36 (P : Params) : BT := (.node (hs.o0v0 P) (.node (hs.o1v0 P) (.node (hs.o3v10 P) (.node (hs.o7v0 P) (.node (hs.o15v0 P) (.node (hs.o31v0 P) (.node (hs.o63v0 P) .nil .nil) (.node (hs.o95v0 P) .nil .nil)) (.node (hs.o47v0 P) (.node (hs.o79v0 P) .nil .nil) .nil)) (.node (hs.o23v0 P) (.node (hs.o39v0 P) (.node (hs.o71v0 P) .nil .nil) .nil) (.node (hs.o55v0 P) (.node (hs.o87v5 P) .nil .nil) .nil))) (.node (hs.o11v0 P) (.node (hs.o19v0 P) (.node (hs.o35v0 P) (.node (hs.o67v0 P) .nil .nil) (.node (hs.o99v0 P) .nil .nil)) (.node (hs.o51v0 P) (.node (hs.o83v0 P) .nil .nil) .nil)) (.node (hs.o27v0 P) (.node (hs.o43v0 P) (.node (hs.o75v0 P) .nil .nil) .nil) (.node (hs.o59v0 P) (.node (hs.o91v4 P) .nil .nil) .nil)))) (.node (hs.o5v0 P) (.node (hs.o9v0 P) (.node (hs.o17v0 P) (.node (hs.o33v0 P) (.node (hs.o65v0 P) .nil .nil) (.node (hs.o97v4 P) .nil .nil)) (.node (hs.o49v0 P) (.node (hs.o81v0 P) .nil .nil) .nil)) (.node (hs.o25v0 P) (.node (hs.o41v0 P) (.node (hs.o73v0 P) .nil .nil) .nil) (.node (hs.o57v0 P) (.node (hs.o89v0 P) .nil .nil) .nil))) (.node (hs.o13v0 P) (.node (hs.o21v0 P) (.node (hs.o37v0 P) (.node (hs.o69v0 P) .nil .nil) .nil) (.node (hs.o53v0 P) (.node (hs.o85v4 P) .nil .nil) .nil)) (.node (hs.o29v1 P) (.node (hs.o45v0 P) (.node (hs.o77v0 P) .nil .nil) .nil) (.node (hs.o61v0 P) (.node (hs.o93v4 P) .nil .nil) .nil))))) (.node (hs.o2v0 P) (.node (hs.o4v0 P) (.node (hs.o8v0 P) (.node (hs.o16v0 P) (.node (hs.o32v0 P) (.node (hs.o64v0 P) .nil .nil) (.node (hs.o96v0 P) .nil .nil)) (.node (hs.o48v0 P) (.node (hs.o80v0 P) .nil .nil) .nil)) (.node (hs.o24v0 P) (.node (hs.o40v0 P) (.node (hs.o72v0 P) .nil .nil) .nil) (.node (hs.o56v0 P) (.node (hs.o88v0 P) .nil .nil) .nil))) (.node (hs.o12v0 P) (.node (hs.o20v0 P) (.node (hs.o36v0 P) (.node (hs.o68v0 P) .nil .nil) .nil) (.node (hs.o52v0 P) (.node (hs.o84v0 P) .nil .nil) .nil)) (.node (hs.o28v0 P) (.node (hs.o44v0 P) (.node (hs.o76v0 P) .nil .nil) .nil) (.node (hs.o60v0 P) (.node (hs.o92v0 P) .nil .nil) .nil)))) (.node (hs.o6v0 P) (.node (hs.o10v0 P) (.node (hs.o18v0 P) (.node (hs.o34v0 P) (.node (hs.o66v0 P) .nil .nil) (.node (hs.o98v0 P) .nil .nil)) (.node (hs.o50v0 P) (.node (hs.o82v0 P) .nil .nil) .nil)) (.node (hs.o26v0 P) (.node (hs.o42v0 P) (.node (hs.o74v0 P) .nil .nil) .nil) (.node (hs.o58v0 P) (.node (hs.o90v0 P) .nil .nil) .nil))) (.node (hs.o14v0 P) (.node (hs.o22v0 P) (.node (hs.o38v0 P) (.node (hs.o70v0 P) .nil .nil) .nil) (.node (hs.o54v0 P) (.node (hs.o86v4 P) .nil .nil) .nil)) (.node (hs.o30v0 P) (.node (hs.o46v0 P) (.node (hs.o78v0 P) .nil .nil) .nil) (.node (hs.o62v0 P) (.node (hs.o94v3 P) .nil .nil) .nil))))))
noncomputable abbrev hs.s36 (w : World) (os : OsState) : SharedT := ⟨hs.t36 w.params, nat_lit 100, hs.life, ⟨[]⟩, ⟨nat_lit 0, nat_lit 0, nat_lit 0, nat_lit 0⟩, nat_lit 1946, os⟩
noncomputable def hs.o3v11 (P : Params) : Obj := ⟨.type "dict", none, .dict ⟨[de P hs.c0 (nat_lit 165) (.str ⟨⟨[nat_lit 108, nat_lit 97, nat_lit 119, nat_lit 95, nat_lit 110, nat_lit 121, nat_lit 48, nat_lit 49, nat_lit 56, nat_lit 56, nat_lit 95, nat_lit 48, nat_lit 49]⟩⟩ (nat_lit 2006)), de P hs.c2 (nat_lit 166) (.none), de P hs.c3 (nat_lit 167) (.none), de P hs.c4 (nat_lit 168) (.builtin "__main__.__loader__#opaque"), de P hs.c5 (nat_lit 169) (.none), de P hs.c10 (nat_lit 170) (.ref (nat_lit 6)), de P hs.c11 (nat_lit 171) (.ref (nat_lit 4)), de P hs.c12 (nat_lit 173) (.str hs.c13 (nat_lit 172)), de P hs.c14 (nat_lit 174) (.none), de P hs.c9 (nat_lit 275) (.ref (nat_lit 12)), de P hs.c34 (nat_lit 290) (.ref (nat_lit 38)), de P hs.c35 (nat_lit 292) (.int (.ofNat (nat_lit 16384)) (nat_lit 291)), de P hs.c36 (nat_lit 294) (.int (.ofNat (nat_lit 8192)) (nat_lit 293)), de P hs.c37 (nat_lit 296) (.int (.ofNat (nat_lit 24576)) (nat_lit 295)), de P hs.c38 (nat_lit 298) (.int (.ofNat (nat_lit 32768)) (nat_lit 297)), de P hs.c39 (nat_lit 300) (.int (.ofNat (nat_lit 4096)) (nat_lit 299)), de P hs.c40 (nat_lit 302) (.int (.ofNat (nat_lit 40960)) (nat_lit 301)), de P hs.c41 (nat_lit 304) (.int (.ofNat (nat_lit 49152)) (nat_lit 303)), de P hs.c42 (nat_lit 306) (.int (.ofNat (nat_lit 2048)) (nat_lit 305)), de P hs.c43 (nat_lit 308) (.int (.ofNat (nat_lit 1024)) (nat_lit 307)), de P hs.c44 (nat_lit 310) (.int (.ofNat (nat_lit 512)) (nat_lit 309)), de P hs.c45 (nat_lit 312) (.int (.ofNat (nat_lit 256)) (nat_lit 311)), de P hs.c46 (nat_lit 314) (.int (.ofNat (nat_lit 128)) (nat_lit 313)), de P hs.c47 (nat_lit 316) (.int (.ofNat (nat_lit 64)) (nat_lit 315)), de P hs.c48 (nat_lit 318) (.int (.ofNat (nat_lit 32)) (nat_lit 317)), de P hs.c49 (nat_lit 320) (.int (.ofNat (nat_lit 16)) (nat_lit 319)), de P hs.c50 (nat_lit 322) (.int (.ofNat (nat_lit 8)) (nat_lit 321)), de P hs.c51 (nat_lit 324) (.int (.ofNat (nat_lit 4)) (nat_lit 323)), de P hs.c52 (nat_lit 326) (.int (.ofNat (nat_lit 2)) (nat_lit 325)), de P hs.c53 (nat_lit 328) (.int (.ofNat (nat_lit 1)) (nat_lit 327)), de P hs.c54 (nat_lit 354) (.ref (nat_lit 71)), de P hs.c55 (nat_lit 366) (.ref (nat_lit 78)), de P hs.c56 (nat_lit 401) (.ref (nat_lit 83)), de P ⟨⟨[nat_lit 78, nat_lit 76]⟩⟩ (nat_lit 403) (.str ⟨⟨[nat_lit 10]⟩⟩ (nat_lit 402)), de P hs.c314 (nat_lit 1431) (.ref (nat_lit 86)), de P hs.c316 (nat_lit 1432) (.ref (nat_lit 91)), de P hs.c317 (nat_lit 1433) (.ref (nat_lit 93)), de P hs.c318 (nat_lit 1435) (.str hs.c319 (nat_lit 1434)), de P hs.c320 (nat_lit 1437) (.str hs.c321 (nat_lit 1436)), de P hs.c322 (nat_lit 1439) (.str hs.c323 (nat_lit 1438)), de P hs.c324 (nat_lit 1441) (.str hs.c325 (nat_lit 1440)), de P hs.c326 (nat_lit 1446) (.str hs.c327 (nat_lit 1445)), de P hs.c328 (nat_lit 1952) (.ref (nat_lit 106)), de P hs.c329 (nat_lit 1959) (.ref (nat_lit 113)), de P hs.c330 (nat_lit 1969) (.ref (nat_lit 121)), de P ⟨⟨[nat_lit 95, nat_lit 81, nat_lit 85, nat_lit 79, nat_lit 80, nat_lit 82, nat_lit 73, nat_lit 95, nat_lit 66, nat_lit 79, nat_lit 68, nat_lit 89, nat_lit 95, nat_lit 69, nat_lit 78, nat_lit 67, nat_lit 79, nat_lit 68, nat_lit 69, nat_lit 95, nat_lit 77, nat_lit 65, nat_lit 80]⟩⟩ (nat_lit 1970) (.ref (nat_lit 123)), de P hs.c331 (nat_lit 1990) (.ref (nat_lit 134)), de P hs.c332 (nat_lit 1998) (.ref (nat_lit 141)), de P hs.c333 (nat_lit 2005) (.ref (nat_lit 148)), de P hs.c334 (nat_lit 2017) (.ref (nat_lit 155)), de P hs.c335 (nat_lit 2029) (.ref (nat_lit 162)), de P hs.c336 (nat_lit 2035) (.ref (nat_lit 167))]⟩ (nat_lit 54), ⟨[]⟩⟩
noncomputable def hs.o29v2 (_ : Params) : Obj := ⟨.none, none, .fields ⟨[.int (.ofNat (nat_lit 3)) (nat_lit 0), .int (.ofNat (nat_lit 0)) (nat_lit 0), .ref (nat_lit 37), .int (.ofNat (nat_lit 25)) (nat_lit 0), .int (.ofNat (nat_lit 0)) (nat_lit 0), .ref (nat_lit 77), .int (.ofNat (nat_lit 58)) (nat_lit 0), .int (.ofNat (nat_lit 0)) (nat_lit 0), .ref (nat_lit 105), .int (.ofNat (nat_lit 60)) (nat_lit 0), .int (.ofNat (nat_lit 0)) (nat_lit 0), .ref (nat_lit 112), .int (.ofNat (nat_lit 62)) (nat_lit 0), .int (.ofNat (nat_lit 0)) (nat_lit 0), .ref (nat_lit 120), .int (.ofNat (nat_lit 71)) (nat_lit 0), .int (.ofNat (nat_lit 0)) (nat_lit 0), .ref (nat_lit 133), .int (.ofNat (nat_lit 101)) (nat_lit 0), .int (.ofNat (nat_lit 0)) (nat_lit 0), .ref (nat_lit 140), .int (.ofNat (nat_lit 104)) (nat_lit 0), .int (.ofNat (nat_lit 0)) (nat_lit 0), .ref (nat_lit 147), .int (.ofNat (nat_lit 108)) (nat_lit 0), .int (.ofNat (nat_lit 0)) (nat_lit 0), .ref (nat_lit 154), .int (.ofNat (nat_lit 115)) (nat_lit 0), .int (.ofNat (nat_lit 0)) (nat_lit 0), .ref (nat_lit 161), .int (.ofNat (nat_lit 123)) (nat_lit 0), .int (.ofNat (nat_lit 0)) (nat_lit 0), .ref (nat_lit 166)]⟩, ⟨[]⟩⟩
noncomputable def hs.o100v0 (_ : Params) : Obj := ⟨.type "tuple", none, .seq ⟨[]⟩ (nat_lit 0), ⟨[]⟩⟩
noncomputable def hs.o101v0 (_ : Params) : Obj := ⟨.none, none, .fields ⟨[]⟩, ⟨[]⟩⟩
noncomputable def hs.o102v0 (_ : Params) : Obj := ⟨.type "tuple", none, .seq ⟨[.str ⟨⟨[nat_lit 115]⟩⟩ (nat_lit 1949)]⟩ (nat_lit 0), ⟨[]⟩⟩
noncomputable def hs.o103v0 (_ : Params) : Obj := ⟨.type "tuple", none, .seq ⟨[]⟩ (nat_lit 0), ⟨[]⟩⟩
noncomputable def hs.o104v0 (_ : Params) : Obj := protoOf fo106
noncomputable def hs.o105v0 (_ : Params) : Obj := ⟨.type "code", none, .fields ⟨[.str hs.c328 (nat_lit 1946), .str hs.c328 (nat_lit 1947), .str hs.c13 (nat_lit 1948), .int (.ofNat (nat_lit 58)) (nat_lit 0), .int (.ofNat (nat_lit 1)) (nat_lit 0), .int (.ofNat (nat_lit 0)) (nat_lit 0), .int (.ofNat (nat_lit 0)) (nat_lit 0), .int (.ofNat (nat_lit 3)) (nat_lit 0), .ref (nat_lit 100), .bool true, .int (.ofNat (nat_lit 276)) (nat_lit 0), .ref (nat_lit 101), .none, .ref (nat_lit 102), .ref (nat_lit 103), .ref (nat_lit 104), .int (.ofNat (nat_lit 1950)) (nat_lit 0), .int (.ofNat (nat_lit 58)) (nat_lit 0), .str hs.c13 (nat_lit 1951)]⟩, ⟨[]⟩⟩
noncomputable def hs.o106v0 (_ : Params) : Obj := fo106
noncomputable def hs.o107v0 (_ : Params) : Obj := ⟨.type "tuple", none, .seq ⟨[]⟩ (nat_lit 0), ⟨[]⟩⟩
noncomputable def hs.o108v0 (_ : Params) : Obj := ⟨.none, none, .fields ⟨[]⟩, ⟨[]⟩⟩
noncomputable def hs.o109v0 (_ : Params) : Obj := ⟨.type "tuple", none, .seq ⟨[.str ⟨⟨[nat_lit 99]⟩⟩ (nat_lit 1956)]⟩ (nat_lit 0), ⟨[]⟩⟩
noncomputable def hs.o110v0 (_ : Params) : Obj := ⟨.type "tuple", none, .seq ⟨[]⟩ (nat_lit 0), ⟨[]⟩⟩
noncomputable def hs.o111v0 (_ : Params) : Obj := protoOf fo113
noncomputable def hs.o112v0 (_ : Params) : Obj := ⟨.type "code", none, .fields ⟨[.str hs.c329 (nat_lit 1953), .str hs.c329 (nat_lit 1954), .str hs.c13 (nat_lit 1955), .int (.ofNat (nat_lit 60)) (nat_lit 0), .int (.ofNat (nat_lit 1)) (nat_lit 0), .int (.ofNat (nat_lit 0)) (nat_lit 0), .int (.ofNat (nat_lit 0)) (nat_lit 0), .int (.ofNat (nat_lit 3)) (nat_lit 0), .ref (nat_lit 107), .bool true, .int (.ofNat (nat_lit 276)) (nat_lit 0), .ref (nat_lit 108), .none, .ref (nat_lit 109), .ref (nat_lit 110), .ref (nat_lit 111), .int (.ofNat (nat_lit 1957)) (nat_lit 0), .int (.ofNat (nat_lit 60)) (nat_lit 0), .str hs.c13 (nat_lit 1958)]⟩, ⟨[]⟩⟩
noncomputable def hs.o113v0 (_ : Params) : Obj := fo113
noncomputable def hs.o114v0 (_ : Params) : Obj := ⟨.type "tuple", none, .seq ⟨[.str ⟨⟨[nat_lit 105, nat_lit 115, nat_lit 111, nat_lit 45, nat_lit 56, nat_lit 56, nat_lit 53, nat_lit 57, nat_lit 45, nat_lit 49]⟩⟩ (nat_lit 1960)]⟩ (nat_lit 0), ⟨[]⟩⟩
noncomputable def hs.o115v0 (_ : Params) : Obj := ⟨.type "tuple", none, .seq ⟨[]⟩ (nat_lit 0), ⟨[]⟩⟩
noncomputable def hs.o116v0 (_ : Params) : Obj := ⟨.none, none, .fields ⟨[]⟩, ⟨[]⟩⟩
noncomputable def hs.o117v0 (_ : Params) : Obj := ⟨.type "tuple", none, .seq ⟨[.str ⟨⟨[nat_lit 104, nat_lit 101, nat_lit 97, nat_lit 100, nat_lit 101, nat_lit 114, nat_lit 95, nat_lit 98, nat_lit 121, nat_lit 116, nat_lit 101, nat_lit 115]⟩⟩ (nat_lit 1964), .str ⟨⟨[nat_lit 99, nat_lit 104, nat_lit 97, nat_lit 114, nat_lit 115, nat_lit 101, nat_lit 116]⟩⟩ (nat_lit 1965), .str hs.c337 (nat_lit 1966)]⟩ (nat_lit 0), ⟨[]⟩⟩
noncomputable def hs.o118v0 (_ : Params) : Obj := ⟨.type "tuple", none, .seq ⟨[]⟩ (nat_lit 0), ⟨[]⟩⟩
noncomputable def hs.o119v0 (_ : Params) : Obj := protoOf fo121
noncomputable def hs.o120v0 (_ : Params) : Obj := ⟨.type "code", none, .fields ⟨[.str hs.c330 (nat_lit 1961), .str hs.c330 (nat_lit 1962), .str hs.c13 (nat_lit 1963), .int (.ofNat (nat_lit 62)) (nat_lit 0), .int (.ofNat (nat_lit 2)) (nat_lit 0), .int (.ofNat (nat_lit 0)) (nat_lit 0), .int (.ofNat (nat_lit 0)) (nat_lit 0), .int (.ofNat (nat_lit 3)) (nat_lit 0), .ref (nat_lit 115), .bool true, .int (.ofNat (nat_lit 276)) (nat_lit 0), .ref (nat_lit 116), .none, .ref (nat_lit 117), .ref (nat_lit 118), .ref (nat_lit 119), .int (.ofNat (nat_lit 1967)) (nat_lit 0), .int (.ofNat (nat_lit 62)) (nat_lit 0), .str hs.c13 (nat_lit 1968)]⟩, ⟨[]⟩⟩
noncomputable def hs.o121v0 (_ : Params) : Obj := fo121
noncomputable def hs.o122v0 (_ : Params) : Obj := ⟨.type "slice", none, .fields ⟨[.none, .none, .none]⟩, ⟨[]⟩⟩
noncomputable def hs.o123v0 (_ : Params) : Obj := ⟨.type "list", none, .seq ⟨[.str hs.c58 (nat_lit 410), .str hs.c59 (nat_lit 414), .str hs.c60 (nat_lit 418), .str hs.c61 (nat_lit 422), .str hs.c62 (nat_lit 426), .str hs.c63 (nat_lit 430), .str hs.c64 (nat_lit 434), .str hs.c65 (nat_lit 438), .str hs.c66 (nat_lit 442), .str ⟨⟨[nat_lit 9]⟩⟩ (nat_lit 1945), .str ⟨⟨[nat_lit 10]⟩⟩ (nat_lit 1977), .str hs.c69 (nat_lit 454), .str hs.c70 (nat_lit 458), .str ⟨⟨[nat_lit 13]⟩⟩ (nat_lit 1974), .str hs.c72 (nat_lit 466), .str hs.c73 (nat_lit 470), .str hs.c74 (nat_lit 474), .str hs.c75 (nat_lit 478), .str hs.c76 (nat_lit 482), .str hs.c77 (nat_lit 486), .str hs.c78 (nat_lit 490), .str hs.c79 (nat_lit 494), .str hs.c80 (nat_lit 498), .str hs.c81 (nat_lit 502), .str hs.c82 (nat_lit 506), .str hs.c83 (nat_lit 510), .str hs.c84 (nat_lit 514), .str hs.c85 (nat_lit 518), .str hs.c86 (nat_lit 522), .str hs.c87 (nat_lit 526), .str hs.c88 (nat_lit 530), .str hs.c89 (nat_lit 534), .str ⟨⟨[nat_lit 32]⟩⟩ (nat_lit 1663), .str ⟨⟨[nat_lit 33]⟩⟩ (nat_lit 1666), .str ⟨⟨[nat_lit 34]⟩⟩ (nat_lit 1669), .str ⟨⟨[nat_lit 35]⟩⟩ (nat_lit 1672), .str ⟨⟨[nat_lit 36]⟩⟩ (nat_lit 1675), .str ⟨⟨[nat_lit 37]⟩⟩ (nat_lit 1678), .str ⟨⟨[nat_lit 38]⟩⟩ (nat_lit 1681), .str ⟨⟨[nat_lit 39]⟩⟩ (nat_lit 1684), .str ⟨⟨[nat_lit 40]⟩⟩ (nat_lit 1687), .str ⟨⟨[nat_lit 41]⟩⟩ (nat_lit 1690), .str ⟨⟨[nat_lit 42]⟩⟩ (nat_lit 1693), .str ⟨⟨[nat_lit 43]⟩⟩ (nat_lit 1696), .str ⟨⟨[nat_lit 44]⟩⟩ (nat_lit 1699), .str ⟨⟨[nat_lit 45]⟩⟩ (nat_lit 1702), .str ⟨⟨[nat_lit 46]⟩⟩ (nat_lit 1705), .str ⟨⟨[nat_lit 47]⟩⟩ (nat_lit 1708), .str ⟨⟨[nat_lit 48]⟩⟩ (nat_lit 1711), .str ⟨⟨[nat_lit 49]⟩⟩ (nat_lit 1714), .str ⟨⟨[nat_lit 50]⟩⟩ (nat_lit 1717), .str ⟨⟨[nat_lit 51]⟩⟩ (nat_lit 1720), .str ⟨⟨[nat_lit 52]⟩⟩ (nat_lit 1723), .str ⟨⟨[nat_lit 53]⟩⟩ (nat_lit 1726), .str ⟨⟨[nat_lit 54]⟩⟩ (nat_lit 1729), .str ⟨⟨[nat_lit 55]⟩⟩ (nat_lit 1732), .str ⟨⟨[nat_lit 56]⟩⟩ (nat_lit 1735), .str ⟨⟨[nat_lit 57]⟩⟩ (nat_lit 1738), .str ⟨⟨[nat_lit 58]⟩⟩ (nat_lit 1741), .str ⟨⟨[nat_lit 59]⟩⟩ (nat_lit 1744), .str ⟨⟨[nat_lit 60]⟩⟩ (nat_lit 1747), .str hs.c119 (nat_lit 654), .str ⟨⟨[nat_lit 62]⟩⟩ (nat_lit 1750), .str ⟨⟨[nat_lit 63]⟩⟩ (nat_lit 1753), .str ⟨⟨[nat_lit 64]⟩⟩ (nat_lit 1756), .str ⟨⟨[nat_lit 65]⟩⟩ (nat_lit 1759), .str ⟨⟨[nat_lit 66]⟩⟩ (nat_lit 1762), .str ⟨⟨[nat_lit 67]⟩⟩ (nat_lit 1765), .str ⟨⟨[nat_lit 68]⟩⟩ (nat_lit 1768), .str ⟨⟨[nat_lit 69]⟩⟩ (nat_lit 1771), .str ⟨⟨[nat_lit 70]⟩⟩ (nat_lit 1774), .str ⟨⟨[nat_lit 71]⟩⟩ (nat_lit 1777), .str ⟨⟨[nat_lit 72]⟩⟩ (nat_lit 1780), .str ⟨⟨[nat_lit 73]⟩⟩ (nat_lit 1783), .str ⟨⟨[nat_lit 74]⟩⟩ (nat_lit 1786), .str ⟨⟨[nat_lit 75]⟩⟩ (nat_lit 1789), .str ⟨⟨[nat_lit 76]⟩⟩ (nat_lit 1792), .str ⟨⟨[nat_lit 77]⟩⟩ (nat_lit 1795), .str ⟨⟨[nat_lit 78]⟩⟩ (nat_lit 1798), .str ⟨⟨[nat_lit 79]⟩⟩ (nat_lit 1801), .str ⟨⟨[nat_lit 80]⟩⟩ (nat_lit 1804), .str ⟨⟨[nat_lit 81]⟩⟩ (nat_lit 1807), .str ⟨⟨[nat_lit 82]⟩⟩ (nat_lit 1810), .str ⟨⟨[nat_lit 83]⟩⟩ (nat_lit 1813), .str ⟨⟨[nat_lit 84]⟩⟩ (nat_lit 1816), .str ⟨⟨[nat_lit 85]⟩⟩ (nat_lit 1819), .str ⟨⟨[nat_lit 86]⟩⟩ (nat_lit 1822), .str ⟨⟨[nat_lit 87]⟩⟩ (nat_lit 1825), .str ⟨⟨[nat_lit 88]⟩⟩ (nat_lit 1828), .str ⟨⟨[nat_lit 89]⟩⟩ (nat_lit 1831), .str ⟨⟨[nat_lit 90]⟩⟩ (nat_lit 1834), .str ⟨⟨[nat_lit 91]⟩⟩ (nat_lit 1837), .str ⟨⟨[nat_lit 92]⟩⟩ (nat_lit 1840), .str ⟨⟨[nat_lit 93]⟩⟩ (nat_lit 1843), .str ⟨⟨[nat_lit 94]⟩⟩ (nat_lit 1846), .str ⟨⟨[nat_lit 95]⟩⟩ (nat_lit 1849), .str ⟨⟨[nat_lit 96]⟩⟩ (nat_lit 1852), .str ⟨⟨[nat_lit 97]⟩⟩ (nat_lit 1855), .str ⟨⟨[nat_lit 98]⟩⟩ (nat_lit 1858), .str ⟨⟨[nat_lit 99]⟩⟩ (nat_lit 1861), .str ⟨⟨[nat_lit 100]⟩⟩ (nat_lit 1864), .str ⟨⟨[nat_lit 101]⟩⟩ (nat_lit 1867), .str ⟨⟨[nat_lit 102]⟩⟩ (nat_lit 1870), .str ⟨⟨[nat_lit 103]⟩⟩ (nat_lit 1873), .str ⟨⟨[nat_lit 104]⟩⟩ (nat_lit 1876), .str ⟨⟨[nat_lit 105]⟩⟩ (nat_lit 1879), .str ⟨⟨[nat_lit 106]⟩⟩ (nat_lit 1882), .str ⟨⟨[nat_lit 107]⟩⟩ (nat_lit 1885), .str ⟨⟨[nat_lit 108]⟩⟩ (nat_lit 1888), .str ⟨⟨[nat_lit 109]⟩⟩ (nat_lit 1891), .str ⟨⟨[nat_lit 110]⟩⟩ (nat_lit 1894), .str ⟨⟨[nat_lit 111]⟩⟩ (nat_lit 1897), .str ⟨⟨[nat_lit 112]⟩⟩ (nat_lit 1900), .str ⟨⟨[nat_lit 113]⟩⟩ (nat_lit 1903), .str ⟨⟨[nat_lit 114]⟩⟩ (nat_lit 1906), .str ⟨⟨[nat_lit 115]⟩⟩ (nat_lit 1909), .str ⟨⟨[nat_lit 116]⟩⟩ (nat_lit 1912), .str ⟨⟨[nat_lit 117]⟩⟩ (nat_lit 1915), .str ⟨⟨[nat_lit 118]⟩⟩ (nat_lit 1918), .str ⟨⟨[nat_lit 119]⟩⟩ (nat_lit 1921), .str ⟨⟨[nat_lit 120]⟩⟩ (nat_lit 1924), .str ⟨⟨[nat_lit 121]⟩⟩ (nat_lit 1927), .str ⟨⟨[nat_lit 122]⟩⟩ (nat_lit 1930), .str ⟨⟨[nat_lit 123]⟩⟩ (nat_lit 1933), .str ⟨⟨[nat_lit 124]⟩⟩ (nat_lit 1936), .str ⟨⟨[nat_lit 125]⟩⟩ (nat_lit 1939), .str ⟨⟨[nat_lit 126]⟩⟩ (nat_lit 1942), .str hs.c185 (nat_lit 918), .str hs.c186 (nat_lit 922), .str hs.c187 (nat_lit 926), .str hs.c188 (nat_lit 930), .str hs.c189 (nat_lit 934), .str hs.c190 (nat_lit 938), .str hs.c191 (nat_lit 942), .str hs.c192 (nat_lit 946), .str hs.c193 (nat_lit 950), .str hs.c194 (nat_lit 954), .str hs.c195 (nat_lit 958), .str hs.c196 (nat_lit 962), .str hs.c197 (nat_lit 966), .str hs.c198 (nat_lit 970), .str hs.c199 (nat_lit 974), .str hs.c200 (nat_lit 978), .str hs.c201 (nat_lit 982), .str hs.c202 (nat_lit 986), .str hs.c203 (nat_lit 990), .str hs.c204 (nat_lit 994), .str hs.c205 (nat_lit 998), .str hs.c206 (nat_lit 1002), .str hs.c207 (nat_lit 1006), .str hs.c208 (nat_lit 1010), .str hs.c209 (nat_lit 1014), .str hs.c210 (nat_lit 1018), .str hs.c211 (nat_lit 1022), .str hs.c212 (nat_lit 1026), .str hs.c213 (nat_lit 1030), .str hs.c214 (nat_lit 1034), .str hs.c215 (nat_lit 1038), .str hs.c216 (nat_lit 1042), .str hs.c217 (nat_lit 1046), .str hs.c218 (nat_lit 1050), .str hs.c219 (nat_lit 1054), .str hs.c220 (nat_lit 1058), .str hs.c221 (nat_lit 1062), .str hs.c222 (nat_lit 1066), .str hs.c223 (nat_lit 1070), .str hs.c224 (nat_lit 1074), .str hs.c225 (nat_lit 1078), .str hs.c226 (nat_lit 1082), .str hs.c227 (nat_lit 1086), .str hs.c228 (nat_lit 1090), .str hs.c229 (nat_lit 1094), .str hs.c230 (nat_lit 1098), .str hs.c231 (nat_lit 1102), .str hs.c232 (nat_lit 1106), .str hs.c233 (nat_lit 1110), .str hs.c234 (nat_lit 1114), .str hs.c235 (nat_lit 1118), .str hs.c236 (nat_lit 1122), .str hs.c237 (nat_lit 1126), .str hs.c238 (nat_lit 1130), .str hs.c239 (nat_lit 1134), .str hs.c240 (nat_lit 1138), .str hs.c241 (nat_lit 1142), .str hs.c242 (nat_lit 1146), .str hs.c243 (nat_lit 1150), .str hs.c244 (nat_lit 1154), .str hs.c245 (nat_lit 1158), .str hs.c246 (nat_lit 1162), .str hs.c247 (nat_lit 1166), .str hs.c248 (nat_lit 1170), .str hs.c249 (nat_lit 1174), .str hs.c250 (nat_lit 1178), .str hs.c251 (nat_lit 1182), .str hs.c252 (nat_lit 1186), .str hs.c253 (nat_lit 1190), .str hs.c254 (nat_lit 1194), .str hs.c255 (nat_lit 1198), .str hs.c256 (nat_lit 1202), .str hs.c257 (nat_lit 1206), .str hs.c258 (nat_lit 1210), .str hs.c259 (nat_lit 1214), .str hs.c260 (nat_lit 1218), .str hs.c261 (nat_lit 1222), .str hs.c262 (nat_lit 1226), .str hs.c263 (nat_lit 1230), .str hs.c264 (nat_lit 1234), .str hs.c265 (nat_lit 1238), .str hs.c266 (nat_lit 1242), .str hs.c267 (nat_lit 1246), .str hs.c268 (nat_lit 1250), .str hs.c269 (nat_lit 1254), .str hs.c270 (nat_lit 1258), .str hs.c271 (nat_lit 1262), .str hs.c272 (nat_lit 1266), .str hs.c273 (nat_lit 1270), .str hs.c274 (nat_lit 1274), .str hs.c275 (nat_lit 1278), .str hs.c276 (nat_lit 1282), .str hs.c277 (nat_lit 1286), .str hs.c278 (nat_lit 1290), .str hs.c279 (nat_lit 1294), .str hs.c280 (nat_lit 1298), .str hs.c281 (nat_lit 1302), .str hs.c282 (nat_lit 1306), .str hs.c283 (nat_lit 1310), .str hs.c284 (nat_lit 1314), .str hs.c285 (nat_lit 1318), .str hs.c286 (nat_lit 1322), .str hs.c287 (nat_lit 1326), .str hs.c288 (nat_lit 1330), .str hs.c289 (nat_lit 1334), .str hs.c290 (nat_lit 1338), .str hs.c291 (nat_lit 1342), .str hs.c292 (nat_lit 1346), .str hs.c293 (nat_lit 1350), .str hs.c294 (nat_lit 1354), .str hs.c295 (nat_lit 1358), .str hs.c296 (nat_lit 1362), .str hs.c297 (nat_lit 1366), .str hs.c298 (nat_lit 1370), .str hs.c299 (nat_lit 1374), .str hs.c300 (nat_lit 1378), .str hs.c301 (nat_lit 1382), .str hs.c302 (nat_lit 1386), .str hs.c303 (nat_lit 1390), .str hs.c304 (nat_lit 1394), .str hs.c305 (nat_lit 1398), .str hs.c306 (nat_lit 1402), .str hs.c307 (nat_lit 1406), .str hs.c308 (nat_lit 1410), .str hs.c309 (nat_lit 1414), .str hs.c310 (nat_lit 1418), .str hs.c311 (nat_lit 1422), .str hs.c312 (nat_lit 1426), .str hs.c313 (nat_lit 1430)]⟩ (nat_lit 0), ⟨[]⟩⟩
noncomputable def hs.o124v0 (_ : Params) : Obj := ⟨.type "bytes_iterator", none, .fields ⟨[.none, .int (.ofNat (nat_lit 2)) (nat_lit 0)]⟩, ⟨[]⟩⟩
noncomputable def hs.o125v0 (_ : Params) : Obj := ⟨.type "tuple", none, .seq ⟨[]⟩ (nat_lit 0), ⟨[]⟩⟩
noncomputable def hs.o126v0 (_ : Params) : Obj := ⟨.type "StopIteration", none, .fields ⟨[.ref (nat_lit 125), .none, .none, .none, .bool false, .none]⟩, ⟨[]⟩⟩
noncomputable def hs.o127v0 (_ : Params) : Obj := ⟨.type "tuple", none, .seq ⟨[.str ⟨⟨[nat_lit 10]⟩⟩ (nat_lit 402)]⟩ (nat_lit 0), ⟨[]⟩⟩
noncomputable def hs.o128v0 (_ : Params) : Obj := ⟨.type "tuple", none, .seq ⟨[]⟩ (nat_lit 0), ⟨[]⟩⟩
noncomputable def hs.o129v0 (_ : Params) : Obj := ⟨.none, none, .fields ⟨[]⟩, ⟨[]⟩⟩
noncomputable def hs.o130v0 (_ : Params) : Obj := ⟨.type "tuple", none, .seq ⟨[.str hs.c337 (nat_lit 1981), .str ⟨⟨[nat_lit 101, nat_lit 111, nat_lit 108]⟩⟩ (nat_lit 1982), .str ⟨⟨[nat_lit 100, nat_lit 101, nat_lit 99, nat_lit 111, nat_lit 100, nat_lit 101, nat_lit 100]⟩⟩ (nat_lit 1983), .str ⟨⟨[nat_lit 108, nat_lit 105, nat_lit 110, nat_lit 101]⟩⟩ (nat_lit 1984), .str ⟨⟨[nat_lit 105]⟩⟩ (nat_lit 1985), .str ⟨⟨[nat_lit 110]⟩⟩ (nat_lit 1986), .str ⟨⟨[nat_lit 99]⟩⟩ (nat_lit 1987)]⟩ (nat_lit 0), ⟨[]⟩⟩
noncomputable def hs.o131v0 (_ : Params) : Obj := ⟨.type "tuple", none, .seq ⟨[]⟩ (nat_lit 0), ⟨[]⟩⟩
noncomputable def hs.o132v0 (_ : Params) : Obj := protoOf fo134
noncomputable def hs.o133v0 (_ : Params) : Obj := ⟨.type "code", none, .fields ⟨[.str hs.c331 (nat_lit 1978), .str hs.c331 (nat_lit 1979), .str hs.c13 (nat_lit 1980), .int (.ofNat (nat_lit 71)) (nat_lit 0), .int (.ofNat (nat_lit 2)) (nat_lit 0), .int (.ofNat (nat_lit 0)) (nat_lit 0), .int (.ofNat (nat_lit 0)) (nat_lit 0), .int (.ofNat (nat_lit 3)) (nat_lit 0), .ref (nat_lit 128), .bool true, .int (.ofNat (nat_lit 276)) (nat_lit 0), .ref (nat_lit 129), .none, .ref (nat_lit 130), .ref (nat_lit 131), .ref (nat_lit 132), .int (.ofNat (nat_lit 1988)) (nat_lit 0), .int (.ofNat (nat_lit 71)) (nat_lit 0), .str hs.c13 (nat_lit 1989)]⟩, ⟨[]⟩⟩
noncomputable def hs.o134v0 (_ : Params) : Obj := fo134
noncomputable def hs.o135v0 (_ : Params) : Obj := ⟨.type "tuple", none, .seq ⟨[]⟩ (nat_lit 0), ⟨[]⟩⟩
noncomputable def hs.o136v0 (_ : Params) : Obj := ⟨.none, none, .fields ⟨[]⟩, ⟨[]⟩⟩
noncomputable def hs.o137v0 (_ : Params) : Obj := ⟨.type "tuple", none, .seq ⟨[.str ⟨⟨[nat_lit 109, nat_lit 97, nat_lit 116, nat_lit 99, nat_lit 104]⟩⟩ (nat_lit 1994), .str ⟨⟨[nat_lit 115]⟩⟩ (nat_lit 1995)]⟩ (nat_lit 0), ⟨[]⟩⟩
noncomputable def hs.o138v0 (_ : Params) : Obj := ⟨.type "tuple", none, .seq ⟨[]⟩ (nat_lit 0), ⟨[]⟩⟩
noncomputable def hs.o139v0 (_ : Params) : Obj := protoOf fo141
noncomputable def hs.o140v0 (_ : Params) : Obj := ⟨.type "code", none, .fields ⟨[.str hs.c332 (nat_lit 1991), .str hs.c332 (nat_lit 1992), .str hs.c13 (nat_lit 1993), .int (.ofNat (nat_lit 101)) (nat_lit 0), .int (.ofNat (nat_lit 1)) (nat_lit 0), .int (.ofNat (nat_lit 0)) (nat_lit 0), .int (.ofNat (nat_lit 0)) (nat_lit 0), .int (.ofNat (nat_lit 3)) (nat_lit 0), .ref (nat_lit 135), .bool true, .int (.ofNat (nat_lit 276)) (nat_lit 0), .ref (nat_lit 136), .none, .ref (nat_lit 137), .ref (nat_lit 138), .ref (nat_lit 139), .int (.ofNat (nat_lit 1996)) (nat_lit 0), .int (.ofNat (nat_lit 101)) (nat_lit 0), .str hs.c13 (nat_lit 1997)]⟩, ⟨[]⟩⟩
noncomputable def hs.o141v0 (_ : Params) : Obj := fo141
noncomputable def hs.o142v0 (_ : Params) : Obj := ⟨.type "tuple", none, .seq ⟨[]⟩ (nat_lit 0), ⟨[]⟩⟩
noncomputable def hs.o143v0 (_ : Params) : Obj := ⟨.none, none, .fields ⟨[]⟩, ⟨[]⟩⟩
noncomputable def hs.o144v0 (_ : Params) : Obj := ⟨.type "tuple", none, .seq ⟨[.str ⟨⟨[nat_lit 115]⟩⟩ (nat_lit 2002)]⟩ (nat_lit 0), ⟨[]⟩⟩
noncomputable def hs.o145v0 (_ : Params) : Obj := ⟨.type "tuple", none, .seq ⟨[]⟩ (nat_lit 0), ⟨[]⟩⟩
noncomputable def hs.o146v0 (_ : Params) : Obj := protoOf fo148
noncomputable def hs.o147v0 (_ : Params) : Obj := ⟨.type "code", none, .fields ⟨[.str hs.c333 (nat_lit 1999), .str hs.c333 (nat_lit 2000), .str hs.c13 (nat_lit 2001), .int (.ofNat (nat_lit 104)) (nat_lit 0), .int (.ofNat (nat_lit 1)) (nat_lit 0), .int (.ofNat (nat_lit 0)) (nat_lit 0), .int (.ofNat (nat_lit 0)) (nat_lit 0), .int (.ofNat (nat_lit 3)) (nat_lit 0), .ref (nat_lit 142), .bool true, .int (.ofNat (nat_lit 276)) (nat_lit 0), .ref (nat_lit 143), .none, .ref (nat_lit 144), .ref (nat_lit 145), .ref (nat_lit 146), .int (.ofNat (nat_lit 2003)) (nat_lit 0), .int (.ofNat (nat_lit 104)) (nat_lit 0), .str hs.c13 (nat_lit 2004)]⟩, ⟨[]⟩⟩
noncomputable def hs.o148v0 (_ : Params) : Obj := fo148
noncomputable def hs.o149v0 (_ : Params) : Obj := ⟨.type "tuple", none, .seq ⟨[]⟩ (nat_lit 0), ⟨[]⟩⟩
noncomputable def hs.o150v0 (_ : Params) : Obj := ⟨.none, none, .fields ⟨[]⟩, ⟨[]⟩⟩
noncomputable def hs.o151v0 (_ : Params) : Obj := ⟨.type "tuple", none, .seq ⟨[.str ⟨⟨[nat_lit 110, nat_lit 117, nat_lit 109, nat_lit 98, nat_lit 101, nat_lit 114]⟩⟩ (nat_lit 2011), .str hs.c338 (nat_lit 2012), .str ⟨⟨[nat_lit 112, nat_lit 108, nat_lit 97, nat_lit 99, nat_lit 101]⟩⟩ (nat_lit 2013), .str ⟨⟨[nat_lit 102, nat_lit 105, nat_lit 103, nat_lit 117, nat_lit 114, nat_lit 101]⟩⟩ (nat_lit 2014)]⟩ (nat_lit 0), ⟨[]⟩⟩
noncomputable def hs.o152v0 (_ : Params) : Obj := ⟨.type "tuple", none, .seq ⟨[]⟩ (nat_lit 0), ⟨[]⟩⟩
noncomputable def hs.o153v0 (_ : Params) : Obj := protoOf fo155
noncomputable def hs.o154v0 (_ : Params) : Obj := ⟨.type "code", none, .fields ⟨[.str hs.c334 (nat_lit 2008), .str hs.c334 (nat_lit 2009), .str hs.c13 (nat_lit 2010), .int (.ofNat (nat_lit 108)) (nat_lit 0), .int (.ofNat (nat_lit 1)) (nat_lit 0), .int (.ofNat (nat_lit 0)) (nat_lit 0), .int (.ofNat (nat_lit 0)) (nat_lit 0), .int (.ofNat (nat_lit 3)) (nat_lit 0), .ref (nat_lit 149), .bool true, .int (.ofNat (nat_lit 276)) (nat_lit 0), .ref (nat_lit 150), .none, .ref (nat_lit 151), .ref (nat_lit 152), .ref (nat_lit 153), .int (.ofNat (nat_lit 2015)) (nat_lit 0), .int (.ofNat (nat_lit 108)) (nat_lit 0), .str hs.c13 (nat_lit 2016)]⟩, ⟨[]⟩⟩
noncomputable def hs.o155v0 (_ : Params) : Obj := fo155
noncomputable def hs.o156v0 (_ : Params) : Obj := ⟨.type "tuple", none, .seq ⟨[]⟩ (nat_lit 0), ⟨[]⟩⟩
noncomputable def hs.o157v0 (_ : Params) : Obj := ⟨.none, none, .fields ⟨[]⟩, ⟨[]⟩⟩
noncomputable def hs.o158v0 (_ : Params) : Obj := ⟨.type "tuple", none, .seq ⟨[.str ⟨⟨[nat_lit 107, nat_lit 105, nat_lit 110, nat_lit 100]⟩⟩ (nat_lit 2021), .str hs.c338 (nat_lit 2022), .str ⟨⟨[nat_lit 97, nat_lit 98, nat_lit 111, nat_lit 118, nat_lit 101]⟩⟩ (nat_lit 2023), .str ⟨⟨[nat_lit 115, nat_lit 101, nat_lit 99, nat_lit 111, nat_lit 110, nat_lit 100]⟩⟩ (nat_lit 2024), .str ⟨⟨[nat_lit 116, nat_lit 104, nat_lit 105, nat_lit 114, nat_lit 100]⟩⟩ (nat_lit 2025), .str ⟨⟨[nat_lit 102, nat_lit 111, nat_lit 117, nat_lit 114, nat_lit 116, nat_lit 104]⟩⟩ (nat_lit 2026)]⟩ (nat_lit 0), ⟨[]⟩⟩
noncomputable def hs.o159v0 (_ : Params) : Obj := ⟨.type "tuple", none, .seq ⟨[]⟩ (nat_lit 0), ⟨[]⟩⟩
noncomputable def hs.o160v0 (_ : Params) : Obj := protoOf fo162
noncomputable def hs.o161v0 (_ : Params) : Obj := ⟨.type "code", none, .fields ⟨[.str hs.c335 (nat_lit 2018), .str hs.c335 (nat_lit 2019), .str hs.c13 (nat_lit 2020), .int (.ofNat (nat_lit 115)) (nat_lit 0), .int (.ofNat (nat_lit 2)) (nat_lit 0), .int (.ofNat (nat_lit 0)) (nat_lit 0), .int (.ofNat (nat_lit 0)) (nat_lit 0), .int (.ofNat (nat_lit 3)) (nat_lit 0), .ref (nat_lit 156), .bool true, .int (.ofNat (nat_lit 276)) (nat_lit 0), .ref (nat_lit 157), .none, .ref (nat_lit 158), .ref (nat_lit 159), .ref (nat_lit 160), .int (.ofNat (nat_lit 2027)) (nat_lit 0), .int (.ofNat (nat_lit 115)) (nat_lit 0), .str hs.c13 (nat_lit 2028)]⟩, ⟨[]⟩⟩
noncomputable def hs.o162v0 (_ : Params) : Obj := fo162
noncomputable def hs.o163v0 (_ : Params) : Obj := ⟨.type "tuple", none, .seq ⟨[]⟩ (nat_lit 0), ⟨[]⟩⟩
noncomputable def hs.o164v0 (_ : Params) : Obj := ⟨.none, none, .fields ⟨[]⟩, ⟨[]⟩⟩
noncomputable def hs.o165v0 (_ : Params) : Obj := protoOf fo167
noncomputable def hs.o166v0 (_ : Params) : Obj := ⟨.type "code", none, .fields ⟨[.str hs.c336 (nat_lit 2030), .str hs.c336 (nat_lit 2031), .str hs.c13 (nat_lit 2032), .int (.ofNat (nat_lit 123)) (nat_lit 0), .int (.ofNat (nat_lit 1)) (nat_lit 0), .int (.ofNat (nat_lit 0)) (nat_lit 0), .int (.ofNat (nat_lit 0)) (nat_lit 0), .int (.ofNat (nat_lit 3)) (nat_lit 0), .ref (nat_lit 163), .bool true, .int (.ofNat (nat_lit 276)) (nat_lit 0), .ref (nat_lit 164), .none, .none, .none, .ref (nat_lit 165), .int (.ofNat (nat_lit 2033)) (nat_lit 0), .int (.ofNat (nat_lit 123)) (nat_lit 0), .str hs.c13 (nat_lit 2034)]⟩, ⟨[]⟩⟩
noncomputable def hs.o167v0 (_ : Params) : Obj := fo167
noncomputable def hs.t49 (P : Params) : BT := (.node (hs.o0v0 P) (.node (hs.o1v0 P) (.node (hs.o3v11 P) (.node (hs.o7v0 P) (.node (hs.o15v0 P) (.node (hs.o31v0 P) (.node (hs.o63v0 P) (.node (hs.o127v0 P) .nil .nil) .nil) (.node (hs.o95v0 P) (.node (hs.o159v0 P) .nil .nil) .nil)) (.node (hs.o47v0 P) (.node (hs.o79v0 P) (.node (hs.o143v0 P) .nil .nil) .nil) (.node (hs.o111v0 P) .nil .nil))) (.node (hs.o23v0 P) (.node (hs.o39v0 P) (.node (hs.o71v0 P) (.node (hs.o135v0 P) .nil .nil) .nil) (.node (hs.o103v0 P) (.node (hs.o167v0 P) .nil .nil) .nil)) (.node (hs.o55v0 P) (.node (hs.o87v5 P) (.node (hs.o151v0 P) .nil .nil) .nil) (.node (hs.o119v0 P) .nil .nil)))) (.node (hs.o11v0 P) (.node (hs.o19v0 P) (.node (hs.o35v0 P) (.node (hs.o67v0 P) (.node (hs.o131v0 P) .nil .nil) .nil) (.node (hs.o99v0 P) (.node (hs.o163v0 P) .nil .nil) .nil)) (.node (hs.o51v0 P) (.node (hs.o83v0 P) (.node (hs.o147v0 P) .nil .nil) .nil) (.node (hs.o115v0 P) .nil .nil))) (.node (hs.o27v0 P) (.node (hs.o43v0 P) (.node (hs.o75v0 P) (.node (hs.o139v0 P) .nil .nil) .nil) (.node (hs.o107v0 P) .nil .nil)) (.node (hs.o59v0 P) (.node (hs.o91v4 P) (.node (hs.o155v0 P) .nil .nil) .nil) (.node (hs.o123v0 P) .nil .nil))))) (.node (hs.o5v0 P) (.node (hs.o9v0 P) (.node (hs.o17v0 P) (.node (hs.o33v0 P) (.node (hs.o65v0 P) (.node (hs.o129v0 P) .nil .nil) .nil) (.node (hs.o97v4 P) (.node (hs.o161v0 P) .nil .nil) .nil)) (.node (hs.o49v0 P) (.node (hs.o81v0 P) (.node (hs.o145v0 P) .nil .nil) .nil) (.node (hs.o113v0 P) .nil .nil))) (.node (hs.o25v0 P) (.node (hs.o41v0 P) (.node (hs.o73v0 P) (.node (hs.o137v0 P) .nil .nil) .nil) (.node (hs.o105v0 P) .nil .nil)) (.node (hs.o57v0 P) (.node (hs.o89v0 P) (.node (hs.o153v0 P) .nil .nil) .nil) (.node (hs.o121v0 P) .nil .nil)))) (.node (hs.o13v0 P) (.node (hs.o21v0 P) (.node (hs.o37v0 P) (.node (hs.o69v0 P) (.node (hs.o133v0 P) .nil .nil) .nil) (.node (hs.o101v0 P) (.node (hs.o165v0 P) .nil .nil) .nil)) (.node (hs.o53v0 P) (.node (hs.o85v4 P) (.node (hs.o149v0 P) .nil .nil) .nil) (.node (hs.o117v0 P) .nil .nil))) (.node (hs.o29v2 P) (.node (hs.o45v0 P) (.node (hs.o77v0 P) (.node (hs.o141v0 P) .nil .nil) .nil) (.node (hs.o109v0 P) .nil .nil)) (.node (hs.o61v0 P) (.node (hs.o93v4 P) (.node (hs.o157v0 P) .nil .nil) .nil) (.node (hs.o125v0 P) .nil .nil)))))) (.node (hs.o2v0 P) (.node (hs.o4v0 P) (.node (hs.o8v0 P) (.node (hs.o16v0 P) (.node (hs.o32v0 P) (.node (hs.o64v0 P) (.node (hs.o128v0 P) .nil .nil) .nil) (.node (hs.o96v0 P) (.node (hs.o160v0 P) .nil .nil) .nil)) (.node (hs.o48v0 P) (.node (hs.o80v0 P) (.node (hs.o144v0 P) .nil .nil) .nil) (.node (hs.o112v0 P) .nil .nil))) (.node (hs.o24v0 P) (.node (hs.o40v0 P) (.node (hs.o72v0 P) (.node (hs.o136v0 P) .nil .nil) .nil) (.node (hs.o104v0 P) .nil .nil)) (.node (hs.o56v0 P) (.node (hs.o88v0 P) (.node (hs.o152v0 P) .nil .nil) .nil) (.node (hs.o120v0 P) .nil .nil)))) (.node (hs.o12v0 P) (.node (hs.o20v0 P) (.node (hs.o36v0 P) (.node (hs.o68v0 P) (.node (hs.o132v0 P) .nil .nil) .nil) (.node (hs.o100v0 P) (.node (hs.o164v0 P) .nil .nil) .nil)) (.node (hs.o52v0 P) (.node (hs.o84v0 P) (.node (hs.o148v0 P) .nil .nil) .nil) (.node (hs.o116v0 P) .nil .nil))) (.node (hs.o28v0 P) (.node (hs.o44v0 P) (.node (hs.o76v0 P) (.node (hs.o140v0 P) .nil .nil) .nil) (.node (hs.o108v0 P) .nil .nil)) (.node (hs.o60v0 P) (.node (hs.o92v0 P) (.node (hs.o156v0 P) .nil .nil) .nil) (.node (hs.o124v0 P) .nil .nil))))) (.node (hs.o6v0 P) (.node (hs.o10v0 P) (.node (hs.o18v0 P) (.node (hs.o34v0 P) (.node (hs.o66v0 P) (.node (hs.o130v0 P) .nil .nil) .nil) (.node (hs.o98v0 P) (.node (hs.o162v0 P) .nil .nil) .nil)) (.node (hs.o50v0 P) (.node (hs.o82v0 P) (.node (hs.o146v0 P) .nil .nil) .nil) (.node (hs.o114v0 P) .nil .nil))) (.node (hs.o26v0 P) (.node (hs.o42v0 P) (.node (hs.o74v0 P) (.node (hs.o138v0 P) .nil .nil) .nil) (.node (hs.o106v0 P) .nil .nil)) (.node (hs.o58v0 P) (.node (hs.o90v0 P) (.node (hs.o154v0 P) .nil .nil) .nil) (.node (hs.o122v0 P) .nil .nil)))) (.node (hs.o14v0 P) (.node (hs.o22v0 P) (.node (hs.o38v0 P) (.node (hs.o70v0 P) (.node (hs.o134v0 P) .nil .nil) .nil) (.node (hs.o102v0 P) (.node (hs.o166v0 P) .nil .nil) .nil)) (.node (hs.o54v0 P) (.node (hs.o86v4 P) (.node (hs.o150v0 P) .nil .nil) .nil) (.node (hs.o118v0 P) .nil .nil))) (.node (hs.o30v0 P) (.node (hs.o46v0 P) (.node (hs.o78v0 P) (.node (hs.o142v0 P) .nil .nil) .nil) (.node (hs.o110v0 P) .nil .nil)) (.node (hs.o62v0 P) (.node (hs.o94v3 P) (.node (hs.o158v0 P) .nil .nil) .nil) (.node (hs.o126v0 P) .nil .nil)))))))
noncomputable abbrev hs.s49 (w : World) (os : OsState) : SharedT := ⟨hs.t49 w.params, nat_lit 168, hs.life, ⟨[]⟩, ⟨nat_lit 0, nat_lit 0, nat_lit 0, nat_lit 0⟩, nat_lit 2036, os⟩
noncomputable def hs.tf (P : Params) : BT := (.node (hs.o0v0 P) (.node (hs.o1v0 P) (.node (hs.o3v11 P) (.node (hs.o7v0 P) (.node (hs.o15v0 P) (.node (hs.o31v0 P) (.node (hs.o63v0 P) (.node (hs.o127v0 P) .nil .nil) .nil) (.node (hs.o95v0 P) (.node (hs.o159v0 P) .nil .nil) .nil)) (.node (hs.o47v0 P) (.node (hs.o79v0 P) (.node (hs.o143v0 P) .nil .nil) .nil) (.node (hs.o111v0 P) .nil .nil))) (.node (hs.o23v0 P) (.node (hs.o39v0 P) (.node (hs.o71v0 P) (.node (hs.o135v0 P) .nil .nil) .nil) (.node (hs.o103v0 P) (.node (hs.o167v0 P) .nil .nil) .nil)) (.node (hs.o55v0 P) (.node (hs.o87v5 P) (.node (hs.o151v0 P) .nil .nil) .nil) (.node (hs.o119v0 P) .nil .nil)))) (.node (hs.o11v0 P) (.node (hs.o19v0 P) (.node (hs.o35v0 P) (.node (hs.o67v0 P) (.node (hs.o131v0 P) .nil .nil) .nil) (.node (hs.o99v0 P) (.node (hs.o163v0 P) .nil .nil) .nil)) (.node (hs.o51v0 P) (.node (hs.o83v0 P) (.node (hs.o147v0 P) .nil .nil) .nil) (.node (hs.o115v0 P) .nil .nil))) (.node (hs.o27v0 P) (.node (hs.o43v0 P) (.node (hs.o75v0 P) (.node (hs.o139v0 P) .nil .nil) .nil) (.node (hs.o107v0 P) .nil .nil)) (.node (hs.o59v0 P) (.node (hs.o91v4 P) (.node (hs.o155v0 P) .nil .nil) .nil) (.node (hs.o123v0 P) .nil .nil))))) (.node (hs.o5v0 P) (.node (hs.o9v0 P) (.node (hs.o17v0 P) (.node (hs.o33v0 P) (.node (hs.o65v0 P) (.node (hs.o129v0 P) .nil .nil) .nil) (.node (hs.o97v4 P) (.node (hs.o161v0 P) .nil .nil) .nil)) (.node (hs.o49v0 P) (.node (hs.o81v0 P) (.node (hs.o145v0 P) .nil .nil) .nil) (.node (hs.o113v0 P) .nil .nil))) (.node (hs.o25v0 P) (.node (hs.o41v0 P) (.node (hs.o73v0 P) (.node (hs.o137v0 P) .nil .nil) .nil) (.node (hs.o105v0 P) .nil .nil)) (.node (hs.o57v0 P) (.node (hs.o89v0 P) (.node (hs.o153v0 P) .nil .nil) .nil) (.node (hs.o121v0 P) .nil .nil)))) (.node (hs.o13v0 P) (.node (hs.o21v0 P) (.node (hs.o37v0 P) (.node (hs.o69v0 P) (.node (hs.o133v0 P) .nil .nil) .nil) (.node (hs.o101v0 P) (.node (hs.o165v0 P) .nil .nil) .nil)) (.node (hs.o53v0 P) (.node (hs.o85v4 P) (.node (hs.o149v0 P) .nil .nil) .nil) (.node (hs.o117v0 P) .nil .nil))) (.node (hs.o29v2 P) (.node (hs.o45v0 P) (.node (hs.o77v0 P) (.node (hs.o141v0 P) .nil .nil) .nil) (.node (hs.o109v0 P) .nil .nil)) (.node (hs.o61v0 P) (.node (hs.o93v4 P) (.node (hs.o157v0 P) .nil .nil) .nil) (.node (hs.o125v0 P) .nil .nil)))))) (.node (hs.o2v0 P) (.node (hs.o4v0 P) (.node (hs.o8v0 P) (.node (hs.o16v0 P) (.node (hs.o32v0 P) (.node (hs.o64v0 P) (.node (hs.o128v0 P) .nil .nil) .nil) (.node (hs.o96v0 P) (.node (hs.o160v0 P) .nil .nil) .nil)) (.node (hs.o48v0 P) (.node (hs.o80v0 P) (.node (hs.o144v0 P) .nil .nil) .nil) (.node (hs.o112v0 P) .nil .nil))) (.node (hs.o24v0 P) (.node (hs.o40v0 P) (.node (hs.o72v0 P) (.node (hs.o136v0 P) .nil .nil) .nil) (.node (hs.o104v0 P) .nil .nil)) (.node (hs.o56v0 P) (.node (hs.o88v0 P) (.node (hs.o152v0 P) .nil .nil) .nil) (.node (hs.o120v0 P) .nil .nil)))) (.node (hs.o12v0 P) (.node (hs.o20v0 P) (.node (hs.o36v0 P) (.node (hs.o68v0 P) (.node (hs.o132v0 P) .nil .nil) .nil) (.node (hs.o100v0 P) (.node (hs.o164v0 P) .nil .nil) .nil)) (.node (hs.o52v0 P) (.node (hs.o84v0 P) (.node (hs.o148v0 P) .nil .nil) .nil) (.node (hs.o116v0 P) .nil .nil))) (.node (hs.o28v0 P) (.node (hs.o44v0 P) (.node (hs.o76v0 P) (.node (hs.o140v0 P) .nil .nil) .nil) (.node (hs.o108v0 P) .nil .nil)) (.node (hs.o60v0 P) (.node (hs.o92v0 P) (.node (hs.o156v0 P) .nil .nil) .nil) (.node (hs.o124v0 P) .nil .nil))))) (.node (hs.o6v0 P) (.node (hs.o10v0 P) (.node (hs.o18v0 P) (.node (hs.o34v0 P) (.node (hs.o66v0 P) (.node (hs.o130v0 P) .nil .nil) .nil) (.node (hs.o98v0 P) (.node (hs.o162v0 P) .nil .nil) .nil)) (.node (hs.o50v0 P) (.node (hs.o82v0 P) (.node (hs.o146v0 P) .nil .nil) .nil) (.node (hs.o114v0 P) .nil .nil))) (.node (hs.o26v0 P) (.node (hs.o42v0 P) (.node (hs.o74v0 P) (.node (hs.o138v0 P) .nil .nil) .nil) (.node (hs.o106v0 P) .nil .nil)) (.node (hs.o58v0 P) (.node (hs.o90v0 P) (.node (hs.o154v0 P) .nil .nil) .nil) (.node (hs.o122v0 P) .nil .nil)))) (.node (hs.o14v0 P) (.node (hs.o22v0 P) (.node (hs.o38v0 P) (.node (hs.o70v0 P) (.node (hs.o134v0 P) .nil .nil) .nil) (.node (hs.o102v0 P) (.node (hs.o166v0 P) .nil .nil) .nil)) (.node (hs.o54v0 P) (.node (hs.o86v4 P) (.node (hs.o150v0 P) .nil .nil) .nil) (.node (hs.o118v0 P) .nil .nil))) (.node (hs.o30v0 P) (.node (hs.o46v0 P) (.node (hs.o78v0 P) (.node (hs.o142v0 P) .nil .nil) .nil) (.node (hs.o110v0 P) .nil .nil)) (.node (hs.o62v0 P) (.node (hs.o94v3 P) (.node (hs.o158v0 P) .nil .nil) .nil) (.node (hs.o126v0 P) .nil .nil)))))))
noncomputable abbrev hs.sf (w : World) (os : OsState) : SharedT := ⟨hs.tf w.params, nat_lit 168, hs.life, ⟨[]⟩, ⟨nat_lit 0, nat_lit 0, nat_lit 0, nat_lit 0⟩, nat_lit 2036, os⟩
noncomputable def hs.hf (P : Params) : Heap := ⟨⟨[hs.o0v0 P, hs.o1v0 P, hs.o2v0 P, hs.o3v11 P, hs.o4v0 P, hs.o5v0 P, hs.o6v0 P, hs.o7v0 P, hs.o8v0 P, hs.o9v0 P, hs.o10v0 P, hs.o11v0 P, hs.o12v0 P, hs.o13v0 P, hs.o14v0 P, hs.o15v0 P, hs.o16v0 P, hs.o17v0 P, hs.o18v0 P, hs.o19v0 P, hs.o20v0 P, hs.o21v0 P, hs.o22v0 P, hs.o23v0 P, hs.o24v0 P, hs.o25v0 P, hs.o26v0 P, hs.o27v0 P, hs.o28v0 P, hs.o29v2 P, hs.o30v0 P, hs.o31v0 P, hs.o32v0 P, hs.o33v0 P, hs.o34v0 P, hs.o35v0 P, hs.o36v0 P, hs.o37v0 P, hs.o38v0 P, hs.o39v0 P, hs.o40v0 P, hs.o41v0 P, hs.o42v0 P, hs.o43v0 P, hs.o44v0 P, hs.o45v0 P, hs.o46v0 P, hs.o47v0 P, hs.o48v0 P, hs.o49v0 P, hs.o50v0 P, hs.o51v0 P, hs.o52v0 P, hs.o53v0 P, hs.o54v0 P, hs.o55v0 P, hs.o56v0 P, hs.o57v0 P, hs.o58v0 P, hs.o59v0 P, hs.o60v0 P, hs.o61v0 P, hs.o62v0 P, hs.o63v0 P, hs.o64v0 P, hs.o65v0 P, hs.o66v0 P, hs.o67v0 P, hs.o68v0 P, hs.o69v0 P, hs.o70v0 P, hs.o71v0 P, hs.o72v0 P, hs.o73v0 P, hs.o74v0 P, hs.o75v0 P, hs.o76v0 P, hs.o77v0 P, hs.o78v0 P, hs.o79v0 P, hs.o80v0 P, hs.o81v0 P, hs.o82v0 P, hs.o83v0 P, hs.o84v0 P, hs.o85v4 P, hs.o86v4 P, hs.o87v5 P, hs.o88v0 P, hs.o89v0 P, hs.o90v0 P, hs.o91v4 P, hs.o92v0 P, hs.o93v4 P, hs.o94v3 P, hs.o95v0 P, hs.o96v0 P, hs.o97v4 P, hs.o98v0 P, hs.o99v0 P, hs.o100v0 P, hs.o101v0 P, hs.o102v0 P, hs.o103v0 P, hs.o104v0 P, hs.o105v0 P, hs.o106v0 P, hs.o107v0 P, hs.o108v0 P, hs.o109v0 P, hs.o110v0 P, hs.o111v0 P, hs.o112v0 P, hs.o113v0 P, hs.o114v0 P, hs.o115v0 P, hs.o116v0 P, hs.o117v0 P, hs.o118v0 P, hs.o119v0 P, hs.o120v0 P, hs.o121v0 P, hs.o122v0 P, hs.o123v0 P, hs.o124v0 P, hs.o125v0 P, hs.o126v0 P, hs.o127v0 P, hs.o128v0 P, hs.o129v0 P, hs.o130v0 P, hs.o131v0 P, hs.o132v0 P, hs.o133v0 P, hs.o134v0 P, hs.o135v0 P, hs.o136v0 P, hs.o137v0 P, hs.o138v0 P, hs.o139v0 P, hs.o140v0 P, hs.o141v0 P, hs.o142v0 P, hs.o143v0 P, hs.o144v0 P, hs.o145v0 P, hs.o146v0 P, hs.o147v0 P, hs.o148v0 P, hs.o149v0 P, hs.o150v0 P, hs.o151v0 P, hs.o152v0 P, hs.o153v0 P, hs.o154v0 P, hs.o155v0 P, hs.o156v0 P, hs.o157v0 P, hs.o158v0 P, hs.o159v0 P, hs.o160v0 P, hs.o161v0 P, hs.o162v0 P, hs.o163v0 P, hs.o164v0 P, hs.o165v0 P, hs.o166v0 P, hs.o167v0 P]⟩, hs.life⟩
abbrev hs.pp : Pos := ⟨nat_lit 0, nat_lit 0, nat_lit 0, nat_lit 0⟩
abbrev hs.pb : Pos := ⟨nat_lit 0, nat_lit 0, nat_lit 0, nat_lit 0⟩
abbrev hs.pq : Pos := ⟨nat_lit 0, nat_lit 0, nat_lit 0, nat_lit 0⟩
abbrev hs.p24 : Pos := ⟨nat_lit 43, nat_lit 0, nat_lit 43, nat_lit 2⟩
abbrev hs.pB1 : Pos := ⟨nat_lit 44, nat_lit 36, nat_lit 44, nat_lit 46⟩
abbrev hs.pB2 : Pos := ⟨nat_lit 44, nat_lit 15, nat_lit 44, nat_lit 26⟩
abbrev hs.pB3 : Pos := ⟨nat_lit 44, nat_lit 15, nat_lit 44, nat_lit 26⟩
abbrev hs.pB4 : Pos := ⟨nat_lit 44, nat_lit 15, nat_lit 44, nat_lit 26⟩
abbrev hs.pB5 : Pos := ⟨nat_lit 44, nat_lit 15, nat_lit 44, nat_lit 26⟩
abbrev hs.p25 : Pos := ⟨nat_lit 44, nat_lit 0, nat_lit 44, nat_lit 11⟩
abbrev hs.p33 : Pos := ⟨nat_lit 52, nat_lit 0, nat_lit 52, nat_lit 8⟩
abbrev hs.pC1 : Pos := ⟨nat_lit 54, nat_lit 4, nat_lit 54, nat_lit 25⟩
abbrev hs.pC2 : Pos := ⟨nat_lit 54, nat_lit 4, nat_lit 54, nat_lit 25⟩
abbrev hs.pC3 : Pos := ⟨nat_lit 54, nat_lit 4, nat_lit 54, nat_lit 25⟩
abbrev hs.p34 : Pos := ⟨nat_lit 53, nat_lit 9, nat_lit 53, nat_lit 74⟩
abbrev hs.p35 : Pos := ⟨nat_lit 55, nat_lit 0, nat_lit 55, nat_lit 28⟩
abbrev hs.pD1 : Pos := ⟨nat_lit 57, nat_lit 4, nat_lit 57, nat_lit 23⟩
abbrev hs.pD2 : Pos := ⟨nat_lit 57, nat_lit 4, nat_lit 57, nat_lit 23⟩
abbrev hs.pD3 : Pos := ⟨nat_lit 57, nat_lit 4, nat_lit 57, nat_lit 23⟩
abbrev hs.pD4 : Pos := ⟨nat_lit 57, nat_lit 4, nat_lit 57, nat_lit 23⟩
abbrev hs.p36 : Pos := ⟨nat_lit 56, nat_lit 9, nat_lit 56, nat_lit 110⟩
abbrev hs.p49 : Pos := ⟨nat_lit 123, nat_lit 0, nat_lit 157, nat_lit 15⟩
-- code .ref (nat_lit 30) frame 31 ann (some (.ref (nat_lit 6))) m0 28
end Mine188
end
section
open PySem PySem.W PySem.Spec PySem.Calls PyProof.Rows
set_option maxRecDepth 100000
set_option maxHeartbeats 0

namespace Mine188
noncomputable abbrev hs.env (p : Program) : Env := { scope := p.main.scope, locals := mainNs, globals := mainNs, cells := [], code := .ref (nat_lit 30), frame := some (nat_lit 31) }
noncomputable abbrev hs.cE (p : Program) : Code := .body (behindTheImports p) (hs.env p)
abbrev hs.B : List Frame := [topFrame hs.pq]
abbrev hs.ann : Option Value := some (.ref (nat_lit 6))
noncomputable def hs.cut (p : Program) (a n : Nat) : List Stmt := ((behindTheImports p).drop a).take n
def hs.retK : Option (SharedT × Thread) → Result → Sem Fin
  | some (_, ⟨_, _, _, .ret k _ _ _ _ _ _ :: _⟩) => k
  | _ => fun _ => .unsupported "no frame"
noncomputable abbrev hs.th (den : Code → Sem Fin) (L : Code) (k : Result → Sem Fin) (g : Bool) (l : List Value) (c : Code) (p q : Pos) : Thread := ⟨den L, L, p, [.ret k none g l c q [], topFrame hs.pq]⟩
def EqA (w : World) : Prop := ∀ os : OsState, segRunT treeTable PySem.Challenge.pw_ny0188_01 w (nat_lit 28) hs.ann (nat_lit 1) (nat_lit 600) (hs.sb w os) (piecesOf (hs.cut PySem.Challenge.pw_ny0188_01 0 25) (hs.env PySem.Challenge.pw_ny0188_01) (hs.cE PySem.Challenge.pw_ny0188_01) hs.pb hs.B) = some (.next, hs.s24 w os, hs.cE PySem.Challenge.pw_ny0188_01, hs.p24)
theorem pcA (w : World) : EqA w := by
  intro os
  rw [PySem.W.Fast.te10110043849684766642, PySem.W.Fast.te14364793385576792824]
  kernel_rfl
end Mine188
end
section
open PySem PySem.W PySem.Spec PySem.Calls PyProof.Rows
set_option maxRecDepth 100000
set_option maxHeartbeats 0
namespace Mine188
noncomputable def hs.loopB (p : Program) : Code := match hs.cut p 25 1 with
  | [.Assign _ (.ListComp a b sc q) _] => .compLoop (.ListComp a b sc q) (nat_lit 0) (.ref (nat_lit 85)) (.ref (nat_lit 86)) { scope := sc, locals := nat_lit 87, globals := nat_lit 3, cells := [], code := .ref (nat_lit 30), frame := some (nat_lit 31) }
  | _ => .block [] (hs.env p)
theorem pcB0_ff (w : World) (os : OsState) : segGoT treeTable PySem.Challenge.pw_ny0188_01 ((w.withFollow "comprehension-iter-twice" false).withFollow "special-get-raises" false) (nat_lit 28) hs.ann (nat_lit 1) (nat_lit 52) (hs.s24 ((w.withFollow "comprehension-iter-twice" false).withFollow "special-get-raises" false) os) (piecesOf (hs.cut PySem.Challenge.pw_ny0188_01 25 1) (hs.env PySem.Challenge.pw_ny0188_01) (hs.cE PySem.Challenge.pw_ny0188_01) hs.p24 hs.B) = some (hs.sB1 ((w.withFollow "comprehension-iter-twice" false).withFollow "special-get-raises" false) os, (hs.th (denote treeTable) (hs.loopB PySem.Challenge.pw_ny0188_01) (hs.retK (segGoT treeTable PySem.Challenge.pw_ny0188_01 ((w.withFollow "comprehension-iter-twice" false).withFollow "special-get-raises" false) (nat_lit 28) hs.ann (nat_lit 1) (nat_lit 52) (hs.s24 ((w.withFollow "comprehension-iter-twice" false).withFollow "special-get-raises" false) os) (piecesOf (hs.cut PySem.Challenge.pw_ny0188_01 25 1) (hs.env PySem.Challenge.pw_ny0188_01) (hs.cE PySem.Challenge.pw_ny0188_01) hs.p24 hs.B))) true [.ref (nat_lit 87), .ref (nat_lit 86)] (hs.cE PySem.Challenge.pw_ny0188_01) hs.pB1 hs.pB1)) := by
  rw [PySem.W.Fast.te10295753902157049106, PySem.W.Fast.te11892475500146522536, PySem.W.Fast.te14364793385576792824]
  kernel_rfl
theorem pcB0_ft (w : World) (os : OsState) : segGoT treeTable PySem.Challenge.pw_ny0188_01 ((w.withFollow "comprehension-iter-twice" false).withFollow "special-get-raises" true) (nat_lit 28) hs.ann (nat_lit 1) (nat_lit 52) (hs.s24 ((w.withFollow "comprehension-iter-twice" false).withFollow "special-get-raises" true) os) (piecesOf (hs.cut PySem.Challenge.pw_ny0188_01 25 1) (hs.env PySem.Challenge.pw_ny0188_01) (hs.cE PySem.Challenge.pw_ny0188_01) hs.p24 hs.B) = some (hs.sB1 ((w.withFollow "comprehension-iter-twice" false).withFollow "special-get-raises" true) os, (hs.th (denote treeTable) (hs.loopB PySem.Challenge.pw_ny0188_01) (hs.retK (segGoT treeTable PySem.Challenge.pw_ny0188_01 ((w.withFollow "comprehension-iter-twice" false).withFollow "special-get-raises" true) (nat_lit 28) hs.ann (nat_lit 1) (nat_lit 52) (hs.s24 ((w.withFollow "comprehension-iter-twice" false).withFollow "special-get-raises" true) os) (piecesOf (hs.cut PySem.Challenge.pw_ny0188_01 25 1) (hs.env PySem.Challenge.pw_ny0188_01) (hs.cE PySem.Challenge.pw_ny0188_01) hs.p24 hs.B))) true [.ref (nat_lit 87), .ref (nat_lit 86)] (hs.cE PySem.Challenge.pw_ny0188_01) hs.pB1 hs.pB1)) := by
  rw [PySem.W.Fast.te10295753902157049106, PySem.W.Fast.te11892475500146522536, PySem.W.Fast.te14364793385576792824]
  kernel_rfl
theorem pcB0_tf (w : World) (os : OsState) : segGoT treeTable PySem.Challenge.pw_ny0188_01 ((w.withFollow "comprehension-iter-twice" true).withFollow "special-get-raises" false) (nat_lit 28) hs.ann (nat_lit 1) (nat_lit 42) (hs.s24 ((w.withFollow "comprehension-iter-twice" true).withFollow "special-get-raises" false) os) (piecesOf (hs.cut PySem.Challenge.pw_ny0188_01 25 1) (hs.env PySem.Challenge.pw_ny0188_01) (hs.cE PySem.Challenge.pw_ny0188_01) hs.p24 hs.B) = some (hs.sB1 ((w.withFollow "comprehension-iter-twice" true).withFollow "special-get-raises" false) os, (hs.th (denote treeTable) (hs.loopB PySem.Challenge.pw_ny0188_01) (hs.retK (segGoT treeTable PySem.Challenge.pw_ny0188_01 ((w.withFollow "comprehension-iter-twice" true).withFollow "special-get-raises" false) (nat_lit 28) hs.ann (nat_lit 1) (nat_lit 42) (hs.s24 ((w.withFollow "comprehension-iter-twice" true).withFollow "special-get-raises" false) os) (piecesOf (hs.cut PySem.Challenge.pw_ny0188_01 25 1) (hs.env PySem.Challenge.pw_ny0188_01) (hs.cE PySem.Challenge.pw_ny0188_01) hs.p24 hs.B))) true [.ref (nat_lit 87), .ref (nat_lit 86)] (hs.cE PySem.Challenge.pw_ny0188_01) hs.pB1 hs.pB1)) := by
  rw [PySem.W.Fast.te10295753902157049106, PySem.W.Fast.te11892475500146522536, PySem.W.Fast.te14364793385576792824]
  kernel_rfl
theorem pcB0_tt (w : World) (os : OsState) : segGoT treeTable PySem.Challenge.pw_ny0188_01 ((w.withFollow "comprehension-iter-twice" true).withFollow "special-get-raises" true) (nat_lit 28) hs.ann (nat_lit 1) (nat_lit 42) (hs.s24 ((w.withFollow "comprehension-iter-twice" true).withFollow "special-get-raises" true) os) (piecesOf (hs.cut PySem.Challenge.pw_ny0188_01 25 1) (hs.env PySem.Challenge.pw_ny0188_01) (hs.cE PySem.Challenge.pw_ny0188_01) hs.p24 hs.B) = some (hs.sB1 ((w.withFollow "comprehension-iter-twice" true).withFollow "special-get-raises" true) os, (hs.th (denote treeTable) (hs.loopB PySem.Challenge.pw_ny0188_01) (hs.retK (segGoT treeTable PySem.Challenge.pw_ny0188_01 ((w.withFollow "comprehension-iter-twice" true).withFollow "special-get-raises" true) (nat_lit 28) hs.ann (nat_lit 1) (nat_lit 42) (hs.s24 ((w.withFollow "comprehension-iter-twice" true).withFollow "special-get-raises" true) os) (piecesOf (hs.cut PySem.Challenge.pw_ny0188_01 25 1) (hs.env PySem.Challenge.pw_ny0188_01) (hs.cE PySem.Challenge.pw_ny0188_01) hs.p24 hs.B))) true [.ref (nat_lit 87), .ref (nat_lit 86)] (hs.cE PySem.Challenge.pw_ny0188_01) hs.pB1 hs.pB1)) := by
  rw [PySem.W.Fast.te10295753902157049106, PySem.W.Fast.te11892475500146522536, PySem.W.Fast.te14364793385576792824]
  kernel_rfl
theorem pcB1 (w : World) (os : OsState) (k : Result → Sem Fin) : segGoT treeTable PySem.Challenge.pw_ny0188_01 w (nat_lit 28) hs.ann (nat_lit 1) (nat_lit 2368) (hs.sB1 w os) (hs.th (denote treeTable) (hs.loopB PySem.Challenge.pw_ny0188_01) k true [.ref (nat_lit 87), .ref (nat_lit 86)] (hs.cE PySem.Challenge.pw_ny0188_01) hs.pB1 hs.pB1) = some (hs.sB2 w os, (hs.th (denote treeTable) (hs.loopB PySem.Challenge.pw_ny0188_01) k true [.ref (nat_lit 87), .ref (nat_lit 86)] (hs.cE PySem.Challenge.pw_ny0188_01) hs.pB2 hs.pB1)) := by
  rw [PySem.W.Fast.te10295753902157049106, PySem.W.Fast.te11892475500146522536, PySem.W.Fast.te14364793385576792824]
  kernel_rfl
theorem pcB2 (w : World) (os : OsState) (k : Result → Sem Fin) : segGoT treeTable PySem.Challenge.pw_ny0188_01 w (nat_lit 28) hs.ann (nat_lit 1) (nat_lit 2368) (hs.sB2 w os) (hs.th (denote treeTable) (hs.loopB PySem.Challenge.pw_ny0188_01) k true [.ref (nat_lit 87), .ref (nat_lit 86)] (hs.cE PySem.Challenge.pw_ny0188_01) hs.pB2 hs.pB1) = some (hs.sB3 w os, (hs.th (denote treeTable) (hs.loopB PySem.Challenge.pw_ny0188_01) k true [.ref (nat_lit 87), .ref (nat_lit 86)] (hs.cE PySem.Challenge.pw_ny0188_01) hs.pB3 hs.pB1)) := by
  rw [PySem.W.Fast.te10295753902157049106, PySem.W.Fast.te11892475500146522536, PySem.W.Fast.te14364793385576792824]
  kernel_rfl
theorem pcB3 (w : World) (os : OsState) (k : Result → Sem Fin) : segGoT treeTable PySem.Challenge.pw_ny0188_01 w (nat_lit 28) hs.ann (nat_lit 1) (nat_lit 2368) (hs.sB3 w os) (hs.th (denote treeTable) (hs.loopB PySem.Challenge.pw_ny0188_01) k true [.ref (nat_lit 87), .ref (nat_lit 86)] (hs.cE PySem.Challenge.pw_ny0188_01) hs.pB3 hs.pB1) = some (hs.sB4 w os, (hs.th (denote treeTable) (hs.loopB PySem.Challenge.pw_ny0188_01) k true [.ref (nat_lit 87), .ref (nat_lit 86)] (hs.cE PySem.Challenge.pw_ny0188_01) hs.pB4 hs.pB1)) := by
  rw [PySem.W.Fast.te10295753902157049106, PySem.W.Fast.te11892475500146522536, PySem.W.Fast.te14364793385576792824]
  kernel_rfl
theorem pcB4 (w : World) (os : OsState) (k : Result → Sem Fin) : segGoT treeTable PySem.Challenge.pw_ny0188_01 w (nat_lit 28) hs.ann (nat_lit 1) (nat_lit 2368) (hs.sB4 w os) (hs.th (denote treeTable) (hs.loopB PySem.Challenge.pw_ny0188_01) k true [.ref (nat_lit 87), .ref (nat_lit 86)] (hs.cE PySem.Challenge.pw_ny0188_01) hs.pB4 hs.pB1) = some (hs.sB5 w os, (hs.th (denote treeTable) (hs.loopB PySem.Challenge.pw_ny0188_01) k true [.ref (nat_lit 87), .ref (nat_lit 86)] (hs.cE PySem.Challenge.pw_ny0188_01) hs.pB5 hs.pB1)) := by
  rw [PySem.W.Fast.te10295753902157049106, PySem.W.Fast.te11892475500146522536, PySem.W.Fast.te14364793385576792824]
  kernel_rfl
theorem pcB9_ff (w : World) (os : OsState) : segRunT treeTable PySem.Challenge.pw_ny0188_01 ((w.withFollow "comprehension-iter-twice" false).withFollow "special-get-raises" false) (nat_lit 28) hs.ann (nat_lit 1) (nat_lit 36) (hs.sB5 ((w.withFollow "comprehension-iter-twice" false).withFollow "special-get-raises" false) os) (hs.th (denote treeTable) (hs.loopB PySem.Challenge.pw_ny0188_01) (hs.retK (segGoT treeTable PySem.Challenge.pw_ny0188_01 ((w.withFollow "comprehension-iter-twice" false).withFollow "special-get-raises" false) (nat_lit 28) hs.ann (nat_lit 1) (nat_lit 52) (hs.s24 ((w.withFollow "comprehension-iter-twice" false).withFollow "special-get-raises" false) os) (piecesOf (hs.cut PySem.Challenge.pw_ny0188_01 25 1) (hs.env PySem.Challenge.pw_ny0188_01) (hs.cE PySem.Challenge.pw_ny0188_01) hs.p24 hs.B))) true [.ref (nat_lit 87), .ref (nat_lit 86)] (hs.cE PySem.Challenge.pw_ny0188_01) hs.pB5 hs.pB1) = some (.next, hs.s25 ((w.withFollow "comprehension-iter-twice" false).withFollow "special-get-raises" false) os, hs.cE PySem.Challenge.pw_ny0188_01, hs.p25) := by
  rw [PySem.W.Fast.te10110043849684766642, PySem.W.Fast.te10295753902157049106, PySem.W.Fast.te11892475500146522536, PySem.W.Fast.te14364793385576792824]
  kernel_rfl
theorem pcB9_ft (w : World) (os : OsState) : segRunT treeTable PySem.Challenge.pw_ny0188_01 ((w.withFollow "comprehension-iter-twice" false).withFollow "special-get-raises" true) (nat_lit 28) hs.ann (nat_lit 1) (nat_lit 36) (hs.sB5 ((w.withFollow "comprehension-iter-twice" false).withFollow "special-get-raises" true) os) (hs.th (denote treeTable) (hs.loopB PySem.Challenge.pw_ny0188_01) (hs.retK (segGoT treeTable PySem.Challenge.pw_ny0188_01 ((w.withFollow "comprehension-iter-twice" false).withFollow "special-get-raises" true) (nat_lit 28) hs.ann (nat_lit 1) (nat_lit 52) (hs.s24 ((w.withFollow "comprehension-iter-twice" false).withFollow "special-get-raises" true) os) (piecesOf (hs.cut PySem.Challenge.pw_ny0188_01 25 1) (hs.env PySem.Challenge.pw_ny0188_01) (hs.cE PySem.Challenge.pw_ny0188_01) hs.p24 hs.B))) true [.ref (nat_lit 87), .ref (nat_lit 86)] (hs.cE PySem.Challenge.pw_ny0188_01) hs.pB5 hs.pB1) = some (.next, hs.s25 ((w.withFollow "comprehension-iter-twice" false).withFollow "special-get-raises" true) os, hs.cE PySem.Challenge.pw_ny0188_01, hs.p25) := by
  rw [PySem.W.Fast.te10110043849684766642, PySem.W.Fast.te10295753902157049106, PySem.W.Fast.te11892475500146522536, PySem.W.Fast.te14364793385576792824]
  kernel_rfl
theorem pcB9_tf (w : World) (os : OsState) : segRunT treeTable PySem.Challenge.pw_ny0188_01 ((w.withFollow "comprehension-iter-twice" true).withFollow "special-get-raises" false) (nat_lit 28) hs.ann (nat_lit 1) (nat_lit 46) (hs.sB5 ((w.withFollow "comprehension-iter-twice" true).withFollow "special-get-raises" false) os) (hs.th (denote treeTable) (hs.loopB PySem.Challenge.pw_ny0188_01) (hs.retK (segGoT treeTable PySem.Challenge.pw_ny0188_01 ((w.withFollow "comprehension-iter-twice" true).withFollow "special-get-raises" false) (nat_lit 28) hs.ann (nat_lit 1) (nat_lit 42) (hs.s24 ((w.withFollow "comprehension-iter-twice" true).withFollow "special-get-raises" false) os) (piecesOf (hs.cut PySem.Challenge.pw_ny0188_01 25 1) (hs.env PySem.Challenge.pw_ny0188_01) (hs.cE PySem.Challenge.pw_ny0188_01) hs.p24 hs.B))) true [.ref (nat_lit 87), .ref (nat_lit 86)] (hs.cE PySem.Challenge.pw_ny0188_01) hs.pB5 hs.pB1) = some (.next, hs.s25 ((w.withFollow "comprehension-iter-twice" true).withFollow "special-get-raises" false) os, hs.cE PySem.Challenge.pw_ny0188_01, hs.p25) := by
  rw [PySem.W.Fast.te10110043849684766642, PySem.W.Fast.te10295753902157049106, PySem.W.Fast.te11892475500146522536, PySem.W.Fast.te14364793385576792824]
  kernel_rfl
theorem pcB9_tt (w : World) (os : OsState) : segRunT treeTable PySem.Challenge.pw_ny0188_01 ((w.withFollow "comprehension-iter-twice" true).withFollow "special-get-raises" true) (nat_lit 28) hs.ann (nat_lit 1) (nat_lit 46) (hs.sB5 ((w.withFollow "comprehension-iter-twice" true).withFollow "special-get-raises" true) os) (hs.th (denote treeTable) (hs.loopB PySem.Challenge.pw_ny0188_01) (hs.retK (segGoT treeTable PySem.Challenge.pw_ny0188_01 ((w.withFollow "comprehension-iter-twice" true).withFollow "special-get-raises" true) (nat_lit 28) hs.ann (nat_lit 1) (nat_lit 42) (hs.s24 ((w.withFollow "comprehension-iter-twice" true).withFollow "special-get-raises" true) os) (piecesOf (hs.cut PySem.Challenge.pw_ny0188_01 25 1) (hs.env PySem.Challenge.pw_ny0188_01) (hs.cE PySem.Challenge.pw_ny0188_01) hs.p24 hs.B))) true [.ref (nat_lit 87), .ref (nat_lit 86)] (hs.cE PySem.Challenge.pw_ny0188_01) hs.pB5 hs.pB1) = some (.next, hs.s25 ((w.withFollow "comprehension-iter-twice" true).withFollow "special-get-raises" true) os, hs.cE PySem.Challenge.pw_ny0188_01, hs.p25) := by
  rw [PySem.W.Fast.te10110043849684766642, PySem.W.Fast.te10295753902157049106, PySem.W.Fast.te11892475500146522536, PySem.W.Fast.te14364793385576792824]
  kernel_rfl
def EqB (w : World) : Prop := ∀ os : OsState, segRun treeTable PySem.Challenge.pw_ny0188_01 w (nat_lit 28) hs.ann (nat_lit 1) (nat_lit 9560) (hs.s24 w os).abs (piecesOf (hs.cut PySem.Challenge.pw_ny0188_01 25 1) (hs.env PySem.Challenge.pw_ny0188_01) (hs.cE PySem.Challenge.pw_ny0188_01) hs.p24 hs.B) = some (.next, (hs.s25 w os).abs, hs.cE PySem.Challenge.pw_ny0188_01, hs.p25)
theorem pcB_ff (w : World) : EqB ((w.withFollow "comprehension-iter-twice" false).withFollow "special-get-raises" false) := fun os => by
  have h := seg_go (segGo_of (pcB0_ff w os)) (seg_go (segGo_of (pcB1 ((w.withFollow "comprehension-iter-twice" false).withFollow "special-get-raises" false) os _)) (seg_go (segGo_of (pcB2 ((w.withFollow "comprehension-iter-twice" false).withFollow "special-get-raises" false) os _)) (seg_go (segGo_of (pcB3 ((w.withFollow "comprehension-iter-twice" false).withFollow "special-get-raises" false) os _)) (seg_go (segGo_of (pcB4 ((w.withFollow "comprehension-iter-twice" false).withFollow "special-get-raises" false) os _)) (segRun_of (pcB9_ff w os))))))
  exact h
theorem pcB_ft (w : World) : EqB ((w.withFollow "comprehension-iter-twice" false).withFollow "special-get-raises" true) := fun os => by
  have h := seg_go (segGo_of (pcB0_ft w os)) (seg_go (segGo_of (pcB1 ((w.withFollow "comprehension-iter-twice" false).withFollow "special-get-raises" true) os _)) (seg_go (segGo_of (pcB2 ((w.withFollow "comprehension-iter-twice" false).withFollow "special-get-raises" true) os _)) (seg_go (segGo_of (pcB3 ((w.withFollow "comprehension-iter-twice" false).withFollow "special-get-raises" true) os _)) (seg_go (segGo_of (pcB4 ((w.withFollow "comprehension-iter-twice" false).withFollow "special-get-raises" true) os _)) (segRun_of (pcB9_ft w os))))))
  exact h
theorem pcB_tf (w : World) : EqB ((w.withFollow "comprehension-iter-twice" true).withFollow "special-get-raises" false) := fun os => by
  have h := seg_go (segGo_of (pcB0_tf w os)) (seg_go (segGo_of (pcB1 ((w.withFollow "comprehension-iter-twice" true).withFollow "special-get-raises" false) os _)) (seg_go (segGo_of (pcB2 ((w.withFollow "comprehension-iter-twice" true).withFollow "special-get-raises" false) os _)) (seg_go (segGo_of (pcB3 ((w.withFollow "comprehension-iter-twice" true).withFollow "special-get-raises" false) os _)) (seg_go (segGo_of (pcB4 ((w.withFollow "comprehension-iter-twice" true).withFollow "special-get-raises" false) os _)) (segRun_of (pcB9_tf w os))))))
  exact h
theorem pcB_tt (w : World) : EqB ((w.withFollow "comprehension-iter-twice" true).withFollow "special-get-raises" true) := fun os => by
  have h := seg_go (segGo_of (pcB0_tt w os)) (seg_go (segGo_of (pcB1 ((w.withFollow "comprehension-iter-twice" true).withFollow "special-get-raises" true) os _)) (seg_go (segGo_of (pcB2 ((w.withFollow "comprehension-iter-twice" true).withFollow "special-get-raises" true) os _)) (seg_go (segGo_of (pcB3 ((w.withFollow "comprehension-iter-twice" true).withFollow "special-get-raises" true) os _)) (seg_go (segGo_of (pcB4 ((w.withFollow "comprehension-iter-twice" true).withFollow "special-get-raises" true) os _)) (segRun_of (pcB9_tt w os))))))
  exact h
theorem pcB : ∀ w : World, EqB w :=
  byRow2 "special-get-raises" (byRow2 "comprehension-iter-twice" (P := fun w => EqB (w.withFollow "special-get-raises" false)) pcB_ff pcB_tf) (byRow2 "comprehension-iter-twice" (P := fun w => EqB (w.withFollow "special-get-raises" true)) pcB_ft pcB_tt)
end Mine188
end
section
open PySem PySem.W PySem.Spec PySem.Calls PyProof.Rows
set_option maxRecDepth 100000
set_option maxHeartbeats 0
namespace Mine188
def EqX (w : World) : Prop := ∀ os : OsState, segRunT treeTable PySem.Challenge.pw_ny0188_01 w (nat_lit 28) hs.ann (nat_lit 1) (nat_lit 200) (hs.s25 w os) (piecesOf (hs.cut PySem.Challenge.pw_ny0188_01 26 8) (hs.env PySem.Challenge.pw_ny0188_01) (hs.cE PySem.Challenge.pw_ny0188_01) hs.p25 hs.B) = some (.next, hs.s33 w os, hs.cE PySem.Challenge.pw_ny0188_01, hs.p33)
theorem pcX (w : World) : EqX w := by
  intro os
  rw [PySem.W.Fast.te10110043849684766642, PySem.W.Fast.te14364793385576792824]
  kernel_rfl
noncomputable def hs.loopC (p : Program) : Code := match hs.cut p 34 1 with
  | [.For t _ b o _] => .forLoop t (.ref (nat_lit 94)) b o (hs.env p)
  | _ => .block [] (hs.env p)
theorem pcC0_f (w : World) (os : OsState) : segGoT treeTable PySem.Challenge.pw_ny0188_01 (w.withFollow "special-get-raises" false) (nat_lit 28) hs.ann (nat_lit 1) (nat_lit 89) (hs.s33 (w.withFollow "special-get-raises" false) os) (piecesOf (hs.cut PySem.Challenge.pw_ny0188_01 34 1) (hs.env PySem.Challenge.pw_ny0188_01) (hs.cE PySem.Challenge.pw_ny0188_01) hs.p33 hs.B) = some (hs.sC1 (w.withFollow "special-get-raises" false) os, (hs.th (denote treeTable) (hs.loopC PySem.Challenge.pw_ny0188_01) (hs.retK (segGoT treeTable PySem.Challenge.pw_ny0188_01 (w.withFollow "special-get-raises" false) (nat_lit 28) hs.ann (nat_lit 1) (nat_lit 89) (hs.s33 (w.withFollow "special-get-raises" false) os) (piecesOf (hs.cut PySem.Challenge.pw_ny0188_01 34 1) (hs.env PySem.Challenge.pw_ny0188_01) (hs.cE PySem.Challenge.pw_ny0188_01) hs.p33 hs.B))) false [] (hs.cE PySem.Challenge.pw_ny0188_01) hs.pC1 hs.p34)) := by
  rw [PySem.W.Fast.te10295753902157049106, PySem.W.Fast.te11892475500146522536, PySem.W.Fast.te14364793385576792824]
  kernel_rfl
theorem pcC0_t (w : World) (os : OsState) : segGoT treeTable PySem.Challenge.pw_ny0188_01 (w.withFollow "special-get-raises" true) (nat_lit 28) hs.ann (nat_lit 1) (nat_lit 89) (hs.s33 (w.withFollow "special-get-raises" true) os) (piecesOf (hs.cut PySem.Challenge.pw_ny0188_01 34 1) (hs.env PySem.Challenge.pw_ny0188_01) (hs.cE PySem.Challenge.pw_ny0188_01) hs.p33 hs.B) = some (hs.sC1 (w.withFollow "special-get-raises" true) os, (hs.th (denote treeTable) (hs.loopC PySem.Challenge.pw_ny0188_01) (hs.retK (segGoT treeTable PySem.Challenge.pw_ny0188_01 (w.withFollow "special-get-raises" true) (nat_lit 28) hs.ann (nat_lit 1) (nat_lit 89) (hs.s33 (w.withFollow "special-get-raises" true) os) (piecesOf (hs.cut PySem.Challenge.pw_ny0188_01 34 1) (hs.env PySem.Challenge.pw_ny0188_01) (hs.cE PySem.Challenge.pw_ny0188_01) hs.p33 hs.B))) false [] (hs.cE PySem.Challenge.pw_ny0188_01) hs.pC1 hs.p34)) := by
  rw [PySem.W.Fast.te10295753902157049106, PySem.W.Fast.te11892475500146522536, PySem.W.Fast.te14364793385576792824]
  kernel_rfl
theorem pcC1 (w : World) (os : OsState) (k : Result → Sem Fin) : segGoT treeTable PySem.Challenge.pw_ny0188_01 w (nat_lit 28) hs.ann (nat_lit 1) (nat_lit 1485) (hs.sC1 w os) (hs.th (denote treeTable) (hs.loopC PySem.Challenge.pw_ny0188_01) k false [] (hs.cE PySem.Challenge.pw_ny0188_01) hs.pC1 hs.p34) = some (hs.sC2 w os, (hs.th (denote treeTable) (hs.loopC PySem.Challenge.pw_ny0188_01) k false [] (hs.cE PySem.Challenge.pw_ny0188_01) hs.pC2 hs.p34)) := by
  rw [PySem.W.Fast.te10295753902157049106, PySem.W.Fast.te11892475500146522536, PySem.W.Fast.te14364793385576792824]
  kernel_rfl
theorem pcC2 (w : World) (os : OsState) (k : Result → Sem Fin) : segGoT treeTable PySem.Challenge.pw_ny0188_01 w (nat_lit 28) hs.ann (nat_lit 1) (nat_lit 1485) (hs.sC2 w os) (hs.th (denote treeTable) (hs.loopC PySem.Challenge.pw_ny0188_01) k false [] (hs.cE PySem.Challenge.pw_ny0188_01) hs.pC2 hs.p34) = some (hs.sC3 w os, (hs.th (denote treeTable) (hs.loopC PySem.Challenge.pw_ny0188_01) k false [] (hs.cE PySem.Challenge.pw_ny0188_01) hs.pC3 hs.p34)) := by
  rw [PySem.W.Fast.te10295753902157049106, PySem.W.Fast.te11892475500146522536, PySem.W.Fast.te14364793385576792824]
  kernel_rfl
theorem pcC9_f (w : World) (os : OsState) : segRunT treeTable PySem.Challenge.pw_ny0188_01 (w.withFollow "special-get-raises" false) (nat_lit 28) hs.ann (nat_lit 1) (nat_lit 41) (hs.sC3 (w.withFollow "special-get-raises" false) os) (hs.th (denote treeTable) (hs.loopC PySem.Challenge.pw_ny0188_01) (hs.retK (segGoT treeTable PySem.Challenge.pw_ny0188_01 (w.withFollow "special-get-raises" false) (nat_lit 28) hs.ann (nat_lit 1) (nat_lit 89) (hs.s33 (w.withFollow "special-get-raises" false) os) (piecesOf (hs.cut PySem.Challenge.pw_ny0188_01 34 1) (hs.env PySem.Challenge.pw_ny0188_01) (hs.cE PySem.Challenge.pw_ny0188_01) hs.p33 hs.B))) false [] (hs.cE PySem.Challenge.pw_ny0188_01) hs.pC3 hs.p34) = some (.next, hs.s34 (w.withFollow "special-get-raises" false) os, hs.cE PySem.Challenge.pw_ny0188_01, hs.p34) := by
  rw [PySem.W.Fast.te10110043849684766642, PySem.W.Fast.te10295753902157049106, PySem.W.Fast.te11892475500146522536, PySem.W.Fast.te14364793385576792824]
  kernel_rfl
theorem pcC9_t (w : World) (os : OsState) : segRunT treeTable PySem.Challenge.pw_ny0188_01 (w.withFollow "special-get-raises" true) (nat_lit 28) hs.ann (nat_lit 1) (nat_lit 41) (hs.sC3 (w.withFollow "special-get-raises" true) os) (hs.th (denote treeTable) (hs.loopC PySem.Challenge.pw_ny0188_01) (hs.retK (segGoT treeTable PySem.Challenge.pw_ny0188_01 (w.withFollow "special-get-raises" true) (nat_lit 28) hs.ann (nat_lit 1) (nat_lit 89) (hs.s33 (w.withFollow "special-get-raises" true) os) (piecesOf (hs.cut PySem.Challenge.pw_ny0188_01 34 1) (hs.env PySem.Challenge.pw_ny0188_01) (hs.cE PySem.Challenge.pw_ny0188_01) hs.p33 hs.B))) false [] (hs.cE PySem.Challenge.pw_ny0188_01) hs.pC3 hs.p34) = some (.next, hs.s34 (w.withFollow "special-get-raises" true) os, hs.cE PySem.Challenge.pw_ny0188_01, hs.p34) := by
  rw [PySem.W.Fast.te10110043849684766642, PySem.W.Fast.te10295753902157049106, PySem.W.Fast.te11892475500146522536, PySem.W.Fast.te14364793385576792824]
  kernel_rfl
def EqC (w : World) : Prop := ∀ os : OsState, segRun treeTable PySem.Challenge.pw_ny0188_01 w (nat_lit 28) hs.ann (nat_lit 1) (nat_lit 3100) (hs.s33 w os).abs (piecesOf (hs.cut PySem.Challenge.pw_ny0188_01 34 1) (hs.env PySem.Challenge.pw_ny0188_01) (hs.cE PySem.Challenge.pw_ny0188_01) hs.p33 hs.B) = some (.next, (hs.s34 w os).abs, hs.cE PySem.Challenge.pw_ny0188_01, hs.p34)
theorem pcC_f (w : World) : EqC (w.withFollow "special-get-raises" false) := fun os => by
  have h := seg_go (segGo_of (pcC0_f w os)) (seg_go (segGo_of (pcC1 (w.withFollow "special-get-raises" false) os _)) (seg_go (segGo_of (pcC2 (w.withFollow "special-get-raises" false) os _)) (segRun_of (pcC9_f w os))))
  exact h
theorem pcC_t (w : World) : EqC (w.withFollow "special-get-raises" true) := fun os => by
  have h := seg_go (segGo_of (pcC0_t w os)) (seg_go (segGo_of (pcC1 (w.withFollow "special-get-raises" true) os _)) (seg_go (segGo_of (pcC2 (w.withFollow "special-get-raises" true) os _)) (segRun_of (pcC9_t w os))))
  exact h
theorem pcC : ∀ w : World, EqC w := byRow2 "special-get-raises" pcC_f pcC_t
def EqY (w : World) : Prop := ∀ os : OsState, segRunT treeTable PySem.Challenge.pw_ny0188_01 w (nat_lit 28) hs.ann (nat_lit 1) (nat_lit 40) (hs.s34 w os) (piecesOf (hs.cut PySem.Challenge.pw_ny0188_01 35 1) (hs.env PySem.Challenge.pw_ny0188_01) (hs.cE PySem.Challenge.pw_ny0188_01) hs.p34 hs.B) = some (.next, hs.s35 w os, hs.cE PySem.Challenge.pw_ny0188_01, hs.p35)
theorem pcY (w : World) : EqY w := by
  intro os
  rw [PySem.W.Fast.te10110043849684766642, PySem.W.Fast.te14364793385576792824]
  kernel_rfl
noncomputable def hs.loopD (p : Program) : Code := match hs.cut p 36 1 with
  | [.For t _ b o _] => .forLoop t (.ref (nat_lit 97)) b o (hs.env p)
  | _ => .block [] (hs.env p)
theorem pcD0_f (w : World) (os : OsState) : segGoT treeTable PySem.Challenge.pw_ny0188_01 (w.withFollow "special-get-raises" false) (nat_lit 28) hs.ann (nat_lit 1) (nat_lit 55) (hs.s35 (w.withFollow "special-get-raises" false) os) (piecesOf (hs.cut PySem.Challenge.pw_ny0188_01 36 1) (hs.env PySem.Challenge.pw_ny0188_01) (hs.cE PySem.Challenge.pw_ny0188_01) hs.p35 hs.B) = some (hs.sD1 (w.withFollow "special-get-raises" false) os, (hs.th (denote treeTable) (hs.loopD PySem.Challenge.pw_ny0188_01) (hs.retK (segGoT treeTable PySem.Challenge.pw_ny0188_01 (w.withFollow "special-get-raises" false) (nat_lit 28) hs.ann (nat_lit 1) (nat_lit 55) (hs.s35 (w.withFollow "special-get-raises" false) os) (piecesOf (hs.cut PySem.Challenge.pw_ny0188_01 36 1) (hs.env PySem.Challenge.pw_ny0188_01) (hs.cE PySem.Challenge.pw_ny0188_01) hs.p35 hs.B))) false [] (hs.cE PySem.Challenge.pw_ny0188_01) hs.pD1 hs.p36)) := by
  rw [PySem.W.Fast.te10295753902157049106, PySem.W.Fast.te11892475500146522536, PySem.W.Fast.te14364793385576792824]
  kernel_rfl
theorem pcD0_t (w : World) (os : OsState) : segGoT treeTable PySem.Challenge.pw_ny0188_01 (w.withFollow "special-get-raises" true) (nat_lit 28) hs.ann (nat_lit 1) (nat_lit 55) (hs.s35 (w.withFollow "special-get-raises" true) os) (piecesOf (hs.cut PySem.Challenge.pw_ny0188_01 36 1) (hs.env PySem.Challenge.pw_ny0188_01) (hs.cE PySem.Challenge.pw_ny0188_01) hs.p35 hs.B) = some (hs.sD1 (w.withFollow "special-get-raises" true) os, (hs.th (denote treeTable) (hs.loopD PySem.Challenge.pw_ny0188_01) (hs.retK (segGoT treeTable PySem.Challenge.pw_ny0188_01 (w.withFollow "special-get-raises" true) (nat_lit 28) hs.ann (nat_lit 1) (nat_lit 55) (hs.s35 (w.withFollow "special-get-raises" true) os) (piecesOf (hs.cut PySem.Challenge.pw_ny0188_01 36 1) (hs.env PySem.Challenge.pw_ny0188_01) (hs.cE PySem.Challenge.pw_ny0188_01) hs.p35 hs.B))) false [] (hs.cE PySem.Challenge.pw_ny0188_01) hs.pD1 hs.p36)) := by
  rw [PySem.W.Fast.te10295753902157049106, PySem.W.Fast.te11892475500146522536, PySem.W.Fast.te14364793385576792824]
  kernel_rfl
theorem pcD1 (w : World) (os : OsState) (k : Result → Sem Fin) : segGoT treeTable PySem.Challenge.pw_ny0188_01 w (nat_lit 28) hs.ann (nat_lit 1) (nat_lit 1440) (hs.sD1 w os) (hs.th (denote treeTable) (hs.loopD PySem.Challenge.pw_ny0188_01) k false [] (hs.cE PySem.Challenge.pw_ny0188_01) hs.pD1 hs.p36) = some (hs.sD2 w os, (hs.th (denote treeTable) (hs.loopD PySem.Challenge.pw_ny0188_01) k false [] (hs.cE PySem.Challenge.pw_ny0188_01) hs.pD2 hs.p36)) := by
  rw [PySem.W.Fast.te10295753902157049106, PySem.W.Fast.te11892475500146522536, PySem.W.Fast.te14364793385576792824]
  kernel_rfl
theorem pcD2 (w : World) (os : OsState) (k : Result → Sem Fin) : segGoT treeTable PySem.Challenge.pw_ny0188_01 w (nat_lit 28) hs.ann (nat_lit 1) (nat_lit 1395) (hs.sD2 w os) (hs.th (denote treeTable) (hs.loopD PySem.Challenge.pw_ny0188_01) k false [] (hs.cE PySem.Challenge.pw_ny0188_01) hs.pD2 hs.p36) = some (hs.sD3 w os, (hs.th (denote treeTable) (hs.loopD PySem.Challenge.pw_ny0188_01) k false [] (hs.cE PySem.Challenge.pw_ny0188_01) hs.pD3 hs.p36)) := by
  rw [PySem.W.Fast.te10295753902157049106, PySem.W.Fast.te11892475500146522536, PySem.W.Fast.te14364793385576792824]
  kernel_rfl
theorem pcD3 (w : World) (os : OsState) (k : Result → Sem Fin) : segGoT treeTable PySem.Challenge.pw_ny0188_01 w (nat_lit 28) hs.ann (nat_lit 1) (nat_lit 1395) (hs.sD3 w os) (hs.th (denote treeTable) (hs.loopD PySem.Challenge.pw_ny0188_01) k false [] (hs.cE PySem.Challenge.pw_ny0188_01) hs.pD3 hs.p36) = some (hs.sD4 w os, (hs.th (denote treeTable) (hs.loopD PySem.Challenge.pw_ny0188_01) k false [] (hs.cE PySem.Challenge.pw_ny0188_01) hs.pD4 hs.p36)) := by
  rw [PySem.W.Fast.te10295753902157049106, PySem.W.Fast.te11892475500146522536, PySem.W.Fast.te14364793385576792824]
  kernel_rfl
theorem pcD9_f (w : World) (os : OsState) : segRunT treeTable PySem.Challenge.pw_ny0188_01 (w.withFollow "special-get-raises" false) (nat_lit 28) hs.ann (nat_lit 1) (nat_lit 45) (hs.sD4 (w.withFollow "special-get-raises" false) os) (hs.th (denote treeTable) (hs.loopD PySem.Challenge.pw_ny0188_01) (hs.retK (segGoT treeTable PySem.Challenge.pw_ny0188_01 (w.withFollow "special-get-raises" false) (nat_lit 28) hs.ann (nat_lit 1) (nat_lit 55) (hs.s35 (w.withFollow "special-get-raises" false) os) (piecesOf (hs.cut PySem.Challenge.pw_ny0188_01 36 1) (hs.env PySem.Challenge.pw_ny0188_01) (hs.cE PySem.Challenge.pw_ny0188_01) hs.p35 hs.B))) false [] (hs.cE PySem.Challenge.pw_ny0188_01) hs.pD4 hs.p36) = some (.next, hs.s36 (w.withFollow "special-get-raises" false) os, hs.cE PySem.Challenge.pw_ny0188_01, hs.p36) := by
  rw [PySem.W.Fast.te10110043849684766642, PySem.W.Fast.te10295753902157049106, PySem.W.Fast.te11892475500146522536, PySem.W.Fast.te14364793385576792824]
  kernel_rfl
theorem pcD9_t (w : World) (os : OsState) : segRunT treeTable PySem.Challenge.pw_ny0188_01 (w.withFollow "special-get-raises" true) (nat_lit 28) hs.ann (nat_lit 1) (nat_lit 45) (hs.sD4 (w.withFollow "special-get-raises" true) os) (hs.th (denote treeTable) (hs.loopD PySem.Challenge.pw_ny0188_01) (hs.retK (segGoT treeTable PySem.Challenge.pw_ny0188_01 (w.withFollow "special-get-raises" true) (nat_lit 28) hs.ann (nat_lit 1) (nat_lit 55) (hs.s35 (w.withFollow "special-get-raises" true) os) (piecesOf (hs.cut PySem.Challenge.pw_ny0188_01 36 1) (hs.env PySem.Challenge.pw_ny0188_01) (hs.cE PySem.Challenge.pw_ny0188_01) hs.p35 hs.B))) false [] (hs.cE PySem.Challenge.pw_ny0188_01) hs.pD4 hs.p36) = some (.next, hs.s36 (w.withFollow "special-get-raises" true) os, hs.cE PySem.Challenge.pw_ny0188_01, hs.p36) := by
  rw [PySem.W.Fast.te10110043849684766642, PySem.W.Fast.te10295753902157049106, PySem.W.Fast.te11892475500146522536, PySem.W.Fast.te14364793385576792824]
  kernel_rfl
def EqD (w : World) : Prop := ∀ os : OsState, segRun treeTable PySem.Challenge.pw_ny0188_01 w (nat_lit 28) hs.ann (nat_lit 1) (nat_lit 4330) (hs.s35 w os).abs (piecesOf (hs.cut PySem.Challenge.pw_ny0188_01 36 1) (hs.env PySem.Challenge.pw_ny0188_01) (hs.cE PySem.Challenge.pw_ny0188_01) hs.p35 hs.B) = some (.next, (hs.s36 w os).abs, hs.cE PySem.Challenge.pw_ny0188_01, hs.p36)
theorem pcD_f (w : World) : EqD (w.withFollow "special-get-raises" false) := fun os => by
  have h := seg_go (segGo_of (pcD0_f w os)) (seg_go (segGo_of (pcD1 (w.withFollow "special-get-raises" false) os _)) (seg_go (segGo_of (pcD2 (w.withFollow "special-get-raises" false) os _)) (seg_go (segGo_of (pcD3 (w.withFollow "special-get-raises" false) os _)) (segRun_of (pcD9_f w os)))))
  exact h
theorem pcD_t (w : World) : EqD (w.withFollow "special-get-raises" true) := fun os => by
  have h := seg_go (segGo_of (pcD0_t w os)) (seg_go (segGo_of (pcD1 (w.withFollow "special-get-raises" true) os _)) (seg_go (segGo_of (pcD2 (w.withFollow "special-get-raises" true) os _)) (seg_go (segGo_of (pcD3 (w.withFollow "special-get-raises" true) os _)) (segRun_of (pcD9_t w os)))))
  exact h
theorem pcD : ∀ w : World, EqD w := byRow2 "special-get-raises" pcD_f pcD_t
def EqE (w : World) : Prop := ∀ os : OsState, segRunT treeTable PySem.Challenge.pw_ny0188_01 w (nat_lit 28) hs.ann (nat_lit 1) (nat_lit 600) (hs.s36 w os) (piecesOf (hs.cut PySem.Challenge.pw_ny0188_01 37 13) (hs.env PySem.Challenge.pw_ny0188_01) (hs.cE PySem.Challenge.pw_ny0188_01) hs.p36 hs.B) = some (.next, hs.s49 w os, hs.cE PySem.Challenge.pw_ny0188_01, hs.p49)
theorem pcE_f (w : World) : EqE (w.withFollow "special-get-raises" false) := by
  intro os
  rw [PySem.W.Fast.te10110043849684766642, PySem.W.Fast.te14364793385576792824]
  kernel_rfl
theorem pcE_t (w : World) : EqE (w.withFollow "special-get-raises" true) := by
  intro os
  rw [PySem.W.Fast.te10110043849684766642, PySem.W.Fast.te14364793385576792824]
  kernel_rfl
theorem pcE : ∀ w : World, EqE w := byRow2 "special-get-raises" pcE_f pcE_t
end Mine188
end
section
open PySem PySem.W PySem.Spec PySem.Calls PyProof.Rows
set_option maxRecDepth 100000
set_option maxHeartbeats 0
namespace Mine188
theorem pc_pre (w : World) (os : OsState) : topGo treeTable PySem.Challenge.pw_ny0188_01 w (nat_lit 28) hs.ann (nat_lit 12) ⟨hs.h0 w.params, ⟨[]⟩, ⟨nat_lit 0, nat_lit 0, nat_lit 0, nat_lit 0⟩, nat_lit 276, os⟩ (topStub PySem.Challenge.pw_ny0188_01)
    = some ((hs.sp w os).abs, ⟨denote treeTable (hs.cE PySem.Challenge.pw_ny0188_01), hs.cE PySem.Challenge.pw_ny0188_01, hs.pp, hs.B⟩) := by
  rw [PySem.W.Fast.te15667345088766844465, PySem.W.Fast.te11892475500146522536, PySem.W.Fast.te14364793385576792824]
  kernel_rfl
theorem pc_block (w : World) (os : OsState) : segRun treeTable PySem.Challenge.pw_ny0188_01 w (nat_lit 28) hs.ann (nat_lit 1) (nat_lit 1) (hs.sp w os).abs (blockOf (behindTheImports PySem.Challenge.pw_ny0188_01) (hs.env PySem.Challenge.pw_ny0188_01) (hs.cE PySem.Challenge.pw_ny0188_01) hs.pp hs.B) = some (.next, (hs.sb w os).abs, hs.cE PySem.Challenge.pw_ny0188_01, hs.pb) := by
  rw [PySem.W.Fast.te14374325043358763698, PySem.W.Fast.te14364793385576792824]
  kernel_rfl
theorem pc_fin (w : World) (os : OsState) : topRun treeTable PySem.Challenge.pw_ny0188_01 w (nat_lit 28) hs.ann (nat_lit 2) (hs.s49 w os).abs ⟨doneF .next, hs.cE PySem.Challenge.pw_ny0188_01, hs.p49, hs.B⟩ = some ⟨hs.hf w.params, ⟨[]⟩, ⟨nat_lit 0, nat_lit 0, nat_lit 0, nat_lit 0⟩, nat_lit 2036, os⟩ := by
  rw [PySem.W.Fast.te14082659384304107361, PySem.W.Fast.te14364793385576792824]
  kernel_rfl
theorem pc_open (w : World) : (fencedOpening treeTable PySem.Challenge.pw_ny0188_01 w 36156).map (fun s => (s.heap, s.gens, s.drawn, s.toks)) = some (hs.h0 w.params, ⟨[]⟩, ⟨nat_lit 0, nat_lit 0, nat_lit 0, nat_lit 0⟩, nat_lit 276) := by
  unfold fencedOpening
  rw [PySem.W.Fast.te10274390034422433532, PySem.W.Fast.te1435165496053646825, PySem.W.Fast.te14289696077712309145, PySem.W.Fast.te14364793385576792824]
  kernel_rfl
end Mine188
end
section
open PySem PySem.W PySem.Spec PySem.Calls PyProof.Rows
set_option maxRecDepth 100000
set_option maxHeartbeats 0
namespace Mine188
theorem hs.body : behindTheImports PySem.Challenge.pw_ny0188_01 = hs.cut PySem.Challenge.pw_ny0188_01 0 25 ++ (hs.cut PySem.Challenge.pw_ny0188_01 25 1 ++ (hs.cut PySem.Challenge.pw_ny0188_01 26 8 ++ (hs.cut PySem.Challenge.pw_ny0188_01 34 1 ++ (hs.cut PySem.Challenge.pw_ny0188_01 35 1 ++ (hs.cut PySem.Challenge.pw_ny0188_01 36 1 ++ (hs.cut PySem.Challenge.pw_ny0188_01 37 13 ++ [])))))) := by
  kernel_rfl
theorem pc_size (w : World) : ((hs.h0 w.params).isNs mainGlobals && (#[] : Array GenState).size == 0, (hs.h0 w.params).objs.size, (hs.h0 w.params).nsMap mainGlobals "__annotations__") = (true, nat_lit 28, hs.ann) := by
  kernel_rfl
theorem pc_run (w : World) (os : OsState) : topRun treeTable PySem.Challenge.pw_ny0188_01 w (nat_lit 28) hs.ann (12 + (1 + (600 + (9560 + (200 + (3100 + (40 + (4330 + (600 + 2))))))))) ⟨hs.h0 w.params, ⟨[]⟩, ⟨nat_lit 0, nat_lit 0, nat_lit 0, nat_lit 0⟩, nat_lit 276, os⟩ (topStub PySem.Challenge.pw_ny0188_01) = some ⟨hs.hf w.params, ⟨[]⟩, ⟨nat_lit 0, nat_lit 0, nat_lit 0, nat_lit 0⟩, nat_lit 2036, os⟩ := by
  refine go_top (pc_pre w os) (piece_block (pc_block w os) ?_)
  rw [hs.body]
  exact piece_app (segRun_of (pcA w os)) (piece_app (pcB w os) (piece_app (segRun_of (pcX w os)) (piece_app (pcC w os) (piece_app (segRun_of (pcY w os)) (piece_app (pcD w os) (piece_app (segRun_of (pcE w os)) (piece_nil (pc_fin w os))))))))
end Mine188
end
section
open PySem PySem.W PySem.Spec PySem.Calls PyProof.Rows
set_option maxRecDepth 100000
set_option maxHeartbeats 0
namespace Mine188
abbrev looseH : List Str := [Str.ofString "_filemode_table", Str.ofString "_twin_re_1", Str.ofString "_QUOPRI_MAP",
      Str.ofString "_QUOPRI_HEADER_MAP", Str.ofString "_QUOPRI_BODY_MAP", Str.ofString "ascii_letters",
      Str.ofString "hexdigits", Str.ofString "header_encode", Str.ofString "_QUOPRI_BODY_ENCODE_MAP",
      Str.ofString "decode"]
def kAs : List Addr := [2, 3, 6, 11, 12, 32, 34, 35, 37, 38, 39, 40, 41, 42, 43, 44, 45, 46, 47, 48, 49, 50, 51, 52, 53, 54, 55, 56, 57, 58, 59, 60, 61, 62, 63, 64, 65, 66, 67, 68, 69, 70, 71, 72, 74, 75, 77, 78, 82, 83, 86, 91, 93, 100, 102, 103, 105, 106, 107, 109, 110, 112, 113, 114, 115, 117, 118, 120, 121, 123, 127, 128, 130, 131, 133, 134, 135, 137, 138, 140, 141, 142, 144, 145, 147, 148, 149, 151, 152, 154, 155, 156, 158, 159, 161, 162, 163, 166, 167]
theorem kAs_eq (P : Params) : kAs = (hd.heap_39 P).map (·.1) := by kernel_rfl
noncomputable abbrev hkH : Hook := kHook hd.heap_39 kAs kAs_eq
noncomputable abbrev xtH (s : Shared) : Bool := xlAt hd.view_39 [] s && recOk (PySem.Challenge.rw_ny0188_01.row.toRowW.records) s
noncomputable abbrev hs.end (w : World) (os : OsState) : Shared := ⟨hs.hf w.params, ⟨[]⟩, ⟨nat_lit 0, nat_lit 0, nat_lit 0, nat_lit 0⟩, nat_lit 2036, os⟩
theorem pc_look1 (w : World) (os : OsState) : (staticsOk (importedModules (PySem.Challenge.pw_ny0188_01).main.body) (hs.h0 w.params) (hs.hf w.params) && namesBound PySem.Challenge.pw_ny0188_01 (hs.hf w.params) && gensDone (hs.end w os) && laidKept (hs.h0 w.params) (hs.hf w.params)) = true := by
  kernel_rfl
theorem pc_look2 (w : World) (os : OsState) : openSeen (view PySem.Challenge.pw_ny0188_01 [0, 2, 3, 4, 5, 6, 7, 8, 9, 10, 11, 12, 13, 14, 15, 16, 17, 18, 19, 20, 21, 22, 23, 24, 25, 26, 27, 28, 29, 30, 31, 32, 33, 38, 39, 41, 45, 46, 48, 49, 50]) looseH (importedModules (PySem.Challenge.pw_ny0188_01).main.body) xtH true (hs.end w os) = openGood (view PySem.Challenge.pw_ny0188_01 [0, 2, 3, 4, 5, 6, 7, 8, 9, 10, 11, 12, 13, 14, 15, 16, 17, 18, 19, 20, 21, 22, 23, 24, 25, 26, 27, 28, 29, 30, 31, 32, 33, 38, 39, 41, 45, 46, 48, 49, 50]) looseH := by
  rw [PySem.W.Fast.te4187177175401517315, PySem.W.Fast.te5923862056798008813]
  kernel_rfl
theorem pc_look3 (w : World) (os : OsState) : kAs.map (hs.end w os).heap.get? = (hd.heap_39 w.params).map fun p => some p.2 := by
  kernel_rfl
theorem left_all : LeftO PySem.Challenge.pw_ny0188_01 hd.view_39 looseH xtH (Hook.obs hkH) (Hook.val hkH) 36156 :=
  LeftO.of_pieces (H₀ := hs.h0) (H₁ := hs.hf) (gs₀ := ⟨[]⟩) (gs₁ := ⟨[]⟩) (d₀ := ⟨nat_lit 0, nat_lit 0, nat_lit 0, nat_lit 0⟩) (d₁ := ⟨nat_lit 0, nat_lit 0, nat_lit 0, nat_lit 0⟩) (k₀ := nat_lit 276) (k₁ := nat_lit 2036) (m₀ := nat_lit 28) (ann := hs.ann) (M := 12 + (1 + (600 + (9560 + (200 + (3100 + (40 + (4330 + (600 + 2)))))))))
    pc_open pc_size pc_run (by decide) fun w => funext fun os => looks_pair (pc_look1 w os) (looks_pair (pc_look2 w os) (pc_look3 w os))
end Mine188
end
section
open PySem PySem.W PySem.Spec PySem.Calls PyProof.Rows
set_option maxRecDepth 100000
namespace Mine188
abbrev looseN : List Str := [Str.ofString "_filemode_table", Str.ofString "_twin_re_1", Str.ofString "_QUOPRI_MAP",
      Str.ofString "_QUOPRI_HEADER_MAP", Str.ofString "_QUOPRI_BODY_MAP", Str.ofString "ascii_letters",
      Str.ofString "hexdigits", Str.ofString "header_encode", Str.ofString "_QUOPRI_BODY_ENCODE_MAP",
      Str.ofString "decode", Str.ofString "_sre"]
/-- heap growth: all that stood stands -/
abbrev Kp (h h' : Heap) : Prop := ∀ b o, h.get? b = some o → h'.get? b = some o
/-- what surrounds a call here -/
abbrev Ar (dp un : Nat) (fr : Option (List Env)) (gd : Option (List Code)) : Around := { handled := none, depth := dp, frames := fr, guards := gd, units := un }

/-- a contract: the call of f on vs gives back some r with Post; nothing that stood is changed -/
def Ctr (k : Nat) (f : Addr) (vs : List Value) (Pre : Heap → Prop) (Post : Heap → Value → Heap → Prop) : Prop :=
  ∀ (w : World) (mean : ExcName → Option Value) (mg mb : Str → Option Value) (dp un : Nat) (fr : Option (List Env)) (gd : Option (List Code)) (s : Shared) (Q E : Value → Shared → Prop),
    (hd.heap_39 w.params).In s.heap → Top hd.view_39 looseN mean mg mb s.heap → Pre s.heap →
    dp + k < recursionLimit → un + 20 * k < cLine →
    (∀ (r : Value) (h' : Heap) (tk' : Nat), Kp s.heap h' → Post s.heap r h' → Q r { s with heap := h', toks := tk' }) →
      wpAny (model PySem.Challenge.rw_ny0188_01.row.prog w) (Ar dp un fr gd) (call (.ref f) vs) Q E s

section
variable {prog : Program} {w : World} {A : Around} {E : Value → Shared → Prop} {s : Shared} {K : Frag} {mg mb : Str → Option Value} {p : Program} {loose : List Str} {mean : ExcName → Option Value} {Q : Value → Shared → Prop}
theorem enter1 {name qual : Str} {params : Arguments} {body : List Stmt} {scope : Scope} {dV kV doc pm cdv ct oc : Value} {an od : Option Addr} {osl : Array (Option Value)} {f : Addr} {args : List Value} {binds : List (Str × Value)}
    (X : K.In s.heap) (T : Top p loose mean mg mb s.heap)
    (ho : K.lookup f = some ⟨oc, od, .func (fnOf name qual params body scope dV kV doc pm an cdv ct), osl⟩) (hcd : codeIn K cdv qual = true) (hroom : A.depth < recursionLimit)
    (hbind : BindsTo s (fnOf name qual params body scope dV kV doc pm an cdv ct) ⟨args, []⟩ binds) (hloc : ∀ y ∈ binds, scope.names.lookup y.1 = some .local)
    (h : ∀ L' h₁, Fr s.heap L' h₁ (fun y => binds.reverse.lookup y) → News s.heap L' h₁ [] →
      wpAny (model prog w) (A.deeper (envOf qual scope L' f cdv)) (execs body (envOf qual scope L' f cdv))
        (fun fl s' => Q (match fl with | .ret v => v | _ => .none) s') (fun _ _ => False)
        { s with heap := h₁, toks := s.toks + binds.length })
    (hco : scope.isCoroutine = false) (hgen : scope.isGenerator = false) (hk : scope.kind = .function)
    (hcell : ∀ x ∈ scope.names, x.2 ≠ .cell) : wpAny (model prog w) A (call (.ref f) args) Q E s := by
  refine wpAny_call (codeAny_call_def (fd := fnOf name qual params body scope dV kV doc pm an cdv ct) (body := body) (binds := binds) hroom (X _ _ ho) rfl T.nolimit (codeRec_of X hcd) rfl hbind hcell hloc (fun h₁ hns hk₁ => ?_) hco hgen hk)
  exact wpAny_mono (h s.heap.objs.size h₁ ⟨hns, hk₁, Nat.le_refl _⟩ News.nil) (fun _ _ y => y) fun _ _ y => y.elim
end

section
variable {w : World} {E : Value → Shared → Prop} {s : Shared} {h₀ : Heap} {L : Addr} {m mg mb : Str → Option Value} {news : List (Addr × Obj)} {mean : ExcName → Option Value} {Q : Value → Shared → Prop}
theorem Ctr.use {k : Nat} {f : Addr} {vs : List Value} {Pre : Heap → Prop} {Post : Heap → Value → Heap → Prop} {dp un : Nat} {fr : Option (List Env)} {gd : Option (List Code)}
    (C : Ctr k f vs Pre Post) (X : (hd.heap_39 w.params).In h₀) (T : Top hd.view_39 looseN mean mg mb h₀) (F : Fr h₀ L s.heap m) (N : News h₀ L s.heap news) (hp : Pre s.heap) (hd : dp + k < recursionLimit) (hu : un + 20 * k < cLine)
    (h : ∀ (r : Value) (h' : Heap) (tk' : Nat), Fr h₀ L h' m → News h₀ L h' news → Kp s.heap h' → Post s.heap r h' → Q r { s with heap := h', toks := tk' }) :
    wpAny (model PySem.Challenge.rw_ny0188_01.row.prog w) (Ar dp un fr gd) (call (.ref f) vs) Q E s := by
  refine C w mean mg mb dp un fr gd s Q E (X.keeps F.keep) (T.keeps F.keep) hp hd hu fun r h' tk' k p => ?_
  refine h r h' tk' ⟨F.ns.keeps k, fun b o e => k b o (F.keep b o e), F.above⟩ (fun q hq => ⟨k _ _ (N q hq).1, (N q hq).2.1, (N q hq).2.2⟩) k p
end
end Mine188
end
section
open PySem PySem.W PySem.Spec PySem.Calls PyProof.Rows PySem.NumText
set_option maxRecDepth 100000
set_option maxHeartbeats 4000000
namespace Mine188
/-- the sign of a figure to the base 16, great or small -/
def hx (up : Bool) (d : Nat) : Nat := if d < 10 then 48 + d else if up then 55 + d else 87 + d

theorem hx_range (up : Bool) (d : Nat) (h : d < 16) : hx up d < 128 ∧ 0 < hx up d := by
  unfold hx; (repeat' split) <;> omega

theorem read16 (up : Bool) (i j : Nat) (hi : i < 16) (hj : j < 16) :
    (int_private% "readNumeral") 0 16 [hx up i, hx up j] = (int_private% "Numeral.value") ((16 * i + j : Nat) : Int) := by
  have key : ∀ u : Bool, ∀ i : Fin 16, ∀ j : Fin 16, (int_private% "Numeral.casesOn") (motive := fun _ => Bool) ((int_private% "readNumeral") 0 16 [hx u i.1, hx u j.1]) false (fun _ => false) false (fun v => v == ((16 * i.1 + j.1 : Nat) : Int)) = true := by decide +kernel
  have k := key up ⟨i, hi⟩ ⟨j, hj⟩
  dsimp only at k
  revert k
  generalize (int_private% "readNumeral") 0 16 [hx up i, hx up j] = R
  intro k
  cases R with
  | value v => exact congrArg _ (by simpa using k)
  | invalid => cases k
  | tooLong _ => cases k
  | byTheLibrary => cases k

theorem wp_text16 {M : Model} {A : Around} {E : Value → Shared → Prop} {s : Shared} {Q : Value → Shared → Prop} {v : Value} {text : List Nat} {n : Int}
    (hs : (text.takeWhile (· != 0)).length ≤ 640) (hr : (int_private% "readNumeral") 0 16 (text.takeWhile (· != 0)) = (int_private% "Numeral.value") n)
    (ha : ((text.takeWhile (· != 0)).length == text.length) = true) (h : Q (.int n s.toks) { s with toks := s.toks + 1 }) :
    wpAny M A ((int_private% "intFromText") v text 16) Q E s := by
  obtain ⟨hp, g, d, tk, os⟩ := s
  repeat (any_goals (first
    | assumption
    | (with_reducible refine wpAny_ite_true (decide_eq_true hs) ?_)
    | (with_reducible refine wpAny_ite_true (decide_eq_true ha) ?_)
    | wp_step))
  all_goals (try rw [hr])
  all_goals (try dsimp only)
  repeat (any_goals (first
    | assumption
    | (with_reducible refine wpAny_ite_true (decide_eq_true hs) ?_)
    | (with_reducible refine wpAny_ite_true (decide_eq_true ha) ?_)
    | wp_step))

theorem gives16 {x : PySem.Str} {u t : Tok} {n : Int} (hall : x.cps.all (· < 128) = true) (hs : (x.cps.toList.takeWhile (· != 0)).length ≤ 640)
    (hr : (int_private% "readNumeral") 0 16 (x.cps.toList.takeWhile (· != 0)) = (int_private% "Numeral.value") n) (ha : ((x.cps.toList.takeWhile (· != 0)).length == x.cps.toList.length) = true) :
    Gives (Builtin.«int.__new__» ⟨[.type "int", .str x u, .int 16 t], []⟩) (.int n) :=
  .of_wp fun M A E s Q h => by
    obtain ⟨hp, g, d, tk, os⟩ := s
    have f1 := F.conv_sub_int
    have f2 := F.madeHere_int
    have f6 : typeOf (.str x u) = pure (.type "str") := rfl
    repeat (any_goals (first
      | assumption
      | ((with_reducible show wpAny _ _ ((int_private% "intFromText") _ _ _) _ _ _); (try rw [if_pos hall]); refine wp_text16 hs hr ha ?_)
      | wp_step))
    all_goals first | exact ⟨_, rfl, h⟩ | skip

theorem typeCall_int_2 (a b : Value) : checkTypeCall "int" ⟨[a, b], []⟩ = pure () := by kernel_rfl
theorem newCall_int_2 (a b : Value) : checkBuiltinCall "int.__new__" ⟨[.type "int", a, b], []⟩ = pure () := by kernel_rfl
theorem args_init_3 (o a b : Value) : argsOk "object.__init__" ⟨[o, a, b], []⟩ := by unfold argsOk; kernel_rfl

theorem call_int16 {prog : Program} {w : World} {A : Around} {E : Value → Shared → Prop} {s : Shared} {Q : Value → Shared → Prop} {x : PySem.Str} {t u : Tok} (up : Bool) (i j : Nat) (hi : i < 16) (hj : j < 16) (hx' : x = ⟨#[hx up i, hx up j]⟩)
    (h : Q (.int ((16 * i + j : Nat) : Int) s.toks) { s with toks := s.toks + 1 }) : wpAny (model prog w) A (call (.type "int") [.str x t, .int 16 u]) Q E s := by
  subst hx'
  have r1 := hx_range up i hi
  have r2 := hx_range up j hj
  have e1 : ([hx up i, hx up j].takeWhile (· != 0)) = [hx up i, hx up j] := by
    have a1 : (hx up i != 0) = true := by simp; omega
    have a2 : (hx up j != 0) = true := by simp; omega
    simp only [List.takeWhile, a1, a2]
  have g := gives16 (x := ⟨#[hx up i, hx up j]⟩) (u := t) (t := u) (n := ((16 * i + j : Nat) : Int)) (by simp; omega) (by show ([hx up i, hx up j].takeWhile (· != 0)).length ≤ 640; rw [e1]; show 2 ≤ 640; decide) (by show (int_private% "readNumeral") 0 16 ([hx up i, hx up j].takeWhile (· != 0)) = _; rw [e1]; exact read16 up i j hi hj) (by show (([hx up i, hx up j].takeWhile (· != 0)).length == [hx up i, hx up j].length) = true; rw [e1]; rfl)
  exact callType_new F.called_int F.newNe_int (typeCall_int_2 _ _) (newCall_int_2 _ _) (fun obj => args_init_3 obj _ _) F.entry_int_new g.meets (show (Made.int ((16 * i + j : Nat) : Int)).post _ s from ⟨rfl, h⟩)
end Mine188
end
section
open PySem PySem.W PySem.Spec PySem.Calls PyProof.Rows
set_option maxRecDepth 100000
set_option maxHeartbeats 0
namespace Mine188

theorem ifexp_int {M : Model} {A : Around} {E : Value → Shared → Prop} {s : Shared} {env : Env} {test : PySem.Expr} {a b : Int} {k1 k2 : Nat} {p1 p2 pos : Pos} {Q : Value → Shared → Prop}
    (h : wpAny M A (isTrue test env (eval test env)) (fun c s₂ => Q (.int (if c then a else b) s₂.toks) { s₂ with toks := s₂.toks + 1 }) E s) :
    wpAny M A (eval (.IfExp test (.Constant (.int a) k1 p1) (.Constant (.int b) k2 p2) pos) env) Q E s := by
  refine IfExp_ (wpAny_mono h (fun c s₂ h₂ => ?_) fun _ _ x => x)
  cases c
  · exact wpAny_Constant_int h₂
  · exact wpAny_Constant_int h₂

/-- the figure at a place, the three signs of it -/
def figOf (n p : Int) : Int := (n.fdiv p).fmod 16
def rowOf (n : Int) : Str :=
  Txt.item (Str.ofString "?pc?d?b?-?l?s???") (n.fmod 16)
    ++ Txt.item (Str.ofString "-r") ((figOf n 16).fmod 2) ++ Txt.item (Str.ofString "-w") (((figOf n 16).fdiv 2).fmod 2) ++ Txt.item (Str.ofString "-xSs") ((figOf n 16).fdiv 4)
    ++ Txt.item (Str.ofString "-r") ((figOf n 256).fmod 2) ++ Txt.item (Str.ofString "-w") (((figOf n 256).fdiv 2).fmod 2) ++ Txt.item (Str.ofString "-xSs") ((figOf n 256).fdiv 4)
    ++ Txt.item (Str.ofString "-r") ((figOf n 4096).fmod 2) ++ Txt.item (Str.ofString "-w") (((figOf n 4096).fdiv 2).fmod 2) ++ Txt.item (Str.ofString "-xTt") ((figOf n 4096).fdiv 4)

theorem row_ctr (n : Int) (t : Tok) (h0 : 0 ≤ n) (h1 : n < 65536) : Ctr 1 155 [.int n t] (fun _ => True) (fun _ r _ => ∃ t, r = .str (rowOf n) t) := by
  unfold Ctr
  k_fill
  intro w mean mg mb dp un fr gd s Q E X T hp hd hu hret
  k_dflt (refine' enter1 ?k1 ?k2 ?k6 ?k7 ?k8 ?k9 ?kB ?_ ?c2 ?c3 ?c4 ?c5; (case k1 => exact X); (case k2 => exact T); (case k6 => k_is); (case k7 => k_is); (case k8 => exact Nat.lt_of_le_of_lt (Nat.le_add_right _ _) hd); (case k9 => exact BindsTo.of_eq rfl); (case c5 => decide); (case kB => exact locs rfl); (case c2 => exact rfl); (case c3 => exact rfl); (case c4 => exact rfl); k_whole; intro L' h' F' N'; (try dsimp only); (try k_fold))
  k_steps
  rename Fr _ _ _ _ => F9
  exact hret _ _ _ F9.keep ⟨_, rfl⟩

def inS (t : String) (y : Str) : Bool := !(Builtin.Str.occurrences (Str.ofString t) y 0 (Str.ofString t).length 1).isEmpty
def fourB (x : Str) : Int := (if inS "sS" (Txt.item x 3) then 8 else 0) + (if inS "sS" (Txt.item x 6) then 4 else 0) + (if inS "tT" (Txt.item x 9) then 2 else 0) + (if (Txt.item x 1 == Str.ofString "r") then 1 else 0)
def fourC (x : Str) : Int := (if (Txt.item x 2 == Str.ofString "w") then 8 else 0) + (if inS "xs" (Txt.item x 3) then 4 else 0) + (if (Txt.item x 4 == Str.ofString "r") then 2 else 0) + (if (Txt.item x 5 == Str.ofString "w") then 1 else 0)
def fourD (x : Str) : Int := (if inS "xs" (Txt.item x 6) then 8 else 0) + (if (Txt.item x 7 == Str.ofString "r") then 4 else 0) + (if (Txt.item x 8 == Str.ofString "w") then 2 else 0) + (if inS "xt" (Txt.item x 9) then 1 else 0)

section
local macro_rules | `(tactic| walk_at "eval IfExp") => `(tactic| (with_reducible refine ifexp_int ?_))
theorem four_ctr (k : Int) (t u : Tok) (x : Str) (hx : x.length = 10) : Ctr 1 162 [.int k t, .str x u] (fun _ => True)
    (fun h r h' => ∃ l t1 t2 t3 t4, r = .ref l ∧ h.get? l = none ∧ h'.get? l = some (listOf #[.int k t1, .int (fourB x) t2, .int (fourC x) t3, .int (fourD x) t4] 0)) := by
  unfold Ctr
  k_fill
  intro w mean mg mb dp un fr gd s Q E X T hp hd hu hret
  k_dflt (refine' enter1 ?k1 ?k2 ?k6 ?k7 ?k8 ?k9 ?kB ?_ ?c2 ?c3 ?c4 ?c5; (case k1 => exact X); (case k2 => exact T); (case k6 => k_is); (case k7 => k_is); (case k8 => exact Nat.lt_of_le_of_lt (Nat.le_add_right _ _) hd); (case k9 => exact BindsTo.of_eq rfl); (case c5 => decide); (case kB => exact locs rfl); (case c2 => exact rfl); (case c3 => exact rfl); (case c4 => exact rfl); k_whole; intro L' h' F' N'; (try dsimp only); (try k_fold))
  k_steps
  rename Fr _ _ _ _ => F9
  rename News _ _ _ _ => N9
  have hN := N9 _ (List.Mem.head _)
  exact hret _ _ _ F9.keep ⟨_, _, _, _, _, rfl, hN.2.2, hN.1⟩
end

theorem ifmt_ctr (n : Int) (t : Tok) : Ctr 1 38 [.int n t] (fun _ => True) (fun _ r _ => ∃ t, r = .int (Builtin.bitAnd n 61440) t) := by
  unfold Ctr
  k_fill
  intro w mean mg mb dp un fr gd s Q E X T hp hd hu hret
  k_dflt (refine' enter1 ?k1 ?k2 ?k6 ?k7 ?k8 ?k9 ?kB ?_ ?c2 ?c3 ?c4 ?c5; (case k1 => exact X); (case k2 => exact T); (case k6 => k_is); (case k7 => k_is); (case k8 => exact Nat.lt_of_le_of_lt (Nat.le_add_right _ _) hd); (case k9 => exact BindsTo.of_eq rfl); (case c5 => decide); (case kB => exact locs rfl); (case c2 => exact rfl); (case c3 => exact rfl); (case c4 => exact rfl); k_whole; intro L' h' F' N'; (try dsimp only); (try k_fold))
  k_steps
  exact hret _ _ _ F'.keep ⟨_, rfl⟩
end Mine188
end
section
open PySem PySem.W PySem.Spec PySem.Calls PyProof.Rows
set_option maxRecDepth 100000
set_option maxHeartbeats 0
namespace Mine188
def seqAt (K : Frag) (a : Addr) : Array Value := match K.lookup a with | some ⟨_, _, .seq xs _, _⟩ => xs | _ => #[]
def isStrV (v : Option Value) (c : Str) : Bool := match v with | some (.str x _) => x == c | _ => false
theorem isStrV_some {v : Option Value} {c : Str} (h : isStrV v c = true) : ∃ t, v = some (.str c t) := by
  unfold isStrV at h
  split at h
  · rename_i x t
    exact ⟨t, by rw [eq_of_beq h]⟩
  · cases h
/-- a sign's escape -/
def escOf (c : Nat) : Str := ⟨#[61, hx true (c / 16), hx true (c % 16)]⟩
def objAt (K : Frag) (a : Addr) : Obj := (K.lookup a).getD default
def epAt (K : Frag) (a : Addr) : Nat := match K.lookup a with | some ⟨_, _, .seq _ n, _⟩ => n | _ => 0
theorem map_list {P : Params} {h : Heap} (X : (hd.heap_39 P).In h) : h.IsList 86 (seqAt (hd.heap_39 P) 86) := ⟨objAt (hd.heap_39 P) 86, X 86 _ (by kernel_rfl), by kernel_rfl, epAt (hd.heap_39 P) 86, by kernel_rfl⟩
theorem map_items (P : Params) : ∀ k : Nat, k < 256 → ∃ t, (seqAt (hd.heap_39 P) 86)[k]? = some (.str (escOf k) t) := by
  have key : (List.range 256).all (fun k => isStrV (seqAt (hd.heap_39 P) 86)[k]? (escOf k)) = true := by kernel_rfl
  intro k hk
  exact isStrV_some (List.all_eq_true.mp key k (List.mem_range.mpr hk))

section
variable {prog : Program} {w : World} {A : Around} {E : Value → Shared → Prop} {s : Shared}
theorem item_listK {value slice : PySem.Expr} {l : Addr} {vs : Array Value} {k : Int} {u : Tok} {v : Value} {Q : Value → Shared → Prop}
    (hl : s.heap.IsList l vs) (h0 : 0 ≤ k) (hhi : k < 2 ^ 63) (hx : vs[k.toNat]? = some v) (h : Q v s)
    (hs : subscripted slice false (.ref l) (.int k u) = operate [.ref l, .int k u] (getItem (.ref l) (.int k u)) := by with_unfolding_all rfl) :
    wpAny (model prog w) A (subscriptTail value slice (.ref l) (.int k u)) Q E s :=
  tail_any hl.typeIs slot_list_getitem.lookup (wpAny_getItem_list hl h0 hhi hx h) hs
end

theorem quote_ctr (c : Nat) (t : Tok) (hc : c < 256) : Ctr 1 113 [.str ⟨#[c]⟩ t] (fun _ => True) (fun _ r _ => ∃ t, r = .str (escOf c) t) := by
  unfold Ctr
  k_fill
  intro w mean mg mb dp un fr gd s Q E X T hp hdp hu hret
  have hx : (⟨#[c]⟩ : Str).length = 1 := rfl
  k_dflt (refine' enter1 ?k1 ?k2 ?k6 ?k7 ?k8 ?k9 ?kB ?_ ?c2 ?c3 ?c4 ?c5; (case k1 => exact X); (case k2 => exact T); (case k6 => k_is); (case k7 => k_is); (case k8 => exact Nat.lt_of_le_of_lt (Nat.le_add_right _ _) hdp); (case k9 => exact BindsTo.of_eq rfl); (case c5 => decide); (case kB => exact locs rfl); (case c2 => exact rfl); (case c3 => exact rfl); (case c4 => exact rfl); k_whole; intro L' h' F' N'; (try dsimp only); (try k_fold))
  k_steps
  rename Fr _ _ _ _ => F9
  obtain ⟨t9, ht⟩ := map_items w.params c hc
  refine item_listK (map_list (X.keeps F9.keep)) (by omega) (by show (c : Int) < 2 ^ 63; omega) (v := .str (escOf c) t9) ?_ ?_ (by with_unfolding_all rfl)
  · show (seqAt (hd.heap_39 w.params) 86)[((c : Int)).toNat]? = _
    rw [Int.toNat_natCast]; exact ht
  · exact hret _ _ _ F9.keep ⟨_, rfl⟩

theorem unquote_ctr (up : Bool) (i j : Nat) (t : Tok) (hi : i < 16) (hj : j < 16) : Ctr 1 106 [.str ⟨#[61, hx up i, hx up j]⟩ t] (fun _ => True) (fun _ r _ => ∃ t, r = .str ⟨#[16 * i + j]⟩ t) := by
  unfold Ctr
  k_fill
  intro w mean mg mb dp un fr gd s Q E X T hp hdp hu hret
  have hx9 : (⟨#[61, hx up i, hx up j]⟩ : Str).length = 3 := rfl
  k_dflt (refine' enter1 ?k1 ?k2 ?k6 ?k7 ?k8 ?k9 ?kB ?_ ?c2 ?c3 ?c4 ?c5; (case k1 => exact X); (case k2 => exact T); (case k6 => k_is); (case k7 => k_is); (case k8 => exact Nat.lt_of_le_of_lt (Nat.le_add_right _ _) hdp); (case k9 => exact BindsTo.of_eq rfl); (case c5 => decide); (case kB => exact locs rfl); (case c2 => exact rfl); (case c3 => exact rfl); (case c4 => exact rfl); k_whole; intro L' h' F' N'; (try dsimp only); (try k_fold))
  k_steps
  refine call_int16 up i j hi hj (by rfl) ?_
  k_steps
  rename Fr _ _ _ _ => F9
  exact hret _ _ _ F9.keep ⟨_, by rw [Int.toNat_natCast]⟩
end Mine188
end
section
open PySem
set_option maxRecDepth 100000
namespace Mine188
/-- the pattern's words -/
def reC : Array Nat := #[14, 8, 1, 3, 3, 1, 1, 61, 0, 16, 61, 24, 16, 2, 2, 13, 11, 9, 0, 67043328, 126, 126, 0, 0, 0, 0, 0, 1, 1]
def isHex (c : Nat) : Bool := (48 ≤ c && c ≤ 57) || (65 ≤ c && c ≤ 70) || (97 ≤ c && c ≤ 102)

/-- the machine as it stands at a place -/
def mAt (T : Array Nat) (s : Nat) (first mu : Bool) (seen : Sre.Seen) : Sre.M :=
  { code := reC, text := T, lim := T.size, start := s, lastStart := T.size, wholeText := false, mustAdvance := mu, pc := 9, pos := s, handed := s, outermost := first,
    marks := #[], lastmark := -1, lastindex := -1, loops := #[], inner := none, frames := [{ wait := .nextStart, pc := 9, pos := s, outermost := first }], weight := 1, answer := none, seen := seen, outcome := none }

def iter : Nat → Sre.M → Sre.M
  | 0, m => m
  | n + 1, m => iter n m.step

theorem iter_add (a b : Nat) (m : Sre.M) : iter (a + b) m = iter b (iter a m) := by
  induction a generalizing m with
  | zero => simp [iter]
  | succ a ih => rw [Nat.succ_add]; exact ih _
theorem step_done {m : Sre.M} (h : m.outcome.isSome = true) : m.step = m := by unfold Sre.M.step; rw [if_pos h]
theorem iter_done {m : Sre.M} (h : m.outcome.isSome = true) (n : Nat) : iter n m = m := by
  induction n with
  | zero => rfl
  | succ n ih => rw [iter, step_done h, ih]
theorem runFor_iter (n : Nat) (m : Sre.M) : m.runFor n = iter n m := by
  induction n generalizing m with
  | zero => rfl
  | succ n ih =>
    rw [Sre.M.runFor]
    split
    · rename_i h; rw [iter, step_done h, iter_done h]
    · exact ih _

theorem skip_lit {T : Array Nat} {s : Nat} {first mu : Bool} {seen : Sre.Seen} (hs : s < T.size) (hc : T.getD s 0 ≠ 61) :
    ∃ seen', iter 2 (mAt T s first mu seen) = mAt T (s + 1) false false seen' := by
  have h1 : ¬ (s ≥ T.size) := by omega
  have h2 : (T.getD s 0 == 61) = false := by simpa using hc
  have e1 : (mAt T s first mu seen).step = { (mAt T s first mu seen) with seen := (seen.add 16), answer := some false } := by
    show Sre.M.exec (mAt T s first mu seen) = _
    show (if s ≥ T.size then _ else _) = _
    rw [if_neg h1]
    show (match (Except.ok (T.getD s 0 == 61, seen.add 16) : Except String (Bool × Sre.Seen)) with | .error why => _ | .ok (false, seen) => _ | .ok (true, seen) => _) = _
    rw [h2]
    rfl
  refine ⟨seen.add 16, ?_⟩
  show Sre.M.step (Sre.M.step (mAt T s first mu seen)) = _
  rw [e1]
  show (if s < T.size then _ else _) = _
  rw [if_pos hs]
  rfl

theorem fin_lit {T : Array Nat} {first mu : Bool} {seen : Sre.Seen} :
    (iter 3 (mAt T T.size first mu seen)).outcome = some .failed := by
  have e1 : (mAt T T.size first mu seen).step = { (mAt T T.size first mu seen) with seen := (seen.add 16), answer := some false } := by
    show Sre.M.exec (mAt T T.size first mu seen) = _
    show (if T.size ≥ T.size then _ else _) = _
    rw [if_pos (Nat.le_refl _)]
    rfl
  show (Sre.M.step (Sre.M.step (Sre.M.step (mAt T T.size first mu seen)))).outcome = _
  rw [e1]
  have e2 : Sre.M.step { (mAt T T.size first mu seen) with seen := (seen.add 16), answer := some false } = { (mAt T T.size first mu seen) with seen := (seen.add 16), answer := some false, frames := [], weight := 0 } := by
    show (if T.size < T.size then _ else _) = _
    rw [if_neg (Nat.lt_irrefl _)]
    rfl
  rw [e2]
  rfl

theorem hex_lt {c : Nat} (h : isHex c = true) : c < 128 := by
  unfold isHex at h
  simp only [Bool.or_eq_true, Bool.and_eq_true, decide_eq_true_eq] at h
  omega
theorem hex_cond {c : Nat} (h : isHex c = true) : (decide (c < 256) && (reC.getD (17 + (1 + c / 32)) 0).testBit (c % 32)) = true := by
  have key : ∀ c : Fin 128, isHex c.1 = true → (decide (c.1 < 256) && (reC.getD (17 + (1 + c.1 / 32)) 0).testBit (c.1 % 32)) = true := by decide +kernel
  exact key ⟨c, hex_lt h⟩ h
theorem acc_hex {c : Nat} (h : isHex c = true) (seen : Sre.Seen) : Sre.accepts reC 15 c seen = .ok (true, seen.add 9) := by
  show (if (decide (c < 256) && (reC.getD (17 + (1 + c / 32)) 0).testBit (c % 32)) = true then (Except.ok (true, seen.add 9) : Except String (Bool × Sre.Seen)) else _) = _
  rw [if_pos (hex_cond h)]
theorem run_hex {T : Array Nat} {p : Nat} {seen : Sre.Seen} (h1 : isHex (T.getD p 0) = true) (h2 : isHex (T.getD (p + 1) 0) = true) : Sre.run reC T 15 2 p 0 seen = .ok (2, (seen.add 9).add 9) := by
  show (Sre.accepts reC 15 (T.getD p 0) seen >>= _) = _
  rw [acc_hex h1]
  show (Sre.accepts reC 15 (T.getD (p + 1) 0) (seen.add 9) >>= _) = _
  rw [acc_hex h2]
  rfl

/-- the machine behind a match -/
structure Hit (m : Sre.M) (s : Nat) : Prop where
  outcome : m.outcome = some .matched
  start : m.start = s
  handed : m.handed = s + 3
  lastmark : m.lastmark = -1
  lastindex : m.lastindex = -1

theorem hit_lit {T : Array Nat} {s : Nat} {first mu : Bool} {seen : Sre.Seen} (hs : s + 3 ≤ T.size) (hc : T.getD s 0 = 61) (h1 : isHex (T.getD (s + 1) 0) = true) (h2 : isHex (T.getD (s + 2) 0) = true) :
    Hit (iter 6 (mAt T s first mu seen)) s := by
  have g1 : ¬ (s ≥ T.size) := by omega
  have e1 : (mAt T s first mu seen).step = { (mAt T s first mu seen) with seen := (seen.add 16), pc := 11, pos := s + 1 } := by
    show (if s ≥ T.size then _ else _) = _
    rw [if_neg g1]
    show (match (Except.ok (T.getD s 0 == 61, seen.add 16) : Except String (Bool × Sre.Seen)) with | .error why => _ | .ok (false, seen) => _ | .ok (true, seen) => _) = _
    rw [hc]
    rfl
  have g2 : ¬ (((2 : Nat) : Int) > (T.size : Int) - ((s + 1 : Nat) : Int)) := by omega
  have g3 : min 2 ((T.size : Int) - ((s + 1 : Nat) : Int)).toNat = 2 := by omega
  have e2 : ∃ sn, Sre.M.step { (mAt T s first mu seen) with seen := (seen.add 16), pc := 11, pos := s + 1 } =
      { (mAt T s first mu seen) with seen := sn, pc := 28, pos := s + 3, handed := s + 3, frames := [{ wait := .giveBack, pc := 11, pos := s + 3, outermost := first, count := 2, kept := { lastmark := -1, lastindex := -1, whole := false, marks := #[] } }, { wait := .nextStart, pc := 9, pos := s, outermost := first }], weight := 2 } := by
    refine ⟨((((seen.add 16).add 24).add 13).add 9).add 9, ?_⟩
    show (if ((2 : Nat) : Int) > (T.size : Int) - ((s + 1 : Nat) : Int) then _ else _) = _
    rw [if_neg g2]
    show (match Sre.run reC T 15 (min 2 ((T.size : Int) - ((s + 1 : Nat) : Int)).toNat) (s + 1) 0 (((seen.add 16).add 24).add 13) with | .error why => _ | .ok (n, seen) => _) = _
    rw [g3, run_hex h1 h2]
    rfl
  obtain ⟨sn, e2⟩ := e2
  have e3 : ∃ sn', Sre.M.step { (mAt T s first mu seen) with seen := sn, pc := 28, pos := s + 3, handed := s + 3, frames := [{ wait := .giveBack, pc := 11, pos := s + 3, outermost := first, count := 2, kept := { lastmark := -1, lastindex := -1, whole := false, marks := #[] } }, { wait := .nextStart, pc := 9, pos := s, outermost := first }], weight := 2 } =
      { (mAt T s first mu seen) with seen := sn', pc := 28, pos := s + 3, handed := s + 3, answer := some true, frames := [{ wait := .giveBack, pc := 11, pos := s + 3, outermost := first, count := 2, kept := { lastmark := -1, lastindex := -1, whole := false, marks := #[] } }, { wait := .nextStart, pc := 9, pos := s, outermost := first }], weight := 2 } := by
    refine ⟨sn.add 1, ?_⟩
    show (if (first && ((false && _) || (mu && (s + 3 == s)))) = true then _ else _) = _
    have g4 : (s + 3 == s) = false := by simp
    rw [g4, if_neg (by simp)]
    rfl
  obtain ⟨sn', e3⟩ := e3
  have e : iter 6 (mAt T s first mu seen) = Sre.M.step (Sre.M.step (Sre.M.step { (mAt T s first mu seen) with seen := sn', pc := 28, pos := s + 3, handed := s + 3, answer := some true, frames := [{ wait := .giveBack, pc := 11, pos := s + 3, outermost := first, count := 2, kept := { lastmark := -1, lastindex := -1, whole := false, marks := #[] } }, { wait := .nextStart, pc := 9, pos := s, outermost := first }], weight := 2 })) := by
    show Sre.M.step (Sre.M.step (Sre.M.step (Sre.M.step (Sre.M.step (Sre.M.step (mAt T s first mu seen)))))) = _
    rw [e1, e2, e3]
  rw [e]
  exact ⟨rfl, rfl, rfl, rfl, rfl⟩

/-- the search from a place: k signs that are no =, then an escape -/
theorem search_hit {T : Array Nat} (k : Nat) : ∀ {s : Nat} {first mu : Bool} {seen : Sre.Seen}, s + k + 3 ≤ T.size → (∀ j, j < k → T.getD (s + j) 0 ≠ 61) → T.getD (s + k) 0 = 61 → isHex (T.getD (s + k + 1) 0) = true → isHex (T.getD (s + k + 2) 0) = true →
    Hit (iter (2 * k + 6) (mAt T s first mu seen)) (s + k) := by
  induction k with
  | zero => intro s first mu seen hs _ hc h1 h2; exact hit_lit hs hc h1 h2
  | succ k ih =>
    intro s first mu seen hs hn hc h1 h2
    obtain ⟨sn, e⟩ := skip_lit (first := first) (mu := mu) (seen := seen) (T := T) (s := s) (by omega) (by simpa using hn 0 (by omega))
    rw [show 2 * (k + 1) + 6 = 2 + (2 * k + 6) by omega, iter_add, e, show s + (k + 1) = s + 1 + k by omega]
    refine ih (by omega) (fun j hj => ?_) ?_ ?_ ?_
    · have := hn (j + 1) (by omega); rwa [show s + (j + 1) = s + 1 + j by omega] at this
    · rwa [show s + (k + 1) = s + 1 + k by omega] at hc
    · rwa [show s + (k + 1) = s + 1 + k by omega] at h1
    · rwa [show s + (k + 1) = s + 1 + k by omega] at h2
theorem search_miss {T : Array Nat} (k : Nat) : ∀ {s : Nat} {first mu : Bool} {seen : Sre.Seen}, s + k = T.size → (∀ j, j < k → T.getD (s + j) 0 ≠ 61) →
    (iter (2 * k + 3) (mAt T s first mu seen)).outcome = some .failed := by
  induction k with
  | zero =>
    intro s first mu seen hs _
    have : s = T.size := by omega
    subst this
    exact fin_lit
  | succ k ih =>
    intro s first mu seen hs hn
    obtain ⟨sn, e⟩ := skip_lit (first := first) (mu := mu) (seen := seen) (T := T) (s := s) (by omega) (by simpa using hn 0 (by omega))
    rw [show 2 * (k + 1) + 3 = 2 + (2 * k + 3) by omega, iter_add, e]
    refine ih (by omega) (fun j hj => ?_)
    have := hn (j + 1) (by omega); rwa [show s + (j + 1) = s + 1 + j by omega] at this

/-- the search's first state -/
theorem forSearch_at {T : Array Nat} {s : Nat} {mu : Bool} (hs : s + 3 ≤ T.size) : Sre.forSearch reC T 0 s T.size mu = mAt T s true mu (({} : Sre.Seen).add 14) := by
  show (if (decide (s > T.size) || decide (T.size - s < 3)) = true then _ else _) = _
  have h1 : (decide (s > T.size) || decide (T.size - s < 3)) = false := by simp; omega
  rw [h1, if_neg (by simp)]
  rfl
theorem forSearch_no {T : Array Nat} {s : Nat} {mu : Bool} (hs : ¬ (s + 3 ≤ T.size)) : (iter 1 (Sre.forSearch reC T 0 s T.size mu)).outcome = some .failed := by
  have e : Sre.forSearch reC T 0 s T.size mu = (if (decide (s > T.size) || decide (T.size - s < 3)) = true then _ else _) := rfl
  have h1 : (decide (s > T.size) || decide (T.size - s < 3)) = true := by simp; omega
  rw [e, h1, if_pos rfl]
  rfl
end Mine188
end
section
open PySem PySem.W PySem.Spec PySem.Calls PyProof.Rows PySem.Builtin.Re
set_option maxRecDepth 100000
set_option maxHeartbeats 4000000
namespace Mine188
theorem slot_match_group : Slot "re.Match" "group" "re.Match.group" :=
  .of (owner := "re.Match") (n := "group") (by rw [typeLookup_type, builtinLookup_eq_fast]; kernel_rfl) (by decide +kernel) (by decide +kernel) (by decide +kernel)
    (by first | exact .inl (by decide +kernel) | exact .inr (by decide +kernel)) (by rw [isSubtype_type]; kernel_rfl)
theorem slot_pat_sub : Slot "re.Pattern" "sub" "re.Pattern.sub" :=
  .of (owner := "re.Pattern") (n := "sub") (by rw [typeLookup_type, builtinLookup_eq_fast]; kernel_rfl) (by decide +kernel) (by decide +kernel) (by decide +kernel)
    (by first | exact .inl (by decide +kernel) | exact .inr (by decide +kernel)) (by rw [isSubtype_type]; kernel_rfl)
theorem entry_match_group : entryFor table "re.Match.group" = some Builtin.«re.Match.group» := entryFor_of_tree (by kernel_rfl)
theorem entry_pat_sub : entryFor table "re.Pattern.sub" = some Builtin.«re.Pattern.sub» := entryFor_of_tree (by kernel_rfl)
theorem entry_pat_loop : entryFor table "re.Pattern.sub.loop" = some Builtin.«re.Pattern.sub.loop» := entryFor_of_tree (by kernel_rfl)
theorem type_match_group : typeOf (.builtin "re.Match.group") = pure (.type "method_descriptor") := by show builtinType _ = _; rw [builtinType_eq_fast]; kernel_rfl
theorem type_pat_sub : typeOf (.builtin "re.Pattern.sub") = pure (.type "method_descriptor") := by show builtinType _ = _; rw [builtinType_eq_fast]; kernel_rfl
theorem args_match_group (a b : Value) : argsOk "re.Match.group" ⟨[a, b], []⟩ := by unfold argsOk; kernel_rfl
theorem args_pat_sub (a b c : Value) : argsOk "re.Pattern.sub" ⟨[a, b, c], []⟩ := by unfold argsOk; kernel_rfl
theorem plain_match : PlainAttrs "re.Match" :=
  ⟨⟨"object.__getattribute__", by rw [typeLookup_type, builtinLookup_eq_fast]; kernel_rfl, by decide +kernel⟩, by rw [typeLookup_type, builtinLookup_eq_fast]; kernel_rfl⟩
theorem plain_pat : PlainAttrs "re.Pattern" :=
  ⟨⟨"object.__getattribute__", by rw [typeLookup_type, builtinLookup_eq_fast]; kernel_rfl, by decide +kernel⟩, by rw [typeLookup_type, builtinLookup_eq_fast]; kernel_rfl⟩

/-- a match's object -/
abbrev matchObj (T : Str) (t : Tok) (pat : Value) (lim : Nat) (sp : Addr) : Obj := { cls := .type "re.Match", data := .fields #[.str T t, pat, rawInt 0, rawInt lim, rawInt (-1), .ref sp] }
abbrev spanObj (b e : Nat) : Obj := { cls := .type "tuple", data := .seq #[rawInt b, rawInt e] }

section
variable {prog : Program} {w : World} {A : Around} {E : Value → Shared → Prop} {s : Shared}
theorem group_wp {M : Model} {a sp : Addr} {T : Str} {t u : Tok} {pat : Value} {lim b e : Nat} {Q : Fin → Shared → Prop} (ha : s.heap.get? a = some (matchObj T t pat lim sp)) (hs : s.heap.get? sp = some (spanObj b e)) (hz : T.length ≤ sizeLine)
    (h : Q (.done (.ret (.str ⟨T.cps.extract b e⟩ s.toks))) { s with toks := s.toks + 1 }) :
    wpAny M A (Builtin.«re.Match.group» ⟨[.ref a, .int 0 u], []⟩) Q E s := by
  obtain ⟨hp, g, d, tk, os⟩ := s
  have f1 : typeOf (.int 0 u) = pure (.type "int") := rfl
  wp_walk using wpAny_fieldsOf ha rfl, wpAny_seqItems hs rfl
  have hsp : Array.map reRawOf ((some #[rawInt (b : Int), rawInt (e : Int)]).getD #[]) = #[(b : Int), (e : Int)] := by simp [reRawOf, rawInt]
  rw [hsp]
  show wpAny M A (if (decide ((b : Int) < 0) || decide ((e : Int) < 0)) = true then pure Value.none else (reTextOf (.str T t) >>= fun x => reSlice x.1 x.2 ((b : Int)).toNat ((e : Int)).toNat)) _ E _
  rw [if_neg (by simp), Int.toNat_natCast, Int.toNat_natCast]
  have hz' : (⟨T.cps.extract b e⟩ : Str).length ≤ sizeLine := by
    have : (T.cps.extract b e).size ≤ T.cps.size := by simp; omega
    exact Nat.le_trans this hz
  refine wpAny_bind ?_
  show wpAny M A (pure ((T.cps, 0) : Array Nat × Nat)) _ E _
  refine wpAny_pure ?_
  show wpAny M A (mkStr ⟨T.cps.extract b e⟩) _ E _
  exact wpAny_mkStr (wpAny_pure h) hz'

theorem call_group {a sp : Addr} {T : Str} {t u : Tok} {pat : Value} {lim b e : Nat} {Q : Value → Shared → Prop} (ha : s.heap.get? a = some (matchObj T t pat lim sp)) (hs : s.heap.get? sp = some (spanObj b e)) (hz : T.length ≤ sizeLine)
    (h : Q (.str ⟨T.cps.extract b e⟩ s.toks) { s with toks := s.toks + 1 }) :
    wpAny (model prog w) A (call (.builtin "re.Match.group") [.ref a, .int 0 u]) Q E s :=
  wpAny_call_entry slot_match_group ⟨_, ha, rfl⟩ entry_match_group (group_wp ha hs hz ⟨_, rfl, h⟩) (args_match_group _ _)
theorem getMethod_group {M : Model} {a : Addr} {o : Obj} {pl : Sem Bool} {Q : Value × List Value → Shared → Prop} (ha : s.heap.get? a = some o) (hc : o.cls = .type "re.Match") (hd : o.dict = none)
    (h : Q (.builtin "re.Match.group", [.ref a]) s) : wpAny M A (getMethod (.ref a) "group" pl) Q E s :=
  getMethod_builtin ⟨_, ha, hc⟩ plain_match slot_match_group type_match_group (fun b e => by cases e; exact ⟨_, ha, hd⟩) h
theorem getMethod_sub {M : Model} {a : Addr} {o : Obj} {pl : Sem Bool} {Q : Value × List Value → Shared → Prop} (ha : s.heap.get? a = some o) (hc : o.cls = .type "re.Pattern") (hd : o.dict = none)
    (h : Q (.builtin "re.Pattern.sub", [.ref a]) s) : wpAny M A (getMethod (.ref a) "sub" pl) Q E s :=
  getMethod_builtin ⟨_, ha, hc⟩ plain_pat slot_pat_sub type_pat_sub (fun b e => by cases e; exact ⟨_, ha, hd⟩) h
end
end Mine188
end
section
open PySem PySem.W PySem.Spec PySem.Calls PyProof.Rows
set_option maxRecDepth 100000
set_option maxHeartbeats 0
namespace Mine188
theorem um_ctr (a sp : Addr) (T : Str) (t : Tok) (pat : Value) (lim b : Nat) (up : Bool) (i j : Nat) (hi : i < 16) (hj : j < 16) (hz : T.length ≤ sizeLine) (he : T.cps.extract b (b + 3) = #[61, hx up i, hx up j]) :
    Ctr 2 141 [.ref a] (fun h => h.get? a = some (matchObj T t pat lim sp) ∧ h.get? sp = some (spanObj b (b + 3))) (fun _ r _ => ∃ t, r = .str ⟨#[16 * i + j]⟩ t) := by
  unfold Ctr
  k_fill
  intro w mean mg mb dp un fr gd s Q E X T' hp hdp hu hret
  k_dflt (refine' enter1 ?k1 ?k2 ?k6 ?k7 ?k8 ?k9 ?kB ?_ ?c2 ?c3 ?c4 ?c5; (case k1 => exact X); (case k2 => exact T'); (case k6 => k_is); (case k7 => k_is); (case k8 => exact Nat.lt_of_le_of_lt (Nat.le_add_right _ _) hdp); (case k9 => exact BindsTo.of_eq rfl); (case c5 => decide); (case kB => exact locs rfl); (case c2 => exact rfl); (case c3 => exact rfl); (case c4 => exact rfl); k_whole; intro L' h' F' N'; (try dsimp only); (try k_fold))
  k_steps
  refine getMethod_group (F'.keep _ _ hp.1) rfl rfl ?_
  k_steps
  refine call_group (F'.keep _ _ hp.1) (F'.keep _ _ hp.2) hz ?_
  rw [he]
  k_steps
  rename Fr _ _ _ _ => F9
  rename News _ _ _ _ => N9
  k_dflt (refine' Ctr.use (unquote_ctr up i j _ hi hj) ?k1 ?k2 F9 N9 trivial ?k3 ?k4 ?_; (case k1 => exact X); (case k2 => exact T'); (case k3 => (show dp + 1 + 1 < recursionLimit; omega)); (case k4 => (show un + 3 + 20 * 1 < cLine; omega)); k_whole)
  intro r9 h9 tk9 F9 N9 K9 hP9
  obtain ⟨t9, rfl⟩ := hP9
  k_steps
  exact hret _ _ _ F9.keep ⟨_, rfl⟩
end Mine188
end
section
open PySem PySem.W PySem.Spec PySem.Calls PyProof.Rows PySem.Builtin.Re
set_option maxRecDepth 100000
set_option maxHeartbeats 4000000
namespace Mine188
section
variable {M : Model} {A : Around} {E : Value → Shared → Prop} {s : Shared}
theorem drive_wp {Q : Sre.M → Shared → Prop} (N : Nat) : ∀ (turns : Nat) (m : Sre.M), N < turns → (iter N m).outcome.isSome = true → Q (iter N m) s → wpAny M A (reDrive turns m) Q E s := by
  induction N using Nat.strongRecOn with
  | ind N ih =>
    intro turns m ht ho hq
    cases turns with
    | zero => omega
    | succ turns =>
      show wpAny M A (if (m.runFor reTurnSteps).outcome.isSome = true then pure (m.runFor reTurnSteps) else (rule "sre.turn" >>= fun _ => reDrive turns (m.runFor reTurnSteps))) Q E s
      rw [runFor_iter]
      by_cases h4 : (iter reTurnSteps m).outcome.isSome = true
      · rw [if_pos h4]
        refine wpAny_pure ?_
        have e : iter N m = iter reTurnSteps m := by
          by_cases hN : N ≤ 4
          · have e1 : iter reTurnSteps m = iter (4 - N) (iter N m) := by rw [← iter_add]; congr 1; show 4 = _; omega
            rw [e1, iter_done ho]
          · have e1 : iter N m = iter (N - 4) (iter 4 m) := by rw [← iter_add]; congr 1; omega
            rw [e1]; exact iter_done h4 _
        rw [← e]; exact hq
      · rw [if_neg h4]
        have hN : 4 < N := by
          apply Decidable.byContradiction
          intro hN
          apply h4
          have e1 : iter reTurnSteps m = iter (4 - N) (iter N m) := by rw [← iter_add]; congr 1; show 4 = _; omega
          rw [e1, iter_done ho]; exact ho
        have e1 : iter N m = iter (N - 4) (iter reTurnSteps m) := by rw [← iter_add]; congr 1; show _ = 4 + _; omega
        refine wpAny_bind (wpAny_rule ?_)
        exact ih (N - 4) (by omega) turns _ (by omega) (e1 ▸ ho) (e1 ▸ hq)

theorem rules_wp {c : Nat → Bool} {nm : Nat → String} {Q : PUnit → Shared → Prop} (l : List Nat) (h : Q PUnit.unit s) :
    wpAny M A (forIn l PUnit.unit fun i _ => if c i = true then (rule (nm i) >>= fun _ => pure (ForInStep.yield PUnit.unit)) else pure (ForInStep.yield PUnit.unit)) Q E s := by
  induction l with
  | nil => exact wpAny_pure h
  | cons a l ih =>
    rw [List.forIn_cons]
    refine wpAny_bind ?_
    cases c a
    · rw [if_neg Bool.false_ne_true]; exact wpAny_pure ih
    · rw [if_pos rfl]; exact wpAny_bind (wpAny_rule (wpAny_pure ih))

theorem runEnd_hit {Q : Option Sre.M → Shared → Prop} {m : Sre.M} (N : Nat) (hN : N < 1000000) (ho : (iter N m).outcome = some .matched) (hq : Q (some (iter N m)) s) : wpAny M A (reRunToEnd m) Q E s := by
  have h64 : N < 2 ^ 64 := Nat.lt_trans hN (by decide)
  unfold reRunToEnd
  refine wpAny_bind (drive_wp N _ m h64 (by rw [ho]; rfl) ?_)
  refine wpAny_bind (rules_wp _ ?_)
  rw [ho]
  exact wpAny_pure hq
theorem runEnd_miss {Q : Option Sre.M → Shared → Prop} {m : Sre.M} (N : Nat) (hN : N < 1000000) (ho : (iter N m).outcome = some .failed) (hq : Q none s) : wpAny M A (reRunToEnd m) Q E s := by
  have h64 : N < 2 ^ 64 := Nat.lt_trans hN (by decide)
  unfold reRunToEnd
  refine wpAny_bind (drive_wp N _ m h64 (by rw [ho]; rfl) ?_)
  refine wpAny_bind (rules_wp _ ?_)
  rw [ho]
  exact wpAny_pure hq
end
end Mine188
namespace Mine188
def fieldsAt (K : Frag) (a : Addr) : Array Value := match K.lookup a with | some ⟨_, _, .fields xs, _⟩ => xs | _ => #[]
theorem code_items (P : Params) : seqAt (hd.heap_39 P) 82 = (reC.toList.map (fun (n : Nat) => Value.int n 0)).toArray := by kernel_rfl
theorem code_words (P : Params) : (((some (seqAt (hd.heap_39 P) 82)).getD #[]).map reRawOf).map (·.toNat) = reC := by
  rw [code_items]
  show Array.map _ (Array.map _ (List.map _ reC.toList).toArray) = _
  simp only [List.map_toArray, List.map_map]
  rfl
section
variable {M : Model} {A : Around} {E : Value → Shared → Prop} {s : Shared}
theorem whole_wp {P : Params} {x : Str} {t : Tok} {Q : ReTarget → Shared → Prop} (X : (hd.heap_39 P).In s.heap)
    (h : Q { pattern := .ref 83, string := .str x t, code := reC, text := x.cps, kind := 0, groups := 0, pos := 0, lim := x.cps.size } s) : wpAny M A (reWholeTarget (.ref 83) (.str x t)) Q E s := by
  have g83 : s.heap.get? 83 = some (objAt (hd.heap_39 P) 83) := X 83 _ (by kernel_rfl)
  have d83 : (objAt (hd.heap_39 P) 83).data = .fields (fieldsAt (hd.heap_39 P) 83) := by kernel_rfl
  have g82 : s.heap.get? 82 = some (objAt (hd.heap_39 P) 82) := X 82 _ (by kernel_rfl)
  have d82 : (objAt (hd.heap_39 P) 82).data = .seq (seqAt (hd.heap_39 P) 82) (epAt (hd.heap_39 P) 82) := by kernel_rfl
  have e5 : (fieldsAt (hd.heap_39 P) 83).getD 5 .none = .ref 82 := by kernel_rfl
  have e6 : reRawNat ((fieldsAt (hd.heap_39 P) 83).getD 6 .none) = 0 := by kernel_rfl
  have e2 : reRawNat ((fieldsAt (hd.heap_39 P) 83).getD 2 .none) = 0 := by kernel_rfl
  unfold reWholeTarget
  refine wpAny_bind (wpAny_fieldsOf g83 d83 ?_)
  refine wpAny_bind ?_
  show wpAny M A (pure ((x.cps, 0) : Array Nat × Nat)) _ E s
  refine wpAny_pure ?_
  dsimp only
  rw [e6, e5, e2]
  refine wpAny_bind (wpAny_pure ?_)
  refine wpAny_bind ?_
  refine wpAny_bind (wpAny_seqItems g82 d82 ?_)
  refine wpAny_pure ?_
  rw [code_words]
  exact wpAny_pure h
end
end Mine188

namespace Mine188
/-- a text's parts: a sign as it is, or an escape of two figures -/
inductive Tk where
  | ch (c : Nat)
  | esc (i j : Nat)
def Tk.txt (up : Bool) : Tk → List Nat
  | .ch c => [c]
  | .esc i j => [61, hx up i, hx up j]
def Tk.out : Tk → Nat
  | .ch c => c
  | .esc i j => 16 * i + j
def Tk.ok : Tk → Prop
  | .ch c => c ≠ 61
  | .esc i j => i < 16 ∧ j < 16
def txtOf (up : Bool) (ts : List Tk) : List Nat := ts.flatMap (Tk.txt up)
def cat (ps : List Str) : List Nat := ps.flatMap (·.cps.toList)

theorem cat_append (ps qs : List Str) : cat (ps ++ qs) = cat ps ++ cat qs := by simp [cat]
theorem glue_foldl (ps : List Str) (a : Array Nat) : (ps.foldl (fun acc p => acc ++ (#[] : Array Nat) ++ p.cps) a).toList = a.toList ++ cat ps := by
  induction ps generalizing a with
  | nil => simp [cat]
  | cons p r ih => rw [List.foldl_cons, ih]; simp [cat]
theorem join_cat (ps : List Str) : Txt.join ⟨#[]⟩ ps = ⟨(cat ps).toArray⟩ := by
  unfold Txt.join Builtin.Str.glued
  congr 1
  apply Array.toList_inj.mp
  rw [glue_foldl]
  cases ps with
  | nil => rfl
  | cons p r => simp [cat]

theorem hx_hex (up : Bool) (d : Nat) (h : d < 16) : isHex (hx up d) = true := by
  have key : ∀ u : Bool, ∀ d : Fin 16, isHex (hx u d.1) = true := by decide +kernel
  exact key up ⟨d, h⟩

/-- the parts ahead of the first escape -/
theorem split_parts (ts : List Tk) : (∃ cs : List Nat, ts = cs.map Tk.ch) ∨ ∃ (cs : List Nat) (i j : Nat) (rest : List Tk), ts = cs.map Tk.ch ++ .esc i j :: rest := by
  induction ts with
  | nil => exact .inl ⟨[], rfl⟩
  | cons t r ih =>
    cases t with
    | ch c =>
      rcases ih with ⟨cs, rfl⟩ | ⟨cs, i, j, rest, rfl⟩
      · exact .inl ⟨c :: cs, rfl⟩
      · exact .inr ⟨c :: cs, i, j, rest, rfl⟩
    | esc i j => exact .inr ⟨[], i, j, r, rfl⟩
theorem txt_ch (up : Bool) (cs : List Nat) : txtOf up (cs.map Tk.ch) = cs := by
  induction cs with
  | nil => rfl
  | cons c r ih => show c :: txtOf up (r.map Tk.ch) = _; rw [ih]
theorem txt_append (up : Bool) (a b : List Tk) : txtOf up (a ++ b) = txtOf up a ++ txtOf up b := by simp [txtOf]
theorem out_ch (cs : List Nat) : (cs.map Tk.ch).map Tk.out = cs := by
  induction cs with
  | nil => rfl
  | cons c r ih => show c :: (r.map Tk.ch).map Tk.out = _; rw [ih]
theorem getD_at {T : Array Nat} {a b : List Nat} {c : Nat} (h : T.toList = a ++ c :: b) : T.getD a.length 0 = c := by
  have : T = (a ++ c :: b).toArray := by rw [← h]
  rw [this]
  simp
end Mine188
end
section
open PySem PySem.W PySem.Spec PySem.Calls PyProof.Rows PySem.Builtin.Re
set_option maxRecDepth 100000
set_option maxHeartbeats 4000000
namespace Mine188
theorem plain_loop : plainId "re.Pattern.sub.loop" = true := by decide +kernel

section
variable {M : Model} {A : Around} {E : Value → Shared → Prop} {s : Shared}
theorem newMatch_wp {m : Sre.M} {T : Str} {t : Tok} {b lim : Nat} {pat : Value} {Q : Value → Shared → Prop} (hm : Hit m b)
    (h : ∀ h' sp a, Kp s.heap h' → h'.get? a = some (matchObj T t pat lim sp) → h'.get? sp = some (spanObj b (b + 3)) → Q (.ref a) { s with heap := h' }) : wpAny M A (reNewMatch pat (.str T t) 0 0 lim m) Q E s := by
  unfold reNewMatch
  show wpAny M A (newTuple [rawInt m.start, rawInt m.handed] >>= fun tp => newFields "re.Match" [.str T t, pat, rawInt (0 : Nat), rawInt lim, rawInt m.lastindex, tp]) Q E s
  rw [hm.start, hm.handed, hm.lastindex]
  refine wpAny_bind (wpAny_newTuple ?_)
  unfold newFields
  refine wpAny_newObj_type ?_ (by size_fits)
  refine h _ s.heap.objs.size _ (fun b o e => Heap.get?_push_of_some _ (Heap.get?_push_of_some _ e)) (Heap.get?_push_size _ rfl) ?_
  exact Heap.get?_push_of_some _ (Heap.get?_push_size _ rfl)
end

/-- the loop's part behind a match -/
def hitTail (T : Array Nat) (t : Tok) (cnt : Int) (l : Addr) (m : Sre.M) : Sem PySem.Fin := do
  let found ← reNewMatch (.ref 83) (.str ⟨T⟩ t) 0 0 T.size m
  let item ← holding [found] (if ((1 : Int) == 1) = true then call (.ref 141) [found] else do let x ← reFound found; reExpand (.ref 141) x)
  if (item != .none) = true then do
    updateSeq l (·.push item)
    again (.builtin "re.Pattern.sub.loop" ⟨[.ref 83, .str ⟨T⟩ t, .ref 141, rawInt 1, rawInt 0, rawInt (cnt + 1), rawInt m.handed, rawInt m.handed, .bool (m.handed == m.start), .ref l, .bool false], []⟩)
  else again (.builtin "re.Pattern.sub.loop" ⟨[.ref 83, .str ⟨T⟩ t, .ref 141, rawInt 1, rawInt 0, rawInt (cnt + 1), rawInt m.handed, rawInt m.handed, .bool (m.handed == m.start), .ref l, .bool false], []⟩)

theorem push_get {h : Heap} {l : Addr} {vs : List Value} {ep : Nat} {v : Value} (hl : h.get? l = some (listOf vs.toArray ep)) : (h.update l (Obj.mapSeq (·.push v))).get? l = some (listOf (vs ++ [v]).toArray (ep + 1)) := by
  have := Heap.get?_update_self (Obj.mapSeq (·.push v)) hl rfl
  rw [this]
  show some _ = some _
  congr 1
  show Obj.mapSeq (·.push v) (listOf vs.toArray ep) = _
  simp [Obj.mapSeq, W.listOf]
theorem kp_update {h₀ h : Heap} {l : Addr} {f : Obj → Obj} (hl0 : h₀.get? l = none) (k : Kp h₀ h) : Kp h₀ (h.update l f) := by
  intro b o e
  have : l ≠ b := fun q => by rw [q, e] at hl0; cases hl0
  exact (Heap.get?_update_other _ _ this).trans (k b o e)

theorem hitTail_wp {w : World} {mean : ExcName → Option Value} {mg mb : Str → Option Value} {fr : Option (List Env)} {gd : Option (List Code)} {E : Value → Shared → Prop} {Q : PySem.Fin → Shared → Prop} {s : Shared} {h₀ : Heap} {l : Addr} {dp un : Nat} {cnt : Int} {b : Nat} {m : Sre.M} {vs : List Value} {ep : Nat}
    (up : Bool) (T : Array Nat) (t : Tok) (hT : T.size ≤ 100000) (i j : Nat) (hi : i < 16) (hj : j < 16) (he : T.extract b (b + 3) = #[61, hx up i, hx up j]) (X : (hd.heap_39 w.params).In h₀) (Tp : Top hd.view_39 looseN mean mg mb h₀) (hl0 : h₀.get? l = none) (hdp : dp + 2 < recursionLimit) (hun : un + 60 < cLine)
    (hm : Hit m b) (hk : Kp h₀ s.heap) (hl : s.heap.get? l = some (listOf vs.toArray ep)) (hsz : vs.length ≤ 1000000)
    (h : ∀ h' tk tv, Kp h₀ h' → h'.get? l = some (listOf (vs ++ [Value.str ⟨#[16 * i + j]⟩ tv]).toArray (ep + 1)) →
      Q (.again (.builtin "re.Pattern.sub.loop" ⟨[.ref 83, .str ⟨T⟩ t, .ref 141, rawInt 1, rawInt 0, rawInt (cnt + 1), rawInt (b + 3 : Nat), rawInt (b + 3 : Nat), .bool (b + 3 == b), .ref l, .bool false], []⟩)) { s with heap := h', toks := tk }) :
    wpAny (model PySem.Challenge.rw_ny0188_01.row.prog w) (Ar dp un fr gd) (hitTail T t cnt l m) Q E s := by
  unfold hitTail
  refine wpAny_bind (newMatch_wp hm fun h' sp a k1 ha hs => ?_)
  refine wpAny_bind (wpAny_holding ?_)
  rw [if_pos (show ((1 : Int) == 1) = true from rfl)]
  have kk : Kp h₀ h' := fun b o e => k1 b o (hk b o e)
  refine um_ctr a sp ⟨T⟩ t (.ref 83) T.size b up i j hi hj (Nat.le_trans hT (by rw [sizeLine_eq]; decide)) he w mean mg mb dp un fr gd _ _ _ (X.keeps kk) (Tp.keeps kk) ⟨ha, hs⟩ hdp (by omega) fun r h2 tk2 k2 hr => ?_
  obtain ⟨tv, rfl⟩ := hr
  have hl2 : h2.get? l = some (listOf vs.toArray ep) := k2 _ _ (k1 _ _ hl)
  rw [if_pos (show (Value.str ⟨#[16 * i + j]⟩ tv != Value.none) = true from rfl)]
  refine wpAny_bind (wpAny_updateSeq hl2 rfl ?_ (by simp only [List.size_toArray]; rw [sizeLine_eq]; omega) (by simp only [Array.size_push, List.size_toArray]; rw [sizeLine_eq]; omega))
  refine wpAny_pure ?_
  rw [hm.start, hm.handed]
  exact h _ _ tv (kp_update hl0 fun b o e => k2 b o (kk b o e)) (push_get hl2)
end Mine188
end
section
open PySem PySem.W PySem.Spec PySem.Calls PyProof.Rows PySem.Builtin.Re
set_option maxRecDepth 100000
set_option maxHeartbeats 4000000
namespace Mine188
theorem strs_len {vs : List Value} {ps : List Str} (h : StrsAre vs ps) : vs.length = ps.length := StrsAre.length h
theorem sum_len_cat (ps : List Str) : (ps.map (·.length)).sum = (cat ps).length := by
  induction ps with
  | nil => rfl
  | cons p r ih => simp only [List.map_cons, List.sum_cons, ih, cat, List.flatMap_cons, List.length_append]; rfl

theorem cat_one (c : List Nat) : cat [(⟨c.toArray⟩ : Str)] = c := by simp [cat]
theorem cat_sign (c : Nat) : cat [(⟨#[c]⟩ : Str)] = [c] := by simp [cat]
theorem extract_mid {T : Array Nat} {a b c : List Nat} (h : T.toList = a ++ b ++ c) : T.extract a.length (a.length + b.length) = b.toArray := by
  have : T = (a ++ b ++ c).toArray := by rw [← h]
  rw [this]
  simp

theorem slice_wp {M : Model} {A : Around} {E : Value → Shared → Prop} {s : Shared} {T : Array Nat} {b e : Nat} {Q : Value → Shared → Prop} {c : List Nat} (hT : T.size ≤ 100000) (hc : T.extract b e = c.toArray)
    (h : Q (.str ⟨c.toArray⟩ s.toks) { s with toks := s.toks + 1 }) : wpAny M A (reSlice T 0 b e) Q E s := by
  show wpAny M A (mkStr ⟨T.extract b e⟩) Q E s
  have hz : (T.extract b e).size ≤ sizeLine := by
    have : (T.extract b e).size ≤ T.size := by simp; omega
    rw [sizeLine_eq]; omega
  refine wpAny_mkStr ?_ hz
  rw [hc]; exact h

/-- the loop's end: the pieces are joined -/
def missTail (T : Array Nat) (cnt : Int) (l : Addr) : Sem PySem.Fin := do
  let joiner ← reSlice T 0 0 0
  let x ← seqItems? (Value.ref l)
  if (x.getD #[]).isEmpty = true then do
      let text ← pure joiner
      if false = true then do
          let y ← holding [text] do
                let z ← mkInt cnt
                newTuple [text, z]
          ret y
        else ret text
    else do
      let text ← call (Value.builtin (if (0 == 0) = true then "str.join" else "bytes.join")) [joiner, Value.ref l]
      if false = true then do
          let y ← holding [text] do
                let z ← mkInt cnt
                newTuple [text, z]
          ret y
        else ret text
theorem missTail_wp {prog : Program} {w : World} {A : Around} {E : Value → Shared → Prop} {s : Shared} {T : Array Nat} {cnt : Int} {l : Addr} {vs : List Value} {ps : List Str} {ep : Nat} {Q : PySem.Fin → Shared → Prop} (hT : T.size ≤ 100000)
    (hl : s.heap.get? l = some (W.listOf vs.toArray ep)) (hvs : StrsAre vs ps) (hc : (cat ps).length ≤ 1000000) (h : ∀ tk t', Q (.done (.ret (.str ⟨(cat ps).toArray⟩ t'))) { s with toks := tk }) :
    wpAny (model prog w) A (missTail T cnt l) Q E s := by
  unfold missTail
  refine wpAny_bind (slice_wp (c := []) hT (by simp) ?_)
  refine wpAny_bind (wpAny_seqItems hl rfl ?_)
  cases vs with
  | nil =>
    cases hvs
    show wpAny _ _ (pure _ >>= _) _ _ _
    exact wpAny_bind (wpAny_pure (wpAny_pure (h _ _)))
  | cons v r =>
    rw [if_neg (show ¬ (((some (v :: r).toArray).getD #[]).isEmpty = true) by simp)]
    refine wpAny_bind ?_
    show wpAny _ _ (call (Value.builtin "str.join") [.str ⟨#[]⟩ _, .ref l]) _ _ _
    refine join_list (ys := ps) ⟨_, hl, rfl, ep, rfl⟩ (by simpa using hvs) ?_ fun t' k => ?_
    · rw [sum_len_cat]; show _ + _ * 0 ≤ _; omega
    · rw [join_cat]
      exact wpAny_pure (h _ _)

theorem loop_code {w : World} {mean : ExcName → Option Value} {mg mb : Str → Option Value} {fr : Option (List Env)} {gd : Option (List Code)} {R : Result → Shared → Prop} {h₀ : Heap} {l : Addr} {dp un : Nat}
    (up : Bool) (T : Array Nat) (t : Tok) (hT : T.size ≤ 100000) (X : (hd.heap_39 w.params).In h₀) (Tp : Top hd.view_39 looseN mean mg mb h₀) (hl0 : h₀.get? l = none) (hdp : dp + 2 < recursionLimit) (hun : un + 70 < cLine) :
    ∀ (n : Nat) (ts : List Tk) (pre : List Nat) (ps : List Str) (vs : List Value) (ep : Nat) (cnt : Int) (must : Bool) (s : Shared),
      ts.length < n → (∀ x ∈ ts, x.ok) → T.toList = pre ++ txtOf up ts → StrsAre vs ps → vs.length ≤ 2 * pre.length → (cat ps).length ≤ pre.length → Kp h₀ s.heap → s.heap.get? l = some (W.listOf vs.toArray ep) →
      (∀ h' tk t', Kp h₀ h' → R (.ok (.ret (.str ⟨(cat ps ++ ts.map Tk.out).toArray⟩ t'))) { s with heap := h', toks := tk }) →
      codeAny (model PySem.Challenge.rw_ny0188_01.row.prog w) (Ar dp un fr gd) (.builtin "re.Pattern.sub.loop" ⟨[.ref 83, .str ⟨T⟩ t, .ref 141, rawInt 1, rawInt 0, rawInt cnt, rawInt pre.length, rawInt pre.length, .bool must, .ref l, .bool false], []⟩) R s := by
  intro n
  induction n with
  | zero => intro ts _ _ _ _ _ _ _ hn; omega
  | succ n ih =>
    intro ts pre ps vs ep cnt must s hn hok hTx hvs hlen hcat hk hl hR
    have hTl : T.size = pre.length + (txtOf up ts).length := by rw [← Array.length_toList, hTx, List.length_append]
    refine codeAny_builtin entry_pat_loop ?_
    rw [Around.under_plainId plain_loop _]
    refine wpAny_bind (whole_wp (X.keeps hk) ?_)
    dsimp only
    rw [if_neg (show ¬ (((1 : Int) == 0) = true) from Bool.false_ne_true), if_neg (show ¬ ((((0 : Int) != 0) && decide (cnt ≥ 0)) = true) from Bool.false_ne_true), Int.toNat_natCast]
    refine wpAny_bind ?_
    rcases split_parts ts with ⟨cs, rfl⟩ | ⟨cs, i, j, rest, rfl⟩
    · -- no escape is left
      rw [txt_ch] at hTx hTl
      have hcs : ∀ j, j < cs.length → T.getD (pre.length + j) 0 ≠ 61 := by
        intro j hj
        have e : T.toList = (pre ++ cs.take j) ++ cs[j] :: cs.drop (j + 1) := by
          rw [hTx, List.append_assoc]; congr 1
          rw [List.getElem_cons_drop, List.take_append_drop]
        have g := getD_at e
        rw [List.length_append, List.length_take, Nat.min_eq_left (Nat.le_of_lt hj)] at g
        rw [g]
        exact hok (.ch cs[j]) (List.mem_map.mpr ⟨cs[j], List.getElem_mem hj, rfl⟩)
      have miss : wpAny (model PySem.Challenge.rw_ny0188_01.row.prog w) (Ar dp un fr gd).in1 (reNextFound { pattern := Value.ref 83, string := Value.str { cps := T } t, code := reC, text := T, kind := 0, groups := 0, pos := 0, lim := T.size } pre.length must) (fun r s' => r = none ∧ s' = s) (fun _ _ => False) s := by
        unfold reNextFound
        by_cases h3 : pre.length + 3 ≤ T.size
        · dsimp only
          rw [forSearch_at h3]
          exact runEnd_miss (2 * cs.length + 3) (by omega) (search_miss cs.length (by omega) hcs) ⟨rfl, rfl⟩
        · exact runEnd_miss 1 (by omega) (forSearch_no h3) ⟨rfl, rfl⟩
      refine wpAny_mono miss (fun r s' hr => ?_) (fun _ _ x => x.elim)
      obtain ⟨rfl, rfl⟩ := hr
      dsimp only
      rw [out_ch] at hR
      by_cases hlt : pre.length < T.size
      · rw [if_pos hlt]
        have hx : T.extract pre.length T.size = cs.toArray := by
          rw [show T.size = pre.length + cs.length from hTl]
          exact extract_mid (c := []) (by rw [hTx, List.append_nil])
        refine wpAny_bind (slice_wp hT hx ?_)
        refine wpAny_bind (wpAny_updateSeq hl rfl ?_ (by simp only [List.size_toArray]; rw [sizeLine_eq]; omega) (by simp only [Array.size_push, List.size_toArray]; rw [sizeLine_eq]; omega))
        show wpAny _ _ (missTail T cnt l) _ _ _
        refine missTail_wp (ps := ps ++ [⟨cs.toArray⟩]) hT (push_get hl) (StrsAre.append' hvs (.cons _ _ .nil)) (by rw [cat_append, List.length_append, cat_one]; omega) fun tk t' => ?_
        rw [cat_append]
        have e : cat [(⟨cs.toArray⟩ : Str)] = cs := by simp [cat]
        rw [e]
        exact hR _ _ _ (kp_update hl0 hk)
      · rw [if_neg hlt]
        have hz : cs = [] := List.eq_nil_of_length_eq_zero (by omega)
        subst hz
        show wpAny _ _ (missTail T cnt l) _ _ _
        refine missTail_wp (ps := ps) hT hl hvs (by omega) fun tk t' => ?_
        have := hR s'.heap tk t' hk
        rw [List.append_nil] at this
        exact this
    · -- the next escape
      have hij : i < 16 ∧ j < 16 := hok (.esc i j) (List.mem_append_right _ (.head _))
      have hok' : ∀ x ∈ rest, x.ok := fun x hx => hok x (List.mem_append_right _ (.tail _ hx))
      have etx : txtOf up (cs.map Tk.ch ++ .esc i j :: rest) = cs ++ ([61, hx up i, hx up j] ++ txtOf up rest) := by
        rw [txt_append, txt_ch]; rfl
      rw [etx] at hTx hTl
      have eT : T.toList = pre ++ cs ++ [61, hx up i, hx up j] ++ txtOf up rest := by rw [hTx]; simp
      have hsz : pre.length + cs.length + 3 ≤ T.size := by
        simp only [List.length_append, List.length_cons, List.length_nil] at hTl; omega
      have hcs : ∀ k, k < cs.length → T.getD (pre.length + k) 0 ≠ 61 := by
        intro k hk9
        have e : T.toList = (pre ++ cs.take k) ++ cs[k] :: (cs.drop (k + 1) ++ ([61, hx up i, hx up j] ++ txtOf up rest)) := by
          rw [hTx, List.append_assoc]; congr 1
          rw [← List.cons_append, List.getElem_cons_drop, ← List.append_assoc (List.take k cs), List.take_append_drop]
        have g := getD_at e
        rw [List.length_append, List.length_take, Nat.min_eq_left (Nat.le_of_lt hk9)] at g
        rw [g]
        exact hok (.ch cs[k]) (List.mem_append_left _ (List.mem_map.mpr ⟨cs[k], List.getElem_mem hk9, rfl⟩))
      have g0 : T.getD (pre.length + cs.length) 0 = 61 := by
        have := getD_at (a := pre ++ cs) (c := 61) (b := [hx up i, hx up j] ++ txtOf up rest) (T := T) (by rw [eT]; simp)
        rwa [List.length_append] at this
      have g1 : T.getD (pre.length + cs.length + 1) 0 = hx up i := by
        have := getD_at (a := pre ++ cs ++ [61]) (c := hx up i) (b := [hx up j] ++ txtOf up rest) (T := T) (by rw [eT]; simp)
        have el : (pre ++ cs ++ [61]).length = pre.length + cs.length + 1 := by simp only [List.length_append, List.length_cons, List.length_nil]
        rw [el] at this
        exact this
      have g2 : T.getD (pre.length + cs.length + 2) 0 = hx up j := by
        have := getD_at (a := pre ++ cs ++ [61, hx up i]) (c := hx up j) (b := txtOf up rest) (T := T) (by rw [eT]; simp)
        have el : (pre ++ cs ++ [61, hx up i]).length = pre.length + cs.length + 2 := by simp only [List.length_append, List.length_cons, List.length_nil]
        rw [el] at this
        exact this
      have hex : T.extract (pre.length + cs.length) (pre.length + cs.length + 3) = #[61, hx up i, hx up j] := by
        have := extract_mid (a := pre ++ cs) (b := [61, hx up i, hx up j]) eT
        rwa [List.length_append] at this
      have hit : wpAny (model PySem.Challenge.rw_ny0188_01.row.prog w) (Ar dp un fr gd).in1 (reNextFound { pattern := Value.ref 83, string := Value.str { cps := T } t, code := reC, text := T, kind := 0, groups := 0, pos := 0, lim := T.size } pre.length must) (fun r s' => (∃ m, r = some m ∧ Hit m (pre.length + cs.length)) ∧ s' = s) (fun _ _ => False) s := by
        unfold reNextFound
        dsimp only
        rw [forSearch_at (by omega)]
        have H := search_hit (T := T) cs.length (s := pre.length) (first := true) (mu := must) (seen := (({} : Sre.Seen).add 14)) hsz hcs g0 (by rw [g1]; exact hx_hex _ _ hij.1) (by rw [g2]; exact hx_hex _ _ hij.2)
        exact runEnd_hit (2 * cs.length + 6) (by omega) H.outcome ⟨⟨_, rfl, H⟩, rfl⟩
      refine wpAny_mono hit (fun r s' hr => ?_) (fun _ _ x => x.elim)
      obtain ⟨⟨m, rfl, hm⟩, rfl⟩ := hr
      dsimp only
      have next : ∀ (vs' : List Value) (ps' : List Str) (ep' : Nat) (h' : Heap) (tk : Nat), StrsAre vs' ps' → cat ps' = cat ps ++ cs → vs'.length ≤ 2 * (pre.length + cs.length) + 1 → Kp h₀ h' → h'.get? l = some (W.listOf vs'.toArray ep') →
          wpAny (model PySem.Challenge.rw_ny0188_01.row.prog w) (Ar dp (un + 1) fr gd) (hitTail T t cnt l m) (fun fin s'' => match fin with | .done f => R (.ok f) s'' | .again c' => c'.quiet = true ∧ codeAny (model PySem.Challenge.rw_ny0188_01.row.prog w) (Ar dp un fr gd) c' R s'') (fun e s'' => R (.error e) s'') { s' with heap := h', toks := tk } := by
        intro vs' ps' ep' h' tk hv hc hlen' hk' hl'
        refine hitTail_wp up T t hT i j hij.1 hij.2 hex X Tp hl0 hdp (by omega) hm hk' hl' (by omega) fun h2 tk2 tv k2 hl2 => ?_
        refine ⟨plainId_quiet plain_loop _, ?_⟩
        have := ih rest (pre ++ cs ++ [61, hx up i, hx up j]) (ps' ++ [⟨#[16 * i + j]⟩]) (vs' ++ [Value.str ⟨#[16 * i + j]⟩ tv]) (ep' + 1) (cnt + 1) (pre.length + cs.length + 3 == pre.length + cs.length) { s' with heap := h2, toks := tk2 }
          (by simp only [List.length_append, List.length_map, List.length_cons] at hn; omega) hok' eT (StrsAre.append' hv (.cons _ _ .nil))
          (by simp only [List.length_append, List.length_cons, List.length_nil]; omega)
          (by rw [cat_append, hc, cat_sign]; simp only [List.length_append, List.length_cons, List.length_nil]; omega) k2 hl2
          (fun h3 tk3 t3 k3 => by
            have q := hR h3 tk3 t3 k3
            have e : cat (ps' ++ [(⟨#[16 * i + j]⟩ : Str)]) ++ rest.map Tk.out = cat ps ++ (cs.map Tk.ch ++ Tk.esc i j :: rest).map Tk.out := by
              rw [cat_append, hc, List.map_append, out_ch, cat_sign]
              simp [Tk.out]
            rw [e]; exact q)
        have el : (pre ++ cs ++ [61, hx up i, hx up j]).length = pre.length + cs.length + 3 := by simp only [List.length_append, List.length_cons, List.length_nil]
        rw [el] at this
        exact this
      by_cases hlt : pre.length < pre.length + cs.length
      · rw [if_pos (show pre.length < m.start by rw [hm.start]; exact hlt)]
        refine wpAny_bind (slice_wp (c := cs) hT (by rw [hm.start]; exact extract_mid (c := [61, hx up i, hx up j] ++ txtOf up rest) (by rw [eT]; simp)) ?_)
        refine wpAny_bind (wpAny_updateSeq hl rfl ?_ (by simp only [List.size_toArray]; rw [sizeLine_eq]; omega) (by simp only [Array.size_push, List.size_toArray]; rw [sizeLine_eq]; omega))
        show wpAny _ (Ar dp (un + 1) fr gd) (hitTail T t cnt l m) _ _ _
        exact next _ (ps ++ [⟨cs.toArray⟩]) _ _ _ (StrsAre.append' hvs (.cons _ _ .nil)) (by rw [cat_append, cat_one]) (by simp only [List.length_append, List.length_cons, List.length_nil]; omega) (kp_update hl0 hk) (push_get hl)
      · rw [if_neg (show ¬ pre.length < m.start by rw [hm.start]; exact hlt)]
        have hz : cs = [] := List.eq_nil_of_length_eq_zero (by omega)
        show wpAny _ (Ar dp (un + 1) fr gd) (hitTail T t cnt l m) _ _ _
        exact next vs ps ep s'.heap s'.toks hvs (by rw [hz, List.append_nil]) (by omega) hk hl
end Mine188
end
section
open PySem PySem.W PySem.Spec PySem.Calls PyProof.Rows PySem.Builtin.Re
set_option maxRecDepth 100000
set_option maxHeartbeats 4000000
namespace Mine188
theorem look_fn_call : typeLookup (.type "function") "__call__" = pure (some (.builtin "function.__call__")) := by rw [typeLookup_type, builtinLookup_eq_fast]; kernel_rfl
theorem str_no_bytearray : isSubtype (.type "str") (.type "bytearray") = pure false := by rw [isSubtype_type]; kernel_rfl
theorem named_sub (a b : Value) : reNamed "re.Pattern.sub" "sub" ["repl", "string", "count"] 2 [a, b] [] = pure [some a, some b, none] := by rfl

theorem call_sub {w : World} {mean : ExcName → Option Value} {mg mb : Str → Option Value} {fr : Option (List Env)} {gd : Option (List Code)} {Q E : Value → Shared → Prop} {s : Shared} {dp un : Nat}
    (up : Bool) (ts : List Tk) (t : Tok) (hT : (txtOf up ts).length ≤ 100000) (hok : ∀ x ∈ ts, x.ok) (X : (hd.heap_39 w.params).In s.heap) (Tp : Top hd.view_39 looseN mean mg mb s.heap) (hdp : dp + 2 < recursionLimit) (hun : un + 70 < cLine)
    (h : ∀ h' tk t', Kp s.heap h' → Q (.str ⟨(ts.map Tk.out).toArray⟩ t') { s with heap := h', toks := tk }) :
    wpAny (model PySem.Challenge.rw_ny0188_01.row.prog w) (Ar dp un fr gd) (call (.builtin "re.Pattern.sub") [.ref 83, .ref 141, .str ⟨(txtOf up ts).toArray⟩ t]) Q E s := by
  have g83 : s.heap.get? 83 = some (objAt (hd.heap_39 w.params) 83) := X 83 _ (by kernel_rfl)
  have c83 : (objAt (hd.heap_39 w.params) 83).cls = .type "re.Pattern" := by kernel_rfl
  have g141 : s.heap.get? 141 = some (objAt (hd.heap_39 w.params) 141) := X 141 _ (by kernel_rfl)
  have c141 : (objAt (hd.heap_39 w.params) 141).cls = .type "function" := by kernel_rfl
  refine wpAny_call (codeAny_call_builtin slot_pat_sub.plain entry_pat_sub (slot_pat_sub.check _ _ _ _ _ _ _ _ ⟨_, g83, c83⟩ (args_pat_sub _ _ _) ?_))
  show wpAny _ _ (reSubstitute "re.Pattern.sub" "sub" false ⟨[.ref 83, .ref 141, .str ⟨(txtOf up ts).toArray⟩ t], []⟩) _ _ _
  unfold reSubstitute
  dsimp only
  rw [named_sub]
  refine wpAny_bind (wpAny_pure ?_)
  dsimp only
  refine wpAny_bind (wpAny_pure ?_)
  refine wpAny_bind (wpAny_specialOf ⟨_, g141, c141⟩ look_fn_call ?_)
  dsimp only [Option.isSome]
  rw [if_pos rfl]
  refine wpAny_bind (wpAny_pure ?_)
  rw [if_pos rfl]
  refine wpAny_bind (wpAny_pure ?_)
  refine wpAny_bind (wpAny_holding (whole_wp X ?_))
  rw [if_pos (show ((1 : Int) == 1) = true from rfl)]
  refine wpAny_bind ?_
  unfold reNotHeld
  refine wpAny_bind (wpAny_isInstance_val rfl str_no_bytearray ?_)
  rw [if_neg Bool.false_ne_true]
  refine wpAny_pure ?_
  refine wpAny_bind (wpAny_newList ?_)
  refine wpAny_pure ⟨plainId_quiet plain_loop _, ?_⟩
  have hl0 : s.heap.get? s.heap.objs.size = none := by
    cases hq : s.heap.get? s.heap.objs.size with
    | none => rfl
    | some o => exact absurd (Heap.lt_size hq) (Nat.lt_irrefl _)
  exact loop_code up (txtOf up ts).toArray t (by simpa using hT) X Tp hl0 hdp hun (ts.length + 1) ts [] [] [] 0 0 false _ (Nat.lt_succ_self _) hok (by simp) .nil (Nat.le_refl _) (Nat.le_refl _) (fun b o e => Heap.get?_push_of_some _ e) (Heap.get?_push_size _ rfl) (fun h' tk t' k => h h' tk t' k)
end Mine188
end
section
open PySem PySem.W PySem.Spec PySem.Calls PyProof.Rows
set_option maxRecDepth 100000
set_option maxHeartbeats 0
namespace Mine188
theorem hdec_ctr (up : Bool) (ts : List Tk) (x : Str) (t : Tok) (hx9 : x.length ≤ 100000) (hok : ∀ y ∈ ts, y.ok) (hrep : Txt.replace x (Str.ofString "_") (Str.ofString " ") = ⟨(txtOf up ts).toArray⟩) (hT : (txtOf up ts).length ≤ 100000) :
    Ctr 5 148 [.str x t] (fun _ => True) (fun _ r _ => ∃ t, r = .str ⟨(ts.map Tk.out).toArray⟩ t) := by
  unfold Ctr
  k_fill
  intro w mean mg mb dp un fr gd s Q E X T' hp hdp hu hret
  k_dflt (refine' enter1 ?k1 ?k2 ?k6 ?k7 ?k8 ?k9 ?kB ?_ ?c2 ?c3 ?c4 ?c5; (case k1 => exact X); (case k2 => exact T'); (case k6 => k_is); (case k7 => k_is); (case k8 => exact Nat.lt_of_le_of_lt (Nat.le_add_right _ _) hdp); (case k9 => exact BindsTo.of_eq rfl); (case c5 => decide); (case kB => exact locs rfl); (case c2 => exact rfl); (case c3 => exact rfl); (case c4 => exact rfl); k_whole; intro L' h' F' N'; (try dsimp only); (try k_fold))
  refine wpAny_execs_cons ?_
  k_steps
  rename Fr _ _ _ _ => F9
  rename News _ _ _ _ => N9
  have g83 : s.heap.get? 83 = some (objAt (Mine188.hd.heap_39 w.params) 83) := X 83 _ (by kernel_rfl)
  have c83 : (objAt (Mine188.hd.heap_39 w.params) 83).cls = .type "re.Pattern" := by kernel_rfl
  have d83 : (objAt (Mine188.hd.heap_39 w.params) 83).dict = none := by kernel_rfl
  refine getMethod_sub (F9.keep _ _ g83) c83 d83 ?_
  rw [hrep] at F9
  k_steps
  refine call_sub up ts _ hT hok (X.keeps F9.keep) (T'.keeps F9.keep) (by show dp + 1 + 2 < recursionLimit; omega) (by show un + 3 + 70 < cLine; omega) fun h9 tk9 t9 k9 => ?_
  k_steps
  exact hret _ _ _ (fun b o e => k9 b o (F9.keep b o e)) ⟨_, rfl⟩
end Mine188
end
section
open PySem PySem.W PySem.Spec PySem.Calls PyProof.Rows PySem.Builtin
set_option maxRecDepth 100000
set_option maxHeartbeats 4000000
namespace Mine188
theorem lat_loop {M : Model} {A : Around} {E : Value → Shared → Prop} {s : Shared} {b : Array UInt8} {Q : Nat × Array Nat × _codecs.Faults → Shared → Prop} (hb : b.size ≤ 100000) (h : ∀ st, Q (b.size, (b.toList.map (·.toNat)).toArray, st) s) :
    ∀ (l : List Nat) (p : Nat) (out : Array Nat) (st : _codecs.Faults), p + l.length = b.size → out.toList = (b.toList.take p).map (·.toNat) →
      wpAny M A (forIn l (p, out, st) fun (_ : Nat) (x : Nat × Array Nat × _codecs.Faults) =>
            if x.2.1.size > sizeLine then (do
              unsupported "str:memory"
              if x.1 ≥ b.size then pure (ForInStep.done (x.1, x.2.1, x.2.2))
                else pure (ForInStep.yield (x.1 + 1, x.2.1 ++ #[(b.getD x.1 0).toNat], x.2.2)) : Sem (ForInStep (Nat × Array Nat × _codecs.Faults)))
            else
              if x.1 ≥ b.size then pure (ForInStep.done (x.1, x.2.1, x.2.2))
              else pure (ForInStep.yield (x.1 + 1, x.2.1 ++ #[(b.getD x.1 0).toNat], x.2.2))) Q E s := by
  intro l
  induction l with
  | nil =>
    intro p out st hp ho
    have hp' : p = b.size := by simpa using hp
    subst hp'
    refine wpAny_pure ?_
    have : out = (b.toList.map (·.toNat)).toArray := by
      apply Array.toList_inj.mp
      rw [ho, List.take_of_length_le (by simp)]
    rw [this]; exact h st
  | cons a l ih =>
    intro p out st hp ho
    rw [List.length_cons] at hp
    have hlt : p < b.size := by omega
    rw [List.forIn_cons]
    refine wpAny_bind ?_
    have hos : out.size = p := by rw [← Array.length_toList, ho, List.length_map, List.length_take, Array.length_toList]; omega
    have h1 : ¬ (out.size > sizeLine) := by rw [hos, sizeLine_eq]; omega
    have h2 : ¬ (p ≥ b.size) := by omega
    dsimp only
    rw [if_neg h1, if_neg h2]
    refine wpAny_pure ?_
    refine ih (p + 1) _ st (by omega) ?_
    rw [Array.toList_append, ho, List.take_add_one, List.map_append]
    congr 1
    simp [hlt]
theorem lat_run {M : Model} {A : Around} {E : Value → Shared → Prop} {s : Shared} {id : String} {b : Array UInt8} {Q : Array Nat × Nat → Shared → Prop} (hb : b.size ≤ 100000) (h : Q ((b.toList.map (·.toNat)).toArray, b.size) s) :
    wpAny M A (_codecs.runDecoder id _codecs.latin1Decoder none true b 0 []) Q E s := by
  unfold _codecs.runDecoder
  dsimp only [_codecs.latin1Decoder, _codecs.Found.char]
  rw [Std.Legacy.Range.forIn_eq_forIn_range']
  refine wpAny_bind (lat_loop hb (fun st => wpAny_pure h) _ 0 #[] _ ?_ rfl)
  show 0 + (List.range' 0 ((b.size - 0 + 1 - 1) / 1) 1).length = b.size
  rw [List.length_range']
  simp

theorem road_lat {id : String} {b : Array UInt8} : _codecs.decodeRoad id b (PySem.Str.ofString "latin1") none [] = (_codecs.runDecoder id _codecs.latin1Decoder none true b 0 [] >>= fun r => mkStr ⟨r.1⟩) := by kernel_rfl
theorem text_lat {b : Array UInt8} {t t1 t2 : Tok} {d : PySem.Str} (hb : b.size ≤ 100000) :
    Meets («_codecs.decode.text» ⟨[.bytes b t, .str (PySem.Str.ofString "latin1") t1, .none, .str d t2], []⟩) (fun _ R s => R (.ok (.ret (.str ⟨(b.toList.map (·.toNat)).toArray⟩ s.toks))) { s with toks := s.toks + 1 }) := by
  refine .of_wp fun prog w A R s h => ?_
  show wpAny _ _ (Bytes.bytesLike _ (.bytes b t) >>= fun r => _) _ _ s
  refine wpAny_bind (wpAny_of_eq KBd.like_eq ?_)
  refine wpAny_bind (wpAny_of_eq KBd.held_eq ?_)
  show wpAny _ _ (_codecs.decodeRoad _ b (PySem.Str.ofString "latin1") none [] >>= fun v => _) _ _ s
  rw [road_lat]
  refine wpAny_bind (wpAny_bind (lat_run hb ?_))
  exact wpAny_mkStr (wpAny_pure ⟨_, rfl, h⟩) (by show (b.toList.map (·.toNat)).toArray.size ≤ _; simp only [List.size_toArray, List.length_map, Array.length_toList]; rw [sizeLine_eq]; omega)
theorem entry_lat {c : UInt8} {cs : List UInt8} {t t1 : Tok} : «bytes.decode» ⟨[.bytes (c :: cs).toArray t, .str (PySem.Str.ofString "latin1") t1], []⟩ = (mkStr (PySem.Str.ofString "utf-8") >>= fun _ => mkStr (PySem.Str.ofString "latin1") >>= fun e => mkStr (PySem.Str.ofString "bytes.decode") >>= fun d =>
    call (.builtin "_codecs.decode.text") [.bytes (c :: cs).toArray t, e, .none, d] >>= fun v => ret v) := by kernel_rfl
theorem args_decode_2 (a b : Value) : argsOk "bytes.decode" ⟨[a, b], []⟩ := by unfold argsOk; kernel_rfl
theorem call_lat {prog : Program} {w : World} {A : Around} {E : Value → Shared → Prop} {s : Shared} {c : UInt8} {cs : List UInt8} {t t1 : Tok} {Q : Value → Shared → Prop} (hb : (c :: cs).length ≤ 100000)
    (h : ∀ t' k, Q (.str ⟨((c :: cs).map (·.toNat)).toArray⟩ t') { s with toks := k }) :
    wpAny (model prog w) A (call (.builtin "bytes.decode") [.bytes (c :: cs).toArray t, .str (PySem.Str.ofString "latin1") t1]) Q E s := by
  refine call_meets FB.slot_bytes_decode (typeIs_bytes _ _ _) FB.entry_bytes_decode (args_decode_2 _ _) (S := fun _ R s => ∀ t' k, R (.ok (.ret (.str ⟨((c :: cs).map (·.toNat)).toArray⟩ t'))) { s with toks := k }) ?_ h
  refine .of_wp fun prog w A R s h => ?_
  rw [entry_lat]
  refine wpAny_bind (wpAny_mkStr ?_ (by decide))
  refine wpAny_bind (wpAny_mkStr ?_ (by decide))
  refine wpAny_bind (wpAny_mkStr ?_ (by decide))
  exact wpAny_bind (call_function_meets KBd.kind_text KBd.plain_text KBd.entry_text (KBd.args_text _ _ _ _) (text_lat (by simpa using hb)) (wpAny_pure ⟨_, rfl, h _ _⟩))
end Mine188
end
section
open PySem PySem.W PySem.Spec PySem.Calls PyProof.Rows PySem.Builtin
set_option maxRecDepth 100000
set_option maxHeartbeats 4000000
namespace Mine188
def isSafe (c : Nat) : Bool := (48 ≤ c && c ≤ 57) || (65 ≤ c && c ≤ 90) || (97 ≤ c && c ≤ 122) || c == 33 || c == 42 || c == 43 || c == 45 || c == 47
/-- what a header's octet is written as -/
def hdrOf (c : Nat) : Str := if c == 32 then ⟨#[95]⟩ else if isSafe c then ⟨#[c]⟩ else escOf c
theorem hmap_list {P : Params} {h : Heap} (X : (hd.heap_39 P).In h) : h.IsList 91 (seqAt (hd.heap_39 P) 91) := ⟨objAt (hd.heap_39 P) 91, X 91 _ (by kernel_rfl), by kernel_rfl, epAt (hd.heap_39 P) 91, by kernel_rfl⟩
theorem hmap_items (P : Params) : ∀ k : Nat, k < 256 → ∃ t, (seqAt (hd.heap_39 P) 91)[k]? = some (.str (hdrOf k) t) := by
  have key : (List.range 256).all (fun k => isStrV (seqAt (hd.heap_39 P) 91)[k]? (hdrOf k)) = true := by kernel_rfl
  intro k hk
  exact isStrV_some (List.all_eq_true.mp key k (List.mem_range.mpr hk))

theorem look_wp {prog : Program} {w : World} {A : Around} {E : Value → Shared → Prop} {s : Shared} {P : Params} {c : Nat} {Q : Str.Mapped → Shared → Prop} (X : (hd.heap_39 P).In s.heap) (hc : c < 256) (h : ∀ k, Q (.text (hdrOf c)) { s with toks := k }) :
    wpAny (model prog w) A (Str.tableLookup (.ref 91) c) Q E s := by
  obtain ⟨t, ht⟩ := hmap_items P c hc
  unfold Str.tableLookup
  refine wpAny_bind (wpAny_attempt ?_)
  refine wpAny_bind (wpAny_mkInt ?_)
  refine wpAny_getItem_list (hmap_list X) (by omega) (by omega) (by rw [Int.toNat_natCast]; exact ht) ?_
  refine wpAny_bind (wpAny_of_eq (a := none) rfl ?_)
  refine wpAny_bind (wpAny_of_eq (a := some (hdrOf c)) rfl ?_)
  exact wpAny_pure (h _)

theorem forIn_wp {M : Model} {A : Around} {E : Value → Shared → Prop} {α β : Type} (f : α → β → Sem (ForInStep β)) (I : List α → β → Prop) {Q : β → Shared → Prop} {s : Shared}
    (step : ∀ a rest st k, I (a :: rest) st → wpAny M A (f a st) (fun r s' => ∃ st' k', r = .yield st' ∧ I rest st' ∧ s' = { s with toks := k' }) E { s with toks := k })
    (fin : ∀ st k, I [] st → Q st { s with toks := k }) : ∀ (l : List α) (st : β) (k : Nat), I l st → wpAny M A (forIn l st f) Q E { s with toks := k } := by
  intro l
  induction l with
  | nil => intro st k h; exact wpAny_pure (fin st k h)
  | cons a l ih =>
    intro st k h
    rw [List.forIn_cons]
    refine wpAny_bind (wpAny_mono (step a l st k h) (fun r s' hr => ?_) fun _ _ x => x)
    obtain ⟨st', k', rfl, hI, rfl⟩ := hr
    exact ih st' k' hI

def hdrs (cs : List Nat) : List Nat := cs.flatMap fun c => (hdrOf c).cps.toList
def gl (ps : List Str) : List Nat := ps.flatMap fun p => p.cps.toList
structure TrI (x : List Nat) (rest : List Nat) (st : List Str × Nat × Bool × List (Nat × Option Nat) × Bool) : Prop where
  ex : ∃ done, x = done ++ rest ∧ gl st.1.reverse = hdrs done ∧ st.2.1 = (hdrs done).length
  known : ∀ c a, st.2.2.2.1.lookup c = some a → ∃ d, a = some d ∧ hdrOf c = ⟨#[d]⟩
  drop : st.2.2.2.2 = false

theorem hdr_len (c : Nat) : (hdrOf c).cps.toList.length ≤ 3 := by unfold hdrOf; (repeat' split) <;> simp [escOf]
theorem hdr_cases (c : Nat) : (∃ d, d < 128 ∧ hdrOf c = ⟨#[d]⟩) ∨ ∃ a b e, hdrOf c = ⟨#[a, b, e]⟩ := by
  unfold hdrOf
  split
  · exact .inl ⟨95, by decide, rfl⟩
  · split
    · rename_i hs
      refine .inl ⟨c, ?_, rfl⟩
      unfold isSafe at hs
      simp only [Bool.or_eq_true, Bool.and_eq_true, decide_eq_true_eq, beq_iff_eq] at hs
      omega
    · exact .inr ⟨_, _, _, rfl⟩
theorem hdrs_len (cs : List Nat) : (hdrs cs).length ≤ 3 * cs.length := by
  induction cs with
  | nil => exact Nat.le_refl _
  | cons c r ih =>
    have := hdr_len c
    simp only [hdrs, List.flatMap_cons, List.length_append, List.length_cons] at ih ⊢
    omega
theorem gl_push (ps : List Str) (p : Str) : gl (p :: ps).reverse = gl ps.reverse ++ p.cps.toList := by simp [gl]
theorem TrI.more {x : List Nat} {c : Nat} {rest : List Nat} {st : List Str × Nat × Bool × List (Nat × Option Nat) × Bool} (h : TrI x (c :: rest) st) {fast : Bool} {known : List (Nat × Option Nat)} {n : Nat} (p : Str) (hp : p = hdrOf c) (hn : n = st.2.1 + p.length)
    (hk : ∀ c a, known.lookup c = some a → ∃ d, a = some d ∧ hdrOf c = ⟨#[d]⟩) : TrI x rest (p :: st.1, n, fast, known, false) := by
  obtain ⟨done, h1, h2, h3⟩ := h.ex
  refine ⟨⟨done ++ [c], by rw [h1]; simp, ?_, ?_⟩, hk, rfl⟩
  · show gl (p :: st.1).reverse = _
    rw [gl_push, h2, hp]; simp [hdrs]
  · show n = _
    rw [hn, h3, hp]; simp [hdrs]; rfl

theorem trans_wp {prog : Program} {w : World} {A : Around} {E : Value → Shared → Prop} {s : Shared} {P : Params} {x : Str} {t : Tok} {Q : PySem.Fin → Shared → Prop} (X : (hd.heap_39 P).In s.heap) (hx0 : x.length ≠ 0) (hx : ∀ c ∈ x.cps.toList, c < 256) (hl : x.length ≤ 100000)
    (h : ∀ t' k, Q (.done (.ret (.str ⟨(hdrs x.cps.toList).toArray⟩ t'))) { s with toks := k }) :
    wpAny (model prog w) A («str.translate» ⟨[.str x t, .ref 91], []⟩) Q E s := by
  have h0 : (x.length == 0) = false := by simpa using hx0
  have hlen : x.cps.toList.length ≤ 100000 := by rw [Array.length_toList]; exact hl
  have long : ∀ n, n ≤ 300000 → Str.tooLong n = false := by
    intro n hn
    unfold Str.tooLong
    exact decide_eq_false (by rw [sizeLine_eq]; omega)
  unfold «str.translate»
  refine wpAny_bind (wpAny_of_eq (a := (.str x t, x, .ref 91)) rfl ?_)
  dsimp only
  rw [h0, if_neg Bool.false_ne_true, ← Array.forIn_toList]
  refine wpAny_bind (forIn_wp (s := s) _ (TrI x.cps.toList) ?_ ?_ x.cps.toList _ s.toks ⟨⟨[], rfl, rfl, rfl⟩, fun c a e => (nomatch e), rfl⟩)
  · intro c rest st k hI
    obtain ⟨done, e1, e2, e3⟩ := hI.ex
    have hc : c < 256 := hx c (by rw [e1]; simp)
    have hd : done.length ≤ 100000 := by rw [e1, List.length_append] at hlen; omega
    have hl1 := hdrs_len done
    have htl : Str.tooLong st.2.1 = false := long _ (by omega)
    rw [htl, if_neg Bool.false_ne_true]
    have slow : ∀ (kn : List (Nat × Option Nat)) (k : Nat), (∀ c a, kn.lookup c = some a → ∃ d, a = some d ∧ hdrOf c = ⟨#[d]⟩) → ∀ fs : Bool, 
        wpAny (model prog w) A (Str.tableLookup (Value.ref 91) c >>= fun (r : Str.Mapped) => match r with
          | Str.Mapped.keep => pure (ForInStep.yield (({ cps := #[c] } : Str) :: st.1, st.2.1 + 1, fs, kn, st.2.2.2.2))
          | Str.Mapped.drop => pure (ForInStep.yield (st.1, st.2.1, fs, kn, true))
          | Str.Mapped.char d => pure (ForInStep.yield (({ cps := #[d] } : Str) :: st.1, st.2.1 + 1, fs, kn, st.2.2.2.2))
          | Str.Mapped.text t => pure (ForInStep.yield (t :: st.1, st.2.1 + t.length, fs, kn, st.2.2.2.2))) (fun r s' => ∃ st' k', r = .yield st' ∧ TrI x.cps.toList rest st' ∧ s' = { s with toks := k' }) E { s with toks := k } := by
      intro kn k hkn fs
      refine wpAny_bind (look_wp (P := P) X hc fun k' => ?_)
      refine wpAny_pure ⟨_, k', rfl, ?_, rfl⟩
      rw [hI.drop]
      exact hI.more _ rfl rfl hkn
    obtain ⟨pieces, total, fast, known, ad⟩ := st
    have had : ad = false := hI.drop
    subst had
    cases fast with
    | false =>
      rw [if_neg Bool.false_ne_true, if_neg Bool.false_ne_true]
      exact slow known k hI.known false
    | true =>
      rw [if_pos rfl]
      dsimp only
      cases hk : known.lookup c with
      | some a =>
        obtain ⟨d, rfl, hd'⟩ := hI.known c a hk
        dsimp only
        refine wpAny_bind (wpAny_pure ?_)
        dsimp only
        exact wpAny_pure ⟨_, k, rfl, hI.more ⟨#[d]⟩ hd'.symm rfl hI.known, rfl⟩
      | none =>
        dsimp only
        refine wpAny_bind (look_wp (P := P) X hc fun k' => ?_)
        dsimp only
        rcases hdr_cases c with ⟨d, hd1, hd2⟩ | ⟨a, b, e, hd2⟩
        · rw [hd2]
          have cond : ((({ cps := #[d] } : Str).length == 1 && ({ cps := #[d] } : Str).cps.all fun x => decide (x < 128)) = true) := by
            simp [PySem.Str.length, hd1]
          rw [if_pos cond]
          dsimp only
          refine wpAny_bind (wpAny_pure ?_)
          show wpAny _ _ (pure (ForInStep.yield (({ cps := #[d] } : Str) :: pieces, total + 1, true, (c, some d) :: known, false))) _ _ _
          refine wpAny_pure ⟨_, k', rfl, hI.more ⟨#[d]⟩ hd2.symm rfl ?_, rfl⟩
          intro c2 a2 e2'
          rw [List.lookup_cons] at e2'
          by_cases q : (c2 == c) = true
          · rw [q] at e2'
            cases e2'
            rw [eq_of_beq q]
            exact ⟨d, rfl, hd2⟩
          · simp only [Bool.not_eq_true] at q
            rw [q] at e2'
            exact hI.known c2 a2 e2'
        · rw [hd2]
          have cond : ¬ ((({ cps := #[a, b, e] } : Str).length == 1 && ({ cps := #[a, b, e] } : Str).cps.all fun x => decide (x < 128)) = true) := by
            simp [PySem.Str.length]
          rw [if_neg cond]
          dsimp only
          refine wpAny_bind (wpAny_pure ?_)
          dsimp only
          refine wpAny_bind (wpAny_rule ?_)
          rw [if_neg Bool.false_ne_true]
          exact slow known k' hI.known false
  · intro st k hI
    obtain ⟨done, e1, e2, e3⟩ := hI.ex
    rw [List.append_nil] at e1
    subst e1
    have hl1 := hdrs_len x.cps.toList
    have htl : Str.tooLong st.2.1 = false := long _ (by omega)
    rw [htl, if_neg Bool.false_ne_true]
    unfold retStr
    have fe : ∀ (ps : List Str) (a : Array Nat), (ps.foldl (fun acc (p : Str) => acc ++ p.cps) a).toList = a.toList ++ gl ps := by
      intro ps
      induction ps with
      | nil => intro a; simp [gl]
      | cons p r ih => intro a; rw [List.foldl_cons, ih]; simp [gl]
    have ee : (⟨st.1.reverse.foldl (fun acc (p : Str) => acc ++ p.cps) #[]⟩ : Str) = ⟨(hdrs x.cps.toList).toArray⟩ := by
      congr 1
      apply Array.toList_inj.mp
      rw [fe, e2]; rfl
    rw [ee]
    refine wpAny_bind (wpAny_mkStr (wpAny_pure (h _ _)) ?_)
    show (hdrs x.cps.toList).toArray.size ≤ _
    rw [List.size_toArray, sizeLine_eq]; omega
end Mine188
end
section
open PySem PySem.W PySem.Spec PySem.Calls PyProof.Rows
set_option maxRecDepth 100000
set_option maxHeartbeats 0
namespace Mine188
theorem call_trans {prog : Program} {w : World} {A : Around} {E : Value → Shared → Prop} {s : Shared} {P : Params} {x : Str} {t : Tok} {Q : Value → Shared → Prop} (X : (hd.heap_39 P).In s.heap) (hx0 : x.length ≠ 0) (hx : ∀ c ∈ x.cps.toList, c < 256) (hl : x.length ≤ 100000)
    (h : ∀ y t' k, y = (⟨(hdrs x.cps.toList).toArray⟩ : Str) → y.length ≤ 1048576 → Q (.str y t') { s with toks := k }) : wpAny (model prog w) A (call (.builtin "str.translate") [.str x t, .ref 91]) Q E s :=
  wpAny_call_entry F.slot_str_translate (typeIs_str _ _ _) F.entry_str_translate (trans_wp X hx0 hx hl fun t' k => ⟨_, rfl, h _ t' k rfl (by
    have h1 := hdrs_len x.cps.toList
    have h2 : x.cps.toList.length = x.length := Array.length_toList
    show (hdrs x.cps.toList).toArray.size ≤ _
    rw [List.size_toArray]; omega)⟩) (F.args_str_translate_2 _ _)

theorem henc_ctr (c : UInt8) (cs : List UInt8) (t : Tok) (hb : (c :: cs).length ≤ 1000) : Ctr 1 121 [.bytes (c :: cs).toArray t] (fun _ => True)
    (fun _ r _ => ∃ t, r = .str (Str.ofString "=?iso-8859-1?q?" ++ ⟨(hdrs ((c :: cs).map (·.toNat))).toArray⟩ ++ Str.ofString "?=") t) := by
  unfold Ctr
  k_fill
  intro w mean mg mb dp un fr gd s Q E X T' hp hdp hu hret
  have g114 : s.heap.get? 114 = some (objAt (Mine188.hd.heap_39 w.params) 114) := X 114 _ (by kernel_rfl)
  have d114 : (objAt (Mine188.hd.heap_39 w.params) 114).data = .seq (seqAt (Mine188.hd.heap_39 w.params) 114) (epAt (Mine188.hd.heap_39 w.params) 114) := by kernel_rfl
  k_dflt (refine' enter1 ?k1 ?k2 ?k6 ?k7 ?k8 ?k9 ?kB ?_ ?c2 ?c3 ?c4 ?c5; (case k1 => exact X); (case k2 => exact T'); (case k6 => k_is); (case k7 => k_is); (case k8 => exact Nat.lt_of_le_of_lt (Nat.le_add_right _ _) hdp); (case k9 => exact BindsTo.of_defaults rfl g114 d114 rfl rfl); (case c5 => decide); (case kB => exact locs rfl); (case c2 => exact rfl); (case c3 => exact rfl); (case c4 => exact rfl); k_whole; intro L' h' F' N'; (try dsimp only); (try k_fold))
  k_steps
  · refine call_lat (by omega) fun t9 k9 => ?_
    k_steps
    refine getMethod_builtin (typeIs_str _ _ _) F.plainAttrs_str F.slot_str_translate F.type_str_translate (fun _ e => nomatch e) ?_
    k_steps
    have hlen : (⟨(List.map (fun (x : UInt8) => x.toNat) (c :: cs)).toArray⟩ : Str).length = (c :: cs).length := by simp [PySem.Str.length]
    refine call_trans (P := w.params) (X.keeps F'.keep) (by rw [hlen]; simp) ?_ (by rw [hlen]; omega) fun y t8 k8 hy hyl => ?_
    · intro x9 hx9
      have hx8 : x9 ∈ (List.map (fun (x : UInt8) => x.toNat) (c :: cs)) := hx9
      obtain ⟨y, _, rfl⟩ := List.mem_map.mp hx8
      exact y.toNat_lt
    k_steps
    rename Fr _ _ _ _ => F9
    have e : Str.empty ++ Str.ofString "=?" ++ Str.ofString "iso-8859-1" ++ Str.ofString "?q?" = Str.ofString "=?iso-8859-1?q?" := by decide +kernel
    have hret9 : ∀ t h' tk, Kp s.heap h' → Q (.str (Str.empty ++ Str.ofString "=?" ++ Str.ofString "iso-8859-1" ++ Str.ofString "?q?" ++ y ++ Str.ofString "?=") t) { s with heap := h', toks := tk } := fun t h' tk k => hret _ _ _ k ⟨t, by rw [e, hy]⟩
    exact hret9 _ _ _ F9.keep
  · rename ((_ : Nat) : Int) = 0 => h9
    exfalso
    simp only [List.size_toArray, List.length_cons] at h9
    omega
end Mine188
end
section
open PySem PySem.W PySem.Spec PySem.Calls PyProof.Rows PySem.Builtin PySem.Builtin.Str
set_option maxRecDepth 100000
set_option maxHeartbeats 4000000
namespace Mine188
open StrLaws
theorem ls_seg (s : Str) : ∀ (k cur m : Nat) (st : LsSt), (∀ j, j < k → Unicode.isLineBreak (s.cps.getD (cur + j) 0) = false) →
    Id.run (forIn (m := Id) (List.range' cur (k + m)) st (lsBody s)) = Id.run (forIn (m := Id) (List.range' (cur + k) m) st (lsBody s)) := by
  intro k
  induction k with
  | zero => intro cur m st _; rw [Nat.zero_add, Nat.add_zero]
  | succ k ih =>
    intro cur m st h
    rw [show k + 1 + m = (k + m) + 1 by omega, List.range'_succ, List.forIn_cons]
    have h0 := h 0 (by omega)
    rw [Nat.add_zero] at h0
    have e : lsBody s cur st = pure (ForInStep.yield st) := by
      unfold lsBody
      rw [h0, Bool.and_false, if_neg Bool.false_ne_true]
    rw [e]
    show Id.run (forIn (m := Id) (List.range' (cur + 1) (k + m)) st (lsBody s)) = _
    rw [ih (cur + 1) m st (fun j hj => by rw [show cur + 1 + j = cur + (j + 1) by omega]; exact h (j + 1) (by omega)), show cur + 1 + k = cur + (k + 1) by omega]
theorem ls_brk (s : Str) (cur m start : Nat) (a : Array (Nat × Nat × Nat)) (hc : s.cps.getD cur 0 = 10) (hs : start ≤ cur) :
    Id.run (forIn (m := Id) (List.range' cur (m + 1)) ((a, start) : LsSt) (lsBody s)) = Id.run (forIn (m := Id) (List.range' (cur + 1) m) ((a.push (start, cur, cur + 1), cur + 1) : LsSt) (lsBody s)) := by
  rw [List.range'_succ, List.forIn_cons]
  have hn : lsNext s cur = cur + 1 := by unfold lsNext; rw [hc]; rfl
  have hb : Unicode.isLineBreak 10 = true := by decide +kernel
  have e : lsBody s cur (a, start) = pure (ForInStep.yield (a.push (start, cur, cur + 1), cur + 1)) := by
    unfold lsBody
    rw [hn, hc, hb, Bool.and_true]
    rw [if_pos (decide_eq_true hs)]
  rw [e]
  rfl

def joinNl : List (List Nat) → List Nat
  | [] => []
  | [l] => l
  | l :: r => l ++ 10 :: joinNl r
def spansOf : Nat → List (List Nat) → List (Nat × Nat × Nat)
  | _, [] => []
  | p, [l] => [(p, p + l.length, p + l.length)]
  | p, l :: r => (p, p + l.length, p + l.length + 1) :: spansOf (p + l.length + 1) r

theorem getD_mid {T : Array Nat} {a b c : List Nat} (h : T.toList = a ++ b ++ c) {j : Nat} (hj : j < b.length) : T.getD (a.length + j) 0 = b[j] := by
  have : T = (a ++ b ++ c).toArray := by rw [← h]
  rw [this]
  simp [List.getElem?_append_right, List.getElem?_append_left, hj, Nat.add_sub_cancel_left]

theorem ls_all (s : Str) : ∀ (ls : List (List Nat)) (pre : List Nat) (a : Array (Nat × Nat × Nat)), ls ≠ [] → (∀ l ∈ ls, l ≠ [] ∧ ∀ c ∈ l, Unicode.isLineBreak c = false) → s.cps.toList = pre ++ joinNl ls →
    lsEnd s (Id.run (forIn (m := Id) (List.range' pre.length (joinNl ls).length) ((a, pre.length) : LsSt) (lsBody s))) = a.toList ++ spansOf pre.length ls := by
  intro ls
  induction ls with
  | nil => intro pre a h; exact absurd rfl h
  | cons l r ih =>
    intro pre a _ hls hs
    have hl := hls l (.head _)
    have hlen : s.length = pre.length + (joinNl (l :: r)).length := by
      show s.cps.size = _
      rw [← Array.length_toList, hs, List.length_append]
    cases r with
    | nil =>
      have hs' : s.cps.toList = pre ++ l ++ [] := by rw [List.append_nil]; exact hs
      have hlen' : s.length = pre.length + l.length := hlen
      have hseg : ∀ j, j < l.length → Unicode.isLineBreak (s.cps.getD (pre.length + j) 0) = false := fun j hj => by
        rw [getD_mid hs' hj]; exact hl.2 _ (List.getElem_mem hj)
      show lsEnd s (Id.run (forIn (m := Id) (List.range' pre.length (l.length + 0)) ((a, pre.length) : LsSt) (lsBody s))) = _
      rw [ls_seg s l.length pre.length 0 _ hseg]
      have hpos : 0 < l.length := List.length_pos_iff.mpr hl.1
      show (if pre.length < s.length then a.push (pre.length, s.length, s.length) else a).toList = a.toList ++ [(pre.length, pre.length + l.length, pre.length + l.length)]
      rw [if_pos (by omega), hlen', Array.toList_push]
    | cons l2 r2 =>
      have hs' : s.cps.toList = pre ++ l ++ (10 :: joinNl (l2 :: r2)) := by rw [hs, List.append_assoc]; rfl
      have hseg : ∀ j, j < l.length → Unicode.isLineBreak (s.cps.getD (pre.length + j) 0) = false := fun j hj => by
        rw [getD_mid hs' hj]; exact hl.2 _ (List.getElem_mem hj)
      have h10 : s.cps.getD (pre.length + l.length) 0 = 10 := by
        have h := getD_mid (T := s.cps) (a := pre ++ l) (b := [10]) (c := joinNl (l2 :: r2)) (by rw [hs']; simp) (j := 0) (by simp)
        rw [List.length_append] at h
        exact h
      have el : (joinNl (l :: l2 :: r2)).length = l.length + ((joinNl (l2 :: r2)).length + 1) := by
        show (l ++ 10 :: joinNl (l2 :: r2)).length = _
        rw [List.length_append, List.length_cons]
      rw [el, ls_seg s l.length pre.length _ _ hseg, ls_brk s _ _ _ _ h10 (by omega)]
      have := ih (pre ++ l ++ [10]) (a.push (pre.length, pre.length + l.length, pre.length + l.length + 1)) (by simp) (fun q hq => hls q (.tail _ hq)) (by rw [hs']; simp)
      have ep : (pre ++ l ++ [10]).length = pre.length + l.length + 1 := by simp only [List.length_append, List.length_cons, List.length_nil]
      rw [ep] at this
      rw [this, Array.toList_push, List.append_assoc]
      rfl

theorem lines_linesOf (x : Str) : Txt.lines x = linesOf x := by
  unfold Txt.lines
  split
  · rename_i h
    unfold linesOf
    rw [eq_of_beq h]
    show [x] = [strSub x 0 x.length]
    unfold strSub PySem.Str.length
    rw [Array.extract_size]
  · rfl
theorem cut_mid {T : Array Nat} {a b c : List Nat} (h : T.toList = a ++ b ++ c) : T.extract a.length (a.length + b.length) = b.toArray := by
  have : T = (a ++ b ++ c).toArray := by rw [← h]
  rw [this]
  simp
theorem subs_all (x : Str) : ∀ (ls : List (List Nat)) (pre : List Nat), x.cps.toList = pre ++ joinNl ls → (spansOf pre.length ls).map (fun p => strSub x p.1 p.2.1) = ls.map fun l => (⟨l.toArray⟩ : Str) := by
  intro ls
  induction ls with
  | nil => intro pre _; rfl
  | cons l r ih =>
    intro pre hx
    cases r with
    | nil =>
      show [strSub x pre.length (pre.length + l.length)] = [(⟨l.toArray⟩ : Str)]
      unfold strSub
      rw [cut_mid (a := pre) (b := l) (c := []) (by rw [List.append_nil]; exact hx)]
    | cons l2 r2 =>
      have hs' : x.cps.toList = pre ++ l ++ (10 :: joinNl (l2 :: r2)) := by rw [hx, List.append_assoc]; rfl
      have := ih (pre ++ l ++ [10]) (by rw [hs']; simp)
      have ep : (pre ++ l ++ [10]).length = pre.length + l.length + 1 := by simp only [List.length_append, List.length_cons, List.length_nil]
      rw [ep] at this
      show strSub x pre.length (pre.length + l.length) :: (spansOf (pre.length + l.length + 1) (l2 :: r2)).map _ = _
      rw [this]
      unfold strSub
      rw [cut_mid hs']
      rfl
theorem lines_join (x : Str) (ls : List (List Nat)) (h0 : ls ≠ []) (hls : ∀ l ∈ ls, l ≠ [] ∧ ∀ c ∈ l, Unicode.isLineBreak c = false) (hx : x.cps.toList = joinNl ls) : Txt.lines x = ls.map fun l => (⟨l.toArray⟩ : Str) := by
  have e1 := ls_all x ls [] #[] h0 hls hx
  have hlen : x.length = (joinNl ls).length := by show x.cps.size = _; rw [← Array.length_toList, hx]
  have e2 : lineSpans x = spansOf 0 ls := by
    rw [ls_eq, hlen]
    exact e1
  rw [lines_linesOf]
  unfold linesOf lineCuts
  rw [e2, List.map_map]
  exact subs_all x ls [] hx
end Mine188
end
section
open PySem PySem.W PySem.Spec PySem.Calls PyProof.Rows
set_option maxRecDepth 100000
set_option maxHeartbeats 0
namespace Mine188
/-- the signs of a row's line -/
def lineN (p : Nat × Nat) : List Nat := [61, hx true (p.1 / 16), hx true (p.1 % 16), 61, hx true (p.2 / 16), hx true (p.2 % 16)]
/-- the lines as splitlines gives them: a soft break behind all but the last -/
def linesN : List (Nat × Nat) → List (List Nat)
  | [] => []
  | [p] => [lineN p]
  | p :: r => (lineN p ++ [61]) :: linesN r
def octs (ps : List (Nat × Nat)) : List Nat := ps.flatMap fun p => [p.1, p.2]
/-- what is decoded behind i lines -/
def decAt (ps : List (Nat × Nat)) (i : Nat) : Str := ⟨(octs (ps.take i) ++ if i = ps.length then [10] else []).toArray⟩

theorem linesN_get : ∀ (ps : List (Nat × Nat)) (i : Nat) (l : List Nat), (linesN ps)[i]? = some l → ∃ p, ps[i]? = some p ∧ l = lineN p ++ if i + 1 = ps.length then [] else [61]
  | [], i, l, h => by cases h
  | [p], i, l, h => by
    cases i with
    | zero => cases h; exact ⟨p, rfl, by simp⟩
    | succ i => cases h
  | p :: q :: r, i, l, h => by
    cases i with
    | zero => cases h; exact ⟨p, rfl, by simp⟩
    | succ i =>
      obtain ⟨p', h1, h2⟩ := linesN_get (q :: r) i l h
      refine ⟨p', h1, ?_⟩
      rw [h2]
      simp
theorem linesN_len : ∀ (ps : List (Nat × Nat)), (linesN ps).length = ps.length
  | [] => rfl
  | [_] => rfl
  | p :: q :: r => by
    show (linesN (q :: r)).length + 1 = _
    rw [linesN_len (q :: r)]; rfl
theorem strip_same {x : Str} {a : List Nat} {c : Nat} (h : x.cps.toList = a ++ [c]) (hc : Unicode.isSpace c = false) : stripSame Unicode.isSpace false true x = true := by
  have e1 : stripLo Unicode.isSpace false x = 0 := rfl
  unfold stripSame
  rw [e1]
  unfold stripHi
  rw [if_pos rfl, List.drop_zero, h, List.reverse_append]
  show ((0 == 0) && (x.length - ((c :: a.reverse).takeWhile Unicode.isSpace).length == x.length)) = true
  rw [List.takeWhile_cons, hc, if_neg Bool.false_ne_true]
  simp
theorem call_rstrip {prog : Program} {w : World} {A : Around} {E : Value → Shared → Prop} {s : Shared} {x : Str} {t : Tok} {a : List Nat} {c : Nat} {Q : Value → Shared → Prop} (h : x.cps.toList = a ++ [c]) (hc : Unicode.isSpace c = false) (hq : Q (.str x t) s) :
    wpAny (model prog w) A (call (.builtin "str.rstrip") [.str x t]) Q E s := by
  refine call_meets F.slot_str_rstrip (typeIs_str _ _ _) F.entry_str_rstrip (F.args_str_rstrip_1 _) (gives_str_rstrip x t).meets ?_
  rw [strip_same h hc, if_pos rfl]
  exact hq
theorem hx_space (up : Bool) (d : Nat) (h : d < 16) : Unicode.isSpace (hx up d) = false := by
  have key : ∀ u : Bool, ∀ d : Fin 16, Unicode.isSpace (hx u d.1) = false := by decide +kernel
  exact key up ⟨d, h⟩
theorem hex_in (d : Nat) (h : d < 16) : (!(Builtin.Str.occurrences (Str.ofString "0123456789abcdefABCDEF") ⟨#[hx true d]⟩ 0 (Str.ofString "0123456789abcdefABCDEF").length 1).isEmpty) = true := by
  have key : ∀ d : Fin 16, (!(Builtin.Str.occurrences (Str.ofString "0123456789abcdefABCDEF") ⟨#[hx true d.1]⟩ 0 (Str.ofString "0123456789abcdefABCDEF").length 1).isEmpty) = true := by decide +kernel
  exact key ⟨d, h⟩
theorem Ctr.useS {w : World} {E : Value → Shared → Prop} {s : Shared} {h₀ : Heap} {L : Addr} {m mg mb : Str → Option Value} {news : List (Addr × Obj)} {mean : ExcName → Option Value} {Q : Value → Shared → Prop}
    {k : Nat} {f : Addr} {vs : List Value} {Pre : Heap → Prop} {y : Str} {dp un : Nat} {fr : Option (List Env)} {gd : Option (List Code)}
    (C : Ctr k f vs Pre (fun _ r _ => ∃ t, r = .str y t)) (X : (hd.heap_39 w.params).In h₀) (T : Top hd.view_39 looseN mean mg mb h₀) (F : Fr h₀ L s.heap m) (N : News h₀ L s.heap news) (hp : Pre s.heap) (hd : dp + k < recursionLimit) (hu : un + 20 * k < cLine)
    (h : ∀ (t : Tok) (h' : Heap) (tk' : Nat), Fr h₀ L h' m → News h₀ L h' news → Q (.str y t) { s with heap := h', toks := tk' }) :
    wpAny (model PySem.Challenge.rw_ny0188_01.row.prog w) (Ar dp un fr gd) (call (.ref f) vs) Q E s :=
  Ctr.use C X T F N hp hd hu fun r h' tk F' N' _ hP => by obtain ⟨t, rfl⟩ := hP; exact h t h' tk F' N'
theorem octs_len (ps : List (Nat × Nat)) : (octs ps).length = 2 * ps.length := by
  induction ps with
  | nil => rfl
  | cons p r ih => show (octs r).length + 2 = _; rw [ih, List.length_cons]; omega
theorem decAt_len (ps : List (Nat × Nat)) (i : Nat) : (decAt ps i).length ≤ 2 * ps.length + 1 := by
  show (octs (ps.take i) ++ if i = ps.length then [10] else []).toArray.size ≤ _
  rw [List.size_toArray, List.length_append, octs_len, List.length_take]
  split <;> simp <;> omega
theorem fr_gen {h₀ h : Heap} {L : Addr} {m : Str → Option Value} {G : Prop} (F : Fr h₀ L h m) (k : ∀ m', m' = m → Fr h₀ L h m' → G) : G := k m rfl F
def decM (m₀ u : Str → Option Value) (x : Str) (t te td : Tok) (d : Str) : Str → Option Value := fun z =>
  if z = Str.ofString "decoded" then some (.str d td) else if z = Str.ofString "encoded" then some (.str x t) else if z = Str.ofString "eol" then some (.str (Str.ofString "\n") te)
  else if z = Str.ofString "line" then u z else if z = Str.ofString "i" then u z else if z = Str.ofString "n" then u z else if z = Str.ofString "c" then u z else m₀ z

theorem decM_of {m₀ m' : Str → Option Value} {x d : Str} {t te td : Tok} (h1 : m' (Str.ofString "decoded") = some (.str d td)) (h2 : m' (Str.ofString "encoded") = some (.str x t)) (h3 : m' (Str.ofString "eol") = some (.str (Str.ofString "\n") te))
    (h4 : ∀ z, z ≠ Str.ofString "decoded" → z ≠ Str.ofString "encoded" → z ≠ Str.ofString "eol" → z ≠ Str.ofString "line" → z ≠ Str.ofString "i" → z ≠ Str.ofString "n" → z ≠ Str.ofString "c" → m' z = m₀ z) : m' = decM m₀ m' x t te td d := by
  funext z
  unfold decM
  by_cases a1 : z = Str.ofString "decoded"
  · rw [if_pos a1, a1, h1]
  · rw [if_neg a1]
    by_cases a2 : z = Str.ofString "encoded"
    · rw [if_pos a2, a2, h2]
    · rw [if_neg a2]
      by_cases a3 : z = Str.ofString "eol"
      · rw [if_pos a3, a3, h3]
      · rw [if_neg a3]
        by_cases a4 : z = Str.ofString "line"
        · rw [if_pos a4]
        · rw [if_neg a4]
          by_cases a5 : z = Str.ofString "i"
          · rw [if_pos a5]
          · rw [if_neg a5]
            by_cases a6 : z = Str.ofString "n"
            · rw [if_pos a6]
            · rw [if_neg a6]
              by_cases a7 : z = Str.ofString "c"
              · rw [if_pos a7]
              · rw [if_neg a7]
                exact h4 z a1 a2 a3 a4 a5 a6 a7
theorem str_ext {a b : Str} (h : a.cps.toList = b.cps.toList) : a = b := by
  cases a; cases b
  congr 1
  exact Array.toList_inj.mp h
theorem app_toList (a b : Str) : (a ++ b).cps.toList = a.cps.toList ++ b.cps.toList := Array.toList_append
theorem octs_snoc {ps : List (Nat × Nat)} {i : Nat} {p : Nat × Nat} (h : ps[i]? = some p) : octs (ps.take (i + 1)) = octs (ps.take i) ++ [p.1, p.2] := by
  rw [List.take_add_one, h]
  unfold octs
  rw [List.flatMap_append]
  simp
theorem dec_last {ps : List (Nat × Nat)} {i : Nat} {p : Nat × Nat} (h : ps[i]? = some p) (hl : i + 1 = ps.length) :
    decAt ps i ++ ⟨#[16 * (p.1 / 16) + p.1 % 16]⟩ ++ ⟨#[16 * (p.2 / 16) + p.2 % 16]⟩ ++ Str.ofString "\n" = decAt ps (i + 1) := by
  apply str_ext
  rw [app_toList, app_toList, app_toList]
  have e1 : (decAt ps i).cps.toList = octs (ps.take i) := by
    show octs (ps.take i) ++ (if i = ps.length then [10] else []) = _
    rw [if_neg (by omega), List.append_nil]
  have e2 : (decAt ps (i + 1)).cps.toList = octs (ps.take i) ++ [p.1, p.2] ++ [10] := by
    show octs (ps.take (i + 1)) ++ (if i + 1 = ps.length then [10] else []) = _
    rw [if_pos hl, octs_snoc h]
  rw [e1, e2, Nat.div_add_mod, Nat.div_add_mod]
  have e3 : (Str.ofString "\n").cps.toList = [10] := by decide +kernel
  rw [e3]
  simp
theorem dec_more {ps : List (Nat × Nat)} {i : Nat} {p : Nat × Nat} (h : ps[i]? = some p) (hl : i + 1 ≠ ps.length) :
    decAt ps i ++ ⟨#[16 * (p.1 / 16) + p.1 % 16]⟩ ++ ⟨#[16 * (p.2 / 16) + p.2 % 16]⟩ = decAt ps (i + 1) := by
  apply str_ext
  rw [app_toList, app_toList]
  have hi : i < ps.length := (List.getElem?_eq_some_iff.mp h).1
  have e1 : (decAt ps i).cps.toList = octs (ps.take i) := by
    show octs (ps.take i) ++ (if i = ps.length then [10] else []) = _
    rw [if_neg (by omega), List.append_nil]
  have e2 : (decAt ps (i + 1)).cps.toList = octs (ps.take i) ++ [p.1, p.2] := by
    show octs (ps.take (i + 1)) ++ (if i + 1 = ps.length then [10] else []) = _
    rw [if_neg hl, octs_snoc h, List.append_nil]
  rw [e1, e2, Nat.div_add_mod, Nat.div_add_mod]
  simp

theorem dec_all (ps : List (Nat × Nat)) : (decAt ps ps.length).cps.toList = octs ps ++ [10] := by
  show octs (ps.take ps.length) ++ (if ps.length = ps.length then [10] else []) = _
  rw [if_pos rfl, List.take_length]
theorem dec_size (ps : List (Nat × Nat)) : (decAt ps ps.length).length = (octs ps).length + 1 := by
  show (decAt ps ps.length).cps.size = _
  rw [← Array.length_toList, dec_all, List.length_append]; rfl
theorem dec_end (ps : List (Nat × Nat)) : Txt.slice (decAt ps ps.length) none (some (-1)) = ⟨(octs ps).toArray⟩ := by
  show StrLaws.sliceText (decAt ps ps.length) none (some (-1)) = _
  rw [StrLaws.sliceText_to_neg (by decide) (by rw [dec_size]; omega), dec_size, dec_all, List.drop_zero]
  have : ((-1 : Int) + (((octs ps).length + 1 : Nat) : Int) - 0).toNat = (octs ps).length := by omega
  rw [this, List.take_left]
theorem dec_ends (ps : List (Nat × Nat)) : Txt.endswith (decAt ps ps.length) (Str.ofString "\n") = true := by
  have e1 : (Str.ofString "\n") = ⟨#[10]⟩ := by decide +kernel
  rw [e1]
  unfold Txt.endswith Builtin.Str.subAt
  have e2 : (⟨#[10]⟩ : Str).length = 1 := rfl
  rw [e2, dec_size]
  have e3 : (decAt ps ps.length).cps.extract ((octs ps).length + 1 - 1) ((octs ps).length + 1 - 1 + 1) = #[10] := by
    have := cut_mid (T := (decAt ps ps.length).cps) (a := octs ps) (b := [10]) (c := []) (by rw [dec_all, List.append_nil])
    exact this
  rw [e3]
  simp
theorem last_in (d : Nat) (h : d < 16) : (Builtin.Str.occurrences (Str.ofString "\r\n") ⟨#[hx true d]⟩ 0 (Str.ofString "\r\n").length 1).isEmpty = true := by
  have key : ∀ d : Fin 16, (Builtin.Str.occurrences (Str.ofString "\r\n") ⟨#[hx true d.1]⟩ 0 (Str.ofString "\r\n").length 1).isEmpty = true := by decide +kernel
  exact key ⟨d, h⟩

section
variable {prog : Program} {w : World} {A : Around} {E : Value → Shared → Prop} {s : Shared} {env : Env} {h₀ : Heap} {x : Str} {body : List Stmt} {Q : Flow → Shared → Prop}
theorem one_iter {l : Addr} {vs : List Value} {nn : Nat} {m₀ : Str → Option Value} (J : Nat → (Str → Option Value) → Prop)
    (hh : A.handled = none) (F : Fr h₀ env.locals s.heap m₀) (N : News h₀ env.locals s.heap [(l, W.listOf vs.toArray nn)]) (hj : J 0 m₀)
    (turn : ∀ i v m₁ h tk own, vs[i]? = some v → OwnOff own [l] → J i m₁ → Fr h₀ env.locals h (fun y => if y = x then some v else m₁ y) → News h₀ env.locals h ((l, W.listOf vs.toArray nn) :: own) →
      wpAny (model prog w) A (execs body env) (InvPostG h₀ env.locals (fun m' nx => nx = [(l, W.listOf vs.toArray nn)] ∧ J (i + 1) m') own { s with heap := h, toks := tk } Q) E { s with heap := h, toks := tk })
    (done : ∀ m₁ h tk, J vs.length m₁ → Fr h₀ env.locals h m₁ → News h₀ env.locals h [(l, W.listOf vs.toArray nn)] → Q .next { s with heap := h, toks := tk }) :
    wpAny (model prog w) A (pyIter (.ref l)) (fun it s₂ => LoopAtV prog w A h₀ env x body Q E it s₂) E s := by
  refine kdl_iter (fun i m nx => nx = [(l, W.listOf vs.toArray nn)] ∧ J i m) hh (.head _) F N ⟨rfl, hj⟩ ?_ ?_
  · rintro i v m₁ news₁ h tk own hv hoff _ ⟨rfl, hJ⟩ F₁ N₁
    refine wpAny_mono (turn i v m₁ h tk own hv hoff hJ F₁ N₁) (fun f s₂ p => ?_) fun _ _ e => e
    have fin : InvEndG h₀ env.locals (fun m' nx => nx = [(l, W.listOf vs.toArray nn)] ∧ J (i + 1) m') own { s with heap := h, toks := tk } s₂ → InvEndG h₀ env.locals (fun m' nx => (l, W.listOf vs.toArray nn) ∈ nx ∧ nx = [(l, W.listOf vs.toArray nn)] ∧ J (i + 1) m') own { s with heap := h, toks := tk } s₂ := by
      rintro ⟨h', tk', m', news', nx, e, F', N', hn, ho, ha, hm⟩
      exact ⟨h', tk', m', news', nx, e, F', N', hn, ho, ha, by rw [hm.1]; exact .head _, hm⟩
    cases f with
    | ret v => exact p
    | brk => exact p
    | next => exact fin p
    | cont => exact fin p
  · rintro m₁ news₁ h tk ⟨rfl, hJ⟩ F₁ N₁
    exact done m₁ h tk hJ F₁ N₁
end

theorem call_rstrip9 {prog : Program} {w : World} {A : Around} {E : Value → Shared → Prop} {s : Shared} {x : Str} {t : Tok} {Q : Value → Shared → Prop} (h : stripSame Unicode.isSpace false true x = true) (hq : Q (.str x t) s) :
    wpAny (model prog w) A (call (.builtin "str.rstrip") [.str x t]) Q E s := by
  refine call_meets F.slot_str_rstrip (typeIs_str _ _ _) F.entry_str_rstrip (F.args_str_rstrip_1 _) (gives_str_rstrip x t).meets ?_
  rw [h, if_pos rfl]
  exact hq
local macro_rules | `(tactic| walk_at "call builtin:str.rstrip") => `(tactic| (refine call_rstrip9 (by assumption) ?_))
theorem ite_y {b : Bool} {P Q : Prop} (hb : b = true) (h : P) : if b = true then P else Q := by subst hb; exact h
theorem ite_n {b : Bool} {P Q : Prop} (hb : b = false) (h : Q) : if b = true then P else Q := by subst hb; exact h
theorem not_empty {b : Bool} (h : b = false) : (!b) = true := by subst h; rfl
local macro_rules | `(tactic| walk_at "ite") => `(tactic| first | (refine ite_y (by with_reducible assumption) ?_) | (refine ite_y (by kernel_rfl!) ?_) | (refine ite_n (by kernel_rfl!) ?_))
local macro_rules | `(tactic| walk_at "call ref") => `(tactic| (k_here; (with_reducible show wpAny _ _ (call (Value.ref 106) [_]) _ _ _); k_dflt (refine' Ctr.useS (unquote_ctr true _ _ _ ?hi ?hj) ?k1 ?k2 ?k3 ?k4 trivial ?k5 ?k6 ?_; (case hi => assumption); (case hj => assumption); (case k1 => k_asm); (case k2 => k_asm); (case k3 => k_asm); (case k4 => k_asm); (case k5 => (dsimp only [Around.deeper, Ar]; omega)); (case k6 => (dsimp only [Around.deeper, Ar]; omega)); k_whole); intro t9 h' tk9 F' N'))
local macro_rules | `(tactic| walk_at "exec While Compare cons nil") => `(tactic| (k_here; k_dflt (refine whl_start 100 ?_)))
local macro_rules | `(tactic| walk_at "exec While Compare") => `(tactic| (k_here; k_dflt (refine whl_start 100 ?_)))
theorem dec_ctr (ps : List (Nat × Nat)) (x : Str) (t : Tok) (hps : ps ≠ []) (hps2 : ps.length ≤ 100) (h256 : ∀ p ∈ ps, p.1 < 256 ∧ p.2 < 256) (hx9 : x.length ≤ 1000) (hx0 : 0 < x.length) (hl : Txt.lines x = (linesN ps).map fun l => (⟨l.toArray⟩ : Str)) (hlc : ∃ d, d < 16 ∧ Txt.item x (-1) = ⟨#[hx true d]⟩) : Ctr 2 134 [.str x t] (fun _ => True)
    (fun _ r _ => ∃ t, r = .str ⟨(octs ps).toArray⟩ t) := by
  unfold Ctr
  k_fill
  intro w mean mg mb dp un fr gd s Q E X T' hp hdp hu hret
  have g114 : s.heap.get? 127 = some (objAt (Mine188.hd.heap_39 w.params) 127) := X 127 _ (by kernel_rfl)
  have d114 : (objAt (Mine188.hd.heap_39 w.params) 127).data = .seq (seqAt (Mine188.hd.heap_39 w.params) 127) (epAt (Mine188.hd.heap_39 w.params) 127) := by kernel_rfl
  k_dflt (refine' enter1 ?k1 ?k2 ?k6 ?k7 ?k8 ?k9 ?kB ?_ ?c2 ?c3 ?c4 ?c5; (case k1 => exact X); (case k2 => exact T'); (case k6 => k_is); (case k7 => k_is); (case k8 => exact Nat.lt_of_le_of_lt (Nat.le_add_right _ _) hdp); (case k9 => exact BindsTo.of_defaults rfl g114 d114 rfl rfl); (case c5 => decide); (case kB => exact locs rfl); (case c2 => exact rfl); (case c3 => exact rfl); (case c4 => exact rfl); k_whole; intro L' h' F' N'; (try dsimp only); (try k_fold))
  k_steps
  · rename Fr _ _ _ _ => F9
    rename News _ _ _ _ => N9
    rename StrsAre _ _ => S9
    rename (_ = Txt.lines _) => e9
    rw [e9, hl] at S9
    refine fr_gen F9 fun m₀ hm₀ F8 => ?_
    clear F9
    obtain ⟨te, hte⟩ : ∃ te, m₀ (Str.ofString "eol") = some (.str (Str.ofString "\n") te) := ⟨_, by rw [hm₀]; rfl⟩
    have hen : m₀ (Str.ofString "encoded") = some (.str x t) := by rw [hm₀]; rfl
    obtain ⟨td0, hde⟩ : ∃ te, m₀ (Str.ofString "decoded") = some (.str (Str.ofString "") te) := ⟨_, by rw [hm₀]; rfl⟩
    clear hm₀
    refine one_iter (nn := 0) (fun i m => ∃ u td, m = decM m₀ u x t te td (decAt ps i)) rfl F8 N9 ?_ ?_ ?_
    · refine ⟨m₀, td0, funext fun z => ?_⟩
      unfold decM
      have e0 : decAt ps 0 = Str.ofString "" := by
        unfold decAt octs
        have : ¬ (0 = ps.length) := fun h => hps (List.eq_nil_of_length_eq_zero h.symm)
        rw [if_neg this, List.take_zero]
        decide +kernel
      rw [e0]
      split
      · rename_i h; rw [h, hde]
      · split
        · rename_i h; rw [h, hen]
        · split
          · rename_i h; rw [h, hte]
          · (repeat' split) <;> rfl
    · rintro i v m₁ h9 tk9 own9 hv9 ho9 ⟨u9, td9, rfl⟩ F7 N7
      obtain ⟨y9, ty9, rfl, hy9⟩ := StrsAre.item S9 i v hv9
      rw [List.getElem?_map] at hy9
      obtain ⟨l9, hl9, rfl⟩ := Option.map_eq_some_iff.mp hy9
      obtain ⟨p9, hp9, rfl⟩ := linesN_get ps i l9 hl9
      have hdl : (decAt ps i).length ≤ 1000 := Nat.le_trans (decAt_len ps i) (by omega)
      by_cases hlast : i + 1 = ps.length
      · rw [if_pos hlast] at F7
        rw [List.append_nil] at F7
        dsimp only [decM, lineN] at F7
        have b1 : p9.1 / 16 < 16 := by have := (h256 p9 (List.mem_of_getElem? hp9)).1; omega
        have b2 : p9.1 % 16 < 16 := Nat.mod_lt _ (by decide)
        have b3 : p9.2 / 16 < 16 := by have := (h256 p9 (List.mem_of_getElem? hp9)).2; omega
        have b4 : p9.2 % 16 < 16 := Nat.mod_lt _ (by decide)
        have i1 := hex_in (p9.1 / 16) b1
        have i2 := hex_in (p9.1 % 16) b2
        have i3 := hex_in (p9.2 / 16) b3
        have i4 := hex_in (p9.2 % 16) b4
        have j1 : (!(Builtin.Str.occurrences (Str.ofString "0123456789abcdefABCDEF") (Txt.item ⟨#[61, hx true (p9.1 / 16), hx true (p9.1 % 16), 61, hx true (p9.2 / 16), hx true (p9.2 % 16)]⟩ (0 + 1)) 0 (Str.ofString "0123456789abcdefABCDEF").length 1).isEmpty) = true := i1
        have j2 : (!(Builtin.Str.occurrences (Str.ofString "0123456789abcdefABCDEF") (Txt.item ⟨#[61, hx true (p9.1 / 16), hx true (p9.1 % 16), 61, hx true (p9.2 / 16), hx true (p9.2 % 16)]⟩ (0 + 2)) 0 (Str.ofString "0123456789abcdefABCDEF").length 1).isEmpty) = true := i2
        have j3 : (!(Builtin.Str.occurrences (Str.ofString "0123456789abcdefABCDEF") (Txt.item ⟨#[61, hx true (p9.1 / 16), hx true (p9.1 % 16), 61, hx true (p9.2 / 16), hx true (p9.2 % 16)]⟩ (0 + 3 + 1)) 0 (Str.ofString "0123456789abcdefABCDEF").length 1).isEmpty) = true := i3
        have j4 : (!(Builtin.Str.occurrences (Str.ofString "0123456789abcdefABCDEF") (Txt.item ⟨#[61, hx true (p9.1 / 16), hx true (p9.1 % 16), 61, hx true (p9.2 / 16), hx true (p9.2 % 16)]⟩ (0 + 3 + 2)) 0 (Str.ofString "0123456789abcdefABCDEF").length 1).isEmpty) = true := i4
        have hr9 : stripSame Unicode.isSpace false true ⟨#[61, hx true (p9.1 / 16), hx true (p9.1 % 16), 61, hx true (p9.2 / 16), hx true (p9.2 % 16)]⟩ = true := strip_same (a := [61, hx true (p9.1 / 16), hx true (p9.1 % 16), 61, hx true (p9.2 / 16)]) rfl (hx_space true _ (Nat.mod_lt _ (by decide)))
        k_steps
        rename Fr _ _ _ _ => F6
        rename News _ _ _ _ => N6
        refine InvEndG.intro (nx := [_]) F6 N6 ⟨rfl, _, _, decM_of (td := ?td) ?h1 (by rfl) (by rfl) ?h4⟩ ho9 (fun p hp => by rw [List.mem_singleton.mp hp]; exact .head _) (fun p hp => .tail _ hp)
        case h1 => rw [← dec_last hp9 hlast]; rfl
        case h4 => intro z a1 a2 a3 a4 a5 a6 a7; simp only [if_neg a1, if_neg a2, if_neg a3, if_neg a4, if_neg a5, if_neg a6, if_neg a7]
      · rw [if_neg hlast] at F7
        dsimp only [decM, lineN, List.cons_append, List.nil_append] at F7
        have b1 : p9.1 / 16 < 16 := by have := (h256 p9 (List.mem_of_getElem? hp9)).1; omega
        have b2 : p9.1 % 16 < 16 := Nat.mod_lt _ (by decide)
        have b3 : p9.2 / 16 < 16 := by have := (h256 p9 (List.mem_of_getElem? hp9)).2; omega
        have b4 : p9.2 % 16 < 16 := Nat.mod_lt _ (by decide)
        have i1 := hex_in (p9.1 / 16) b1
        have i2 := hex_in (p9.1 % 16) b2
        have i3 := hex_in (p9.2 / 16) b3
        have i4 := hex_in (p9.2 % 16) b4
        have j1 : (!(Builtin.Str.occurrences (Str.ofString "0123456789abcdefABCDEF") (Txt.item ⟨#[61, hx true (p9.1 / 16), hx true (p9.1 % 16), 61, hx true (p9.2 / 16), hx true (p9.2 % 16), 61]⟩ (0 + 1)) 0 (Str.ofString "0123456789abcdefABCDEF").length 1).isEmpty) = true := i1
        have j2 : (!(Builtin.Str.occurrences (Str.ofString "0123456789abcdefABCDEF") (Txt.item ⟨#[61, hx true (p9.1 / 16), hx true (p9.1 % 16), 61, hx true (p9.2 / 16), hx true (p9.2 % 16), 61]⟩ (0 + 2)) 0 (Str.ofString "0123456789abcdefABCDEF").length 1).isEmpty) = true := i2
        have j3 : (!(Builtin.Str.occurrences (Str.ofString "0123456789abcdefABCDEF") (Txt.item ⟨#[61, hx true (p9.1 / 16), hx true (p9.1 % 16), 61, hx true (p9.2 / 16), hx true (p9.2 % 16), 61]⟩ (0 + 3 + 1)) 0 (Str.ofString "0123456789abcdefABCDEF").length 1).isEmpty) = true := i3
        have j4 : (!(Builtin.Str.occurrences (Str.ofString "0123456789abcdefABCDEF") (Txt.item ⟨#[61, hx true (p9.1 / 16), hx true (p9.1 % 16), 61, hx true (p9.2 / 16), hx true (p9.2 % 16), 61]⟩ (0 + 3 + 2)) 0 (Str.ofString "0123456789abcdefABCDEF").length 1).isEmpty) = true := i4
        have hr9 : stripSame Unicode.isSpace false true ⟨#[61, hx true (p9.1 / 16), hx true (p9.1 % 16), 61, hx true (p9.2 / 16), hx true (p9.2 % 16), 61]⟩ = true := strip_same (a := [61, hx true (p9.1 / 16), hx true (p9.1 % 16), 61, hx true (p9.2 / 16), hx true (p9.2 % 16)]) rfl (by decide +kernel)
        k_steps
        rename Fr _ _ _ _ => F6
        rename News _ _ _ _ => N6
        refine InvEndG.intro (nx := [_]) F6 N6 ⟨rfl, _, _, decM_of (td := ?td2) ?h1b (by rfl) (by rfl) ?h4b⟩ ho9 (fun p hp => by rw [List.mem_singleton.mp hp]; exact .head _) (fun p hp => .tail _ hp)
        case h1b => rw [← dec_more hp9 hlast]; rfl
        case h4b => intro z a1 a2 a3 a4 a5 a6 a7; simp only [if_neg a1, if_neg a2, if_neg a3, if_neg a4, if_neg a5, if_neg a6, if_neg a7]
    · rintro m₁ h9 tk9 ⟨u9, td9, rfl⟩ F7 N7
      have hvl : (strValues (by assumption : List (Str × Tok))).length = ps.length := by
        rw [StrsAre.length S9, List.length_map, linesN_len]
      unfold decM at F7
      rw [hvl] at F7
      have hq1 : (Builtin.Str.occurrences (Str.ofString "\r\n") (Txt.item x (-1)) 0 (Str.ofString "\r\n").length 1).isEmpty = true := by
        obtain ⟨d, hd1, hd2⟩ := hlc
        rw [hd2]; exact last_in d hd1
      have hq2 := dec_ends ps
      have hq3 : (decAt ps ps.length).length ≤ 1000 := Nat.le_trans (decAt_len ps _) (by omega)
      k_steps
      rename Fr _ _ _ _ => F6
      have hret9 : ∀ y t h' tk, y = (⟨(octs ps).toArray⟩ : Str) → Kp s.heap h' → Q (.str y t) { s with heap := h', toks := tk } := fun y t h' tk hy k => hret _ _ _ k ⟨t, by rw [hy]⟩
      refine hret9 _ _ _ _ ?_ F6.keep
      exact dec_end ps
  · exfalso
    rename ((_ : Nat) : Int) = 0 => h9
    omega
end Mine188
end
section
open PySem PySem.W PySem.Spec PySem.Calls PyProof.Rows
open AutoSeq1 (wpAny_loadPart')
set_option maxRecDepth 100000
set_option maxHeartbeats 4000000
namespace Mine188
/-- enumerate(t) of a tuple -/
theorem meets_enum_tuple (l : Addr) (items : Array Value) (n : Nat) (dct : Option Addr) (sl : Array (Option Value)) :
    Meets (Builtin.«enumerate.__new__» ⟨[.type "enumerate", .ref l], []⟩) (fun _ R s => s.heap.get? l = some { cls := .type "tuple", dict := dct, data := .seq items n, slots := sl } ∧
      R (.ok (.ret (.ref (s.heap.push { cls := .type "tuple_iterator", data := .fields #[.ref l, .int 0 0] }).objs.size)))
        { s with heap := (s.heap.push { cls := .type "tuple_iterator", data := .fields #[.ref l, .int 0 0] }).push { cls := .type "enumerate", data := .fields #[.none, .bool false, .ref s.heap.objs.size, rawInt 0, .none, .none] } }) :=
  .of_wp fun prog w A R s h => by
    obtain ⟨hp, g, d, tk, os⟩ := s; obtain ⟨hl, h⟩ := h
    have hsub := sub_enumerate
    have hL : Heap.IsTuple (Shared.heap ⟨hp, g, d, tk, os⟩) l items := ⟨_, hl, rfl, n, rfl⟩
    wp_walk using wpAny_loadPart' hl
    refine wpAny_stack_any fun st => wpAny_pure ?_
    split
    · rename_i c _ _ _ _ _
      cases (c == Value.type "enumerate") <;> (wp_walk using wpAny_loadPart' hl, wpAny_pyIter_tuple hL; exact ⟨_, rfl, h⟩)
    · wp_walk using wpAny_loadPart' hl, wpAny_pyIter_tuple hL
      exact ⟨_, rfl, h⟩

section
variable {prog : Program} {w : World} {A : Around} {E : Value → Shared → Prop} {s : Shared}
theorem call_enum_tuple {l : Addr} {items : Array Value} {Q : Value → Shared → Prop} (hL : s.heap.IsTuple l items)
    (h : ∀ h', IsEnum h' (s.heap.objs.size + 1) s.heap.objs.size 0 .none → h'.IsTupleIter s.heap.objs.size l 0 → h'.objs.size = s.heap.objs.size + 2 → Kp s.heap h' → Q (.ref (s.heap.objs.size + 1)) { s with heap := h' }) :
    wpAny (model prog w) A (call (.type "enumerate") [.ref l]) Q E s := by
  obtain ⟨⟨c, dct, dt, sl⟩, hl, hc, n, hd⟩ := hL
  replace hc : c = .type "tuple" := hc
  replace hd : dt = .seq items n := hd
  subst hc hd
  refine callType_new F.called_enumerate (by decide) (F.typeCall_enumerate_1 _) (F.newCall_enumerate_1 _) (fun obj => F.args_object_init_2 obj _) F.entry_enumerate_new (meets_enum_tuple l items n dct sl) ⟨hl, ?_⟩
  have hz : (s.heap.push { cls := .type "tuple_iterator", data := .fields #[.ref l, .int 0 0] }).objs.size = s.heap.objs.size + 1 := Heap.size_push ..
  show _ ∧ _
  rw [hz]
  have he : IsEnum ((s.heap.push { cls := .type "tuple_iterator", data := .fields #[.ref l, .int 0 0] }).push { cls := .type "enumerate", data := .fields #[.none, .bool false, .ref s.heap.objs.size, rawInt 0, .none, .none] }) (s.heap.objs.size + 1) s.heap.objs.size 0 .none := by
    have := Heap.get?_push_size (s.heap.push { cls := .type "tuple_iterator", data := .fields #[.ref l, .int 0 0] }) (o := { cls := .type "enumerate", data := .fields #[.none, .bool false, .ref s.heap.objs.size, rawInt 0, .none, .none] }) rfl
    rw [hz] at this; exact this
  exact ⟨⟨_, he, rfl⟩, h _ he ⟨_, Heap.get?_push_of_some _ (Heap.get?_push_size _ rfl), rfl, rfl⟩ (by rw [Heap.size_push, hz]) fun b o x => Heap.get?_push_of_some _ (Heap.get?_push_of_some _ x)⟩

theorem nextOf_tuple {it l : Addr} {i : Nat} {items : Array Value} {x : Value} {Q : Value → Shared → Prop} (hit : s.heap.IsTupleIter it l i) (hl : s.heap.IsTuple l items) (hx : items[i]? = some x)
    (hQ : ∀ h', h'.IsTupleIter it l (i + 1) → Heap.SameBut it s.heap h' → Q x { s with heap := h' }) : wpAny (model prog w) A (Builtin.SmallTypes.nextOf (.ref it)) Q E s := by
  obtain ⟨o, ho, hc, hd⟩ := id hit
  obtain ⟨ol, hol, _, nl, hdl⟩ := hl
  unfold Builtin.SmallTypes.nextOf
  refine wpAny_bind (wpAny_callSpecial?_slot (name := Str.ofString "__next__") hit.typeIs F.slot_tuple_iterator_next (wpAny_call_entry F.slot_tuple_iterator_next hit.typeIs F.entry_tuple_iterator_next ?_ (F.args_tuple_iterator_next_1 _)))
  show wpAny _ _ (field (.ref it) 0 >>= _) _ _ s
  refine wpAny_bind (wpAny_field ho hd (x := .ref l) rfl ?_)
  show wpAny _ _ (if (Value.ref l == Value.none) = true then _ else _) _ _ s
  rw [if_neg (show ¬ ((Value.ref l == Value.none) = true) from Bool.false_ne_true)]
  show wpAny _ _ (field (.ref it) 1 >>= _) _ _ s
  refine wpAny_bind (wpAny_field ho hd (x := .int i 0) rfl ?_)
  show wpAny _ _ (seqItems? (.ref l) >>= _) _ _ s
  refine wpAny_bind (wpAny_seqItems hol hdl ?_)
  simp only [Int.toNat_natCast, hx]
  refine wpAny_bind (wpAny_setField ho hd (by simp) (wpAny_pure ⟨x, rfl, wpAny_pure (hQ _ ?_ (Heap.SameBut.update ..))⟩))
  exact ⟨_, Heap.get?_update_self _ ho (Obj.isFreed_of_fields (Obj.data_mapFields hd _)), (Obj.cls_mapFields ..).trans hc, by rw [Obj.data_mapFields hd]; simp [rawInt]⟩
end
end Mine188
end
section
open PySem PySem.W PySem.Spec PySem.Calls PyProof.Rows
set_option maxRecDepth 100000
set_option maxHeartbeats 4000000
namespace Mine188
section
variable {prog : Program} {w : World} {A : Around} {E : Value → Shared → Prop} {s : Shared}
theorem nextOf_tuple_end {it l : Addr} {i : Nat} {items : Array Value} {Q : Value → Shared → Prop} (hh : A.handled = none) (hit : s.heap.IsTupleIter it l i) (hl : s.heap.IsTuple l items) (hx : items[i]? = none)
    (hE : ∀ h' e, Heap.ExtBut it s.heap h' → (∃ o, h'.get? e = some o ∧ o.cls = .type "StopIteration") → E (.ref e) { s with heap := h' }) : wpAny (model prog w) A (Builtin.SmallTypes.nextOf (.ref it)) Q E s := by
  obtain ⟨o, ho, hc, hd⟩ := id hit
  obtain ⟨ol, hol, _, nl, hdl⟩ := hl
  unfold Builtin.SmallTypes.nextOf
  refine wpAny_bind (wpAny_callSpecial?_slot (name := Str.ofString "__next__") hit.typeIs F.slot_tuple_iterator_next (wpAny_call_entry F.slot_tuple_iterator_next hit.typeIs F.entry_tuple_iterator_next ?_ (F.args_tuple_iterator_next_1 _)))
  show wpAny _ _ (field (.ref it) 0 >>= _) _ _ s
  refine wpAny_bind (wpAny_field ho hd (x := .ref l) rfl ?_)
  show wpAny _ _ (if (Value.ref l == Value.none) = true then _ else _) _ _ s
  rw [if_neg (show ¬ ((Value.ref l == Value.none) = true) from Bool.false_ne_true)]
  show wpAny _ _ (field (.ref it) 1 >>= _) _ _ s
  refine wpAny_bind (wpAny_field ho hd (x := .int i 0) rfl ?_)
  show wpAny _ _ (seqItems? (.ref l) >>= _) _ _ s
  refine wpAny_bind (wpAny_seqItems hol hdl ?_)
  simp only [Int.toNat_natCast, hx]
  refine wpAny_bind (wpAny_rule (wpAny_bind (wpAny_setField ho hd (by simp) ?_)))
  show wpAny _ _ (newExc (.type "StopIteration") [] >>= _) _ _ _
  refine wpAny_bind ?_
  simp only [newExc, newTuple]
  refine wpAny_bind (wpAny_newObj_type ?_ (by size_fits))
  refine wpAny_bind (m := firstArgMember _ _) (wpAny_of_eq (a := Value.none) (by first | rfl | (simp only [firstArgMember]; rfl)) ?_)
  refine wpAny_newObj_type ?_ (by size_fits)
  simp only [raiseNew]
  refine wpAny_bind (wpAny_handled ?_)
  first | rw [show A.in1.handled = none from hh] | rw [hh]
  refine wpAny_bind (wpAny_pure (wpAny_throw ?_))
  exact hE _ _ (((Heap.SameBut.update ..).extBut.push _).push _) ⟨_, Heap.get?_push_size _ rfl, rfl⟩

theorem enumT_item {e it l : Addr} {i : Nat} {items : Array Value} {x old : Value} {Q : Value → Shared → Prop}
    (he : IsEnum s.heap e it i old) (hit : s.heap.IsTupleIter it l i) (hl : s.heap.IsTuple l items) (hx : items[i]? = some x) (hne : e ≠ it)
    (hQ : ∀ h', IsEnumOut h' e it ((i : Int) + 1) x s.heap.objs.size → h'.IsTupleIter it l (i + 1) → h'.get? s.heap.objs.size = some { cls := .type "tuple", data := .seq #[.int i s.toks, x] } → h'.objs.size = s.heap.objs.size + 1 →
      (∀ b o, b ≠ e → b ≠ it → s.heap.get? b = some o → h'.get? b = some o) → Q (.ref s.heap.objs.size) { s with heap := h', toks := s.toks + 1 }) :
    wpAny (model prog w) A (Builtin.«enumerate.__next__» ⟨[.ref e], []⟩) (fun fin s' => ∃ v, fin = .done (.ret v) ∧ Q v s') E s := by
  obtain ⟨hp, g, d, tk, os⟩ := s
  show wpAny _ _ (field (.ref e) 2 >>= _) _ _ _
  refine wpAny_bind (wpAny_field he rfl (x := .ref it) rfl ?_)
  refine wpAny_bind (nextOf_tuple hit hl hx fun h₁ hit₁ hs₁ => ?_)
  replace hs₁ : Heap.SameBut it hp h₁ := hs₁
  have he₁ : IsEnum h₁ e it i old := (hs₁.2 e hne).trans he
  show wpAny _ _ (field (.ref e) 3 >>= _) _ _ ⟨h₁, g, d, tk, os⟩
  refine wpAny_bind (wpAny_field he₁ rfl (x := rawInt i) rfl ?_)
  show wpAny _ _ (field (.ref e) 4 >>= _) _ _ ⟨h₁, g, d, tk, os⟩
  refine wpAny_bind (wpAny_field he₁ rfl (x := .none) rfl ?_)
  show wpAny _ _ (mkInt i >>= _) _ _ ⟨h₁, g, d, tk, os⟩
  refine wpAny_bind (wpAny_mkInt ?_)
  show wpAny _ _ (setField (.ref e) 3 (rawInt ((i : Int) + 1)) >>= _) _ _ ⟨h₁, g, d, tk + 1, os⟩
  refine wpAny_bind (wpAny_setField_rec he₁ (by simp) fun h₂ he₂ hs₂ => ?_)
  replace hs₂ : Heap.SameBut e h₁ h₂ := hs₂
  replace he₂ : IsEnum h₂ e it ((i : Int) + 1) old := he₂
  show wpAny _ _ (setField (.ref e) 4 .none >>= _) _ _ ⟨h₂, g, d, tk + 1, os⟩
  refine wpAny_bind (wpAny_setField_rec he₂ (by simp) fun h₃ he₃ hs₃ => ?_)
  replace hs₃ : Heap.SameBut e h₂ h₃ := hs₃
  replace he₃ : IsEnum h₃ e it ((i : Int) + 1) old := he₃
  show wpAny _ _ (newTuple [.int i tk, x] >>= _) _ _ ⟨h₃, g, d, tk + 1, os⟩
  refine wpAny_bind (wpAny_newTuple ?_)
  have he₄ : IsEnum (h₃.push { cls := .type "tuple", data := .seq #[.int i tk, x] }) e it ((i : Int) + 1) old := Heap.get?_push_of_some _ he₃
  generalize hh₄ : h₃.push { cls := .type "tuple", data := .seq #[.int i tk, x] } = h₄ at he₄
  have hsz : h₃.objs.size = hp.objs.size := by rw [hs₃.1, hs₂.1, hs₁.1]
  have hel : e < hp.objs.size := Heap.lt_size he
  have ht₄ : h₄.get? hp.objs.size = some { cls := .type "tuple", data := .seq #[.int i tk, x] } := by rw [← hh₄, ← hsz]; exact Heap.get?_push_size _ rfl
  have hz₄ : h₄.objs.size = hp.objs.size + 1 := by rw [← hh₄, Heap.size_push, hsz]
  have hk₄ : ∀ b o, b ≠ e → b ≠ it → hp.get? b = some o → h₄.get? b = some o := fun b o hbe hbi hb => by
    rw [← hh₄]; exact Heap.get?_push_of_some _ (hs₃.extBut b o hbe (hs₂.extBut b o hbe (hs₁.extBut b o hbi hb)))
  have hit₄ : h₄.IsTupleIter it l (i + 1) := by
    rw [← hh₄]; obtain ⟨o, ho, r⟩ := (hit₁.extBut hs₂.extBut (Ne.symm hne)).extBut hs₃.extBut (Ne.symm hne); exact ⟨o, Heap.get?_push_of_some _ ho, r⟩
  show wpAny _ _ (Builtin.SmallTypes.ownedTupleIsFree (.ref e) >>= _) _ _ ⟨h₄, g, d, tk + 1, os⟩
  rw [hsz]
  clear hh₄ he₃ hs₃ he₂ hs₂ he₁ hs₁ hit₁ hsz h₃ h₂ h₁
  refine wpAny_bind ?_
  unfold Builtin.SmallTypes.ownedTupleIsFree
  refine wpAny_bind (wpAny_field he₄ rfl (x := .none) rfl (wpAny_pure ?_))
  simp only [if_true]
  refine wpAny_bind (wpAny_rule ?_)
  refine wpAny_bind (wpAny_field he₄ rfl (x := old) rfl ?_)
  refine wpAny_bind (wpAny_setField_rec he₄ (by simp) fun h₅ he₅ hs₅ => ?_)
  replace hs₅ : Heap.SameBut e h₄ h₅ := hs₅
  replace he₅ : IsEnum h₅ e it ((i : Int) + 1) x := he₅
  show wpAny _ _ (Builtin.SmallTypes.ownedTupleHandOut (.ref e) (.ref hp.objs.size) >>= _) _ _ ⟨h₅, g, d, tk + 1, os⟩
  refine wpAny_bind ?_
  unfold Builtin.SmallTypes.ownedTupleHandOut
  refine wpAny_bind (wpAny_setField_rec he₅ (by simp) fun h₆ he₆ hs₆ => ?_)
  replace hs₆ : Heap.SameBut e h₅ h₆ := hs₆
  replace he₆ : IsEnumOut h₆ e it ((i : Int) + 1) x hp.objs.size := he₆
  refine wpAny_setField_rec he₆ (by simp) fun h₇ he₇ hs₇ => ?_
  replace hs₇ : Heap.SameBut e h₆ h₇ := hs₇
  replace he₇ : IsEnumOut h₇ e it ((i : Int) + 1) x hp.objs.size := he₇
  refine wpAny_bind (wpAny_letGo (wpAny_pure ⟨_, rfl, hQ h₇ he₇ ?_ ?_ ?_ ?_⟩))
  · exact ((hit₄.extBut hs₅.extBut (Ne.symm hne)).extBut hs₆.extBut (Ne.symm hne)).extBut hs₇.extBut (Ne.symm hne)
  · exact hs₇.extBut _ _ (Nat.ne_of_gt hel) (hs₆.extBut _ _ (Nat.ne_of_gt hel) (hs₅.extBut _ _ (Nat.ne_of_gt hel) ht₄))
  · rw [hs₇.1, hs₆.1, hs₅.1, hz₄]
  · exact fun b o hbe hbi hb => hs₇.extBut b o hbe (hs₆.extBut b o hbe (hs₅.extBut b o hbe (hk₄ b o hbe hbi hb)))
end

theorem walks_enumT {prog : Program} {w : World} {A : Around} (hh : A.handled = none) (e it l : Addr) (hei : e ≠ it) (hle : l ≠ e) (hli : l ≠ it) (items : Array Value) :
    WalksT prog w A e [e, it, l] [e, it] items.size (fun i vals => ∃ t x, items[i]? = some x ∧ vals = #[.int i t, x])
      (fun i h => (∃ old, IsEnum h e it i old) ∧ h.IsTupleIter it l i ∧ h.IsTuple l items)
      (fun i T h => (∃ x, IsEnumOut h e it ((i : Int) + 1) x T) ∧ h.IsTupleIter it l (i + 1) ∧ h.IsTuple l items ∧ T ≠ e ∧ T ≠ it) where
  sub := fun b hb => by
    rcases List.mem_cons.mp hb with rfl | hb
    · simp
    · rw [List.mem_singleton.mp hb]; simp
  frame := fun i h h' hst hk => by
    obtain ⟨⟨old, he⟩, hit, hl⟩ := hst
    exact ⟨⟨old, hk e (by simp) _ he⟩, hit.at fun o x => hk it (by simp) o x, hl.at fun o x => hk l (by simp) o x⟩
  item := fun i s Q E hi hst hQ => by
    obtain ⟨⟨old, he⟩, hit, hl⟩ := hst
    have hx : items[i]? = some items[i] := Array.getElem?_eq_getElem hi
    have hT : s.TypeIs (.ref e) "enumerate" := ⟨_, he, rfl⟩
    have helt : e < s.heap.objs.size := Heap.lt_size he
    have hilt : it < s.heap.objs.size := by obtain ⟨_, x, _⟩ := hit; exact Heap.lt_size x
    unfold pyNext
    refine wpAny_bind (wpAny_attempt (wpAny_callSpecial?_slot (name := Str.ofString "__next__") hT F.slot_enumerate_next (wpAny_call_entry F.slot_enumerate_next hT F.entry_enumerate_next (enumT_item he hit hl hx hei fun h' ho hit' hT' hsz hk => wpAny_pure ?_) (F.args_enumerate_next_1 _))))
    exact hQ s.heap.objs.size #[.int i s.toks, items[i]] h' (s.toks + 1) ⟨_, _, hx, rfl⟩ (Nat.le_refl _) ⟨_, hT', rfl, _, rfl⟩
      ⟨⟨_, ho⟩, hit', hl.at fun o x => hk l o hle hli x, Nat.ne_of_gt helt, Nat.ne_of_gt hilt⟩ fun b o hb x => hk b o (fun q => hb (by simp [q])) (fun q => hb (by simp [q])) x
  go := fun elts k pos i T s Q E hm hQ => by
    obtain ⟨⟨x, ho⟩, hit, hl, hTe, hTi⟩ := hm
    refine wpAny_letOwnedTupleGo_enum ho fun h' he' hs' => hQ h' ⟨⟨x, by simpa using he'⟩, hit.at fun o y => (hs'.2 it hei.symm).trans y, hl.at fun o y => (hs'.2 l hle).trans y⟩ fun b o hb y => ?_
    exact (hs'.2 b fun q => hb (by simp [q])).trans y
  apart := fun i T h hm hT => by
    obtain ⟨_, _, _, hTe, hTi⟩ := hm
    rcases List.mem_cons.mp hT with rfl | hT
    · exact hTe rfl
    · exact hTi (List.mem_singleton.mp hT)
  done := fun s Q E hst hQ => by
    obtain ⟨⟨old, he⟩, hit, hl⟩ := hst
    have hT : s.TypeIs (.ref e) "enumerate" := ⟨_, he, rfl⟩
    unfold pyNext
    refine wpAny_bind (wpAny_attempt (wpAny_callSpecial?_slot (name := Str.ofString "__next__") hT F.slot_enumerate_next (wpAny_call_entry F.slot_enumerate_next hT F.entry_enumerate_next ?_ (F.args_enumerate_next_1 _))))
    show wpAny _ _ (field (.ref e) 2 >>= _) _ _ _
    refine wpAny_bind (wpAny_field he rfl (x := .ref it) rfl ?_)
    refine wpAny_bind (nextOf_tuple_end hh hit hl (Array.getElem?_eq_none (Nat.le_refl _)) fun h' x he' hx' => ?_)
    obtain ⟨o, ho, hc⟩ := hx'
    refine wpAny_bind (wpAny_isInstance (T := "StopIteration") (b := true) ⟨o, ho, hc⟩ isSubtype_stop ?_)
    exact wpAny_pure (hQ _ s.toks fun b o hb y => he' b o (fun q => hb (by simp [q])) y)
  self := fun i s Q E hst hQ => by
    obtain ⟨⟨old, he⟩, _, _⟩ := hst
    exact wpAny_pyIter_enum he hQ
end Mine188
end
section
open PySem PySem.W PySem.Spec PySem.Calls PyProof.Rows
set_option maxRecDepth 100000
set_option maxHeartbeats 4000000
namespace Mine188
section
variable {prog : Program} {w : World} {A : Around} {E : Value → Shared → Prop} {s : Shared} {env : Env} {h₀ : Heap} {xi xc : Str} {body : List Stmt} {Q : Flow → Shared → Prop}
theorem enum_iter {l a : Addr} {items : Array Value} {o₀ : Obj} {m₀ : Str → Option Value} (J : Nat → (Str → Option Value) → Obj → Prop)
    (hh : A.handled = none) (hl : h₀.IsTuple l items) (F : Fr h₀ env.locals s.heap m₀) (N : News h₀ env.locals s.heap [(a, o₀)]) (hj : J 0 m₀ o₀)
    (turn : ∀ i v t m₁ o h tk own, items[i]? = some v → OwnOff own [a] → J i m₁ o → Fr h₀ env.locals h (fun y => if y = xc then some v else if y = xi then some (.int i t) else m₁ y) → News h₀ env.locals h ((a, o) :: own) →
      wpAny (model prog w) A (execs body env) (InvPostG h₀ env.locals (fun m' nx => ∃ o', nx = [(a, o')] ∧ J (i + 1) m' o') own { s with heap := h, toks := tk } Q) E { s with heap := h, toks := tk })
    (done : ∀ m₁ o h tk, J items.size m₁ o → Fr h₀ env.locals h m₁ → News h₀ env.locals h [(a, o)] → Q .next { s with heap := h, toks := tk }) :
    wpAny (model prog w) A (call (.type "enumerate") [.ref l]) (fun xv s₁ => wpAny (model prog w) A (pyIter xv) (fun it s₂ => PairAt3 prog w A h₀ env xi xc body Q E it s₂) E s₁) E s := by
  have hls : s.heap.IsTuple l items := hl.at fun o e => F.keep l o e
  obtain ⟨ol, hol, _⟩ := id hl
  have hlt : @LT.lt Nat _ l h₀.objs.size := Heap.lt_size hol
  have hlts : @LT.lt Nat _ l s.heap.objs.size := Heap.lt_size (F.keep _ _ hol)
  have halt : @LT.lt Nat _ a s.heap.objs.size := Heap.lt_size (N _ (.head _)).1
  have hLs : @LT.lt Nat _ env.locals s.heap.objs.size := F.ns.lt
  have hab : @LE.le Nat _ h₀.objs.size env.locals := F.above
  have hal : a ≠ l := fun q => by have := (N _ (.head _)).2.2; rw [q, hol] at this; cases this
  refine call_enum_tuple hls fun h' hE hI hsz hk => ?_
  refine wpAny_pyIter_enum hE ?_
  refine ⟨s.heap.objs.size + 1, _, _, items.size, _, _, _, (fun i v0 v1 => (∃ t, v0 = .int i t) ∧ items[i]? = some v1), m₀, [(a, o₀)], (fun i m nx => ∃ o, nx = [(a, o)] ∧ J i m o), rfl, walks_enumT hh (s.heap.objs.size + 1) s.heap.objs.size l (Nat.succ_ne_self _) (neN (by omega)) (neN (by omega)) items, ?_, ?_, ?_, ?_, ⟨⟨_, hE⟩, hI, hls.at fun o e => hk _ o e⟩, ⟨F.ns.keeps hk, fun b o e => hk b o (F.keep b o e), F.above⟩, (fun p hp => ⟨hk _ _ (N p hp).1, (N p hp).2⟩), ⟨o₀, rfl, hj⟩, ?_, ?_⟩
  · rintro i vals ⟨t, x, hx, rfl⟩
    exact ⟨_, _, rfl, ⟨t, rfl⟩, hx⟩
  · intro hm
    simp only [List.mem_cons, List.not_mem_nil, or_false] at hm
    rcases hm with h | h | h
    · exact absurd h (neN (by omega))
    · exact absurd h (neN (by omega))
    · exact absurd h (neN (by omega))
  · intro b hb
    have : ¬ @LT.lt Nat _ b h₀.objs.size := by
      simp only [List.mem_cons, List.not_mem_nil, or_false] at hb
      rcases hb with h | h
      · rw [h]; omega
      · rw [h]; omega
    cases q : h₀.get? b with
    | none => rfl
    | some o => exact absurd (Heap.lt_size q) this
  · intro p hp hq
    rw [List.mem_singleton.mp hp] at hq
    simp only [List.mem_cons, List.not_mem_nil, or_false] at hq
    rcases hq with h | h
    · exact absurd h (neN (by omega))
    · exact absurd h (neN (by omega))
  · rintro i v0 v1 m₁ news₁ s₁ own ⟨hh', tk', rfl⟩ hin ⟨⟨t, rfl⟩, hx⟩ ⟨o, rfl, hJ⟩ hadr hown F₁ N₁
    have hoff : OwnOff own [a] := by
      intro p hp b hb q
      rw [List.mem_singleton.mp hb] at q
      have := hown p hp
      simp only [List.mem_cons, List.not_mem_nil, or_false] at this
      rcases this with h1 | h1 | h1
      · exact absurd (q.symm.trans h1) (neN (by omega))
      · exact absurd (q.symm.trans h1) (neN (by omega))
      · exact hal (q.symm.trans h1)
    have N₂ : News h₀ env.locals hh' ((a, o) :: own) := fun p hp => N₁ p (by
      rcases List.mem_cons.mp hp with rfl | hp
      · exact List.mem_append.mpr (.inr (.head _))
      · exact List.mem_append.mpr (.inl hp))
    refine wpAny_mono (turn i v1 t m₁ o hh' tk' own hx hoff hJ F₁ N₂) (fun f s₂ p => ?_) fun _ _ e => e
    have fin : InvEndG h₀ env.locals (fun m' nx => ∃ o', nx = [(a, o')] ∧ J (i + 1) m' o') own { s with heap := hh', toks := tk' } s₂ → LoopStep2 h₀ env.locals own [(a, o)] (fun m nx => ∃ o, nx = [(a, o)] ∧ J (i + 1) m o) { s with heap := hh', toks := tk' } .next s₂ := by
      rintro ⟨h'', tk, m', news', nx, e, F', N', hn, ho, ha, o', rfl, hm⟩
      exact ⟨rfl, h'', tk, m', [(a, o')], e, F', fun p hp => N' p ((List.mem_append.mp hp).elim (ho p) (hn p)), rfl, o', rfl, hm⟩
    cases f with
    | ret v => exact p
    | brk => exact p
    | next => exact fin p
    | cont => exact fin p
  · rintro h'' tk m' news' F' N' _ ⟨o, rfl, hJ⟩
    exact done m' o h'' tk hJ F' N'
end
end Mine188
end
section
open PySem PySem.W PySem.Spec PySem.Calls PyProof.Rows
set_option maxRecDepth 100000
set_option maxHeartbeats 4000000
namespace Mine188
section
variable {prog : Program} {w : World} {A : Around} {E : Value → Shared → Prop} {s : Shared} {env : Env} {h₀ : Heap} {xb xc : Str} {body orelse : List Stmt} {Q : Flow → Shared → Prop}
theorem own_tupleiter {M : Model} {elts : List Expr} {x1 : Nat} {pos : Pos} {I l : Addr} {v : Value} {i : Nat} {Q : Unit → Shared → Prop} (hit : s.heap.IsTupleIter I l i) (hQ : Q () s) : wpAny M A (letOwnedTupleGo (.Tuple elts x1 pos) (.ref I) v) Q E s := by
  obtain ⟨⟨c, d, dt, sl⟩, ho, hc, hd⟩ := hit
  replace hc : c = .type "tuple_iterator" := hc
  replace hd : dt = .fields #[.ref l, .int i 0] := hd
  subst hc hd
  unfold letOwnedTupleGo
  cases v <;> first | exact wpAny_pure hQ | skip
  refine wpAny_bind (wpAny_load ho ?_)
  exact wpAny_pure hQ

abbrev two (xb xc : Str) (b c : Option Value) (m₀ : Str → Option Value) : Str → Option Value := fun y => if y = xc then c else if y = xb then b else m₀ y
theorem pair_else {iter : Expr} {pb pc pt pos : Pos} {x1 : Nat} {l : Addr} {items : Array Value} {pv : Nat → Value × Value} {m₀ : Str → Option Value} {news : List (Addr × Obj)} (J : Nat → Prop)
    (hh : A.handled = none) (hxb : env.kindOf xb = some .local) (hxc : env.kindOf xc = some .local) (hne : xb ≠ xc) (hp : (env.scope.kind == .class || (env.scope.kind == .module && env.locals != env.globals)) = false)
    (hs : ∀ x, foldedSetIterable iter env x = pure x) (hE : PassesOwn (model prog w) A env E)
    (hi : ∀ Q' : Value → Shared → Prop, Q' (.ref l) s → wpAny (model prog w) A (eval iter env) Q' E s)
    (hl : h₀.IsTuple l items) (hpr : ∀ i, i < items.size → ∃ p, items[i]? = some (.ref p) ∧ h₀.IsTuple p #[(pv i).1, (pv i).2])
    (F : Fr h₀ env.locals s.heap m₀) (N : News h₀ env.locals s.heap news) (hj : J 0)
    (turn : ∀ i h tk own, i < items.size → OwnOff own (news.map (·.1)) → J i → Fr h₀ env.locals h (two xb xc (some (pv i).1) (some (pv i).2) m₀) → News h₀ env.locals h (news ++ own) →
      wpAny (model prog w) A (execs body env) (fun f s₂ => match f with
        | .next | .cont => J (i + 1) ∧ ∃ h' tk' b c, s₂ = { s with heap := h', toks := tk' } ∧ Fr h₀ env.locals h' (two xb xc b c m₀) ∧ News h₀ env.locals h' (news ++ own)
        | .brk => Q .next s₂
        | .ret v => Q (.ret v) s₂) E { s with heap := h, toks := tk })
    (els : ∀ b c h tk, J items.size → Fr h₀ env.locals h (two xb xc b c m₀) → News h₀ env.locals h news → wpAny (model prog w) A (execs orelse env) Q E { s with heap := h, toks := tk }) :
    wpAny (model prog w) A (exec (.For (.Tuple [.Name xb pb, .Name xc pc] x1 pt) iter body orelse pos) env) Q E s := by
  have hls : s.heap.IsTuple l items := hl.at fun o e => F.keep l o e
  obtain ⟨ol, hol, _⟩ := id hl
  have hlts : @LT.lt Nat _ l s.heap.objs.size := Heap.lt_size (F.keep _ _ hol)
  have hLs : @LT.lt Nat _ env.locals s.heap.objs.size := F.ns.lt
  have hnew : h₀.get? s.heap.objs.size = none := next_is_new F
  refine wpAny_For (hi _ (wpAny_pyIter_tuple hls ?_)) hs
  have W := Walks.tuple (prog := prog) (w := w) hh s.heap.objs.size l (neN (by omega)) items
  have m0 : m₀ = two xb xc (m₀ xb) (m₀ xc) m₀ := by
    funext y
    unfold two
    by_cases a1 : y = xc
    · rw [if_pos a1, a1]
    · rw [if_neg a1]
      by_cases a2 : y = xb
      · rw [if_pos a2, a2]
      · rw [if_neg a2]
  have hIL : env.locals ≠ s.heap.objs.size := neN (by omega)
  refine codeAny_forLoop_any
    (fun k s' => ∃ h' tk b c i, s' = { s with heap := h', toks := tk } ∧ h'.IsTupleIter s.heap.objs.size l i ∧ Fr h₀ env.locals h' (two xb xc b c m₀) ∧ News h₀ env.locals h' news ∧ J i ∧ i ≤ items.size ∧ k = items.size + 1 - i) ?_ (items.size + 1)
    ⟨_, s.toks, m₀ xb, m₀ xc, 0, rfl, ⟨_, Heap.get?_push_size _ rfl, rfl, rfl⟩, m0 ▸ F.push _, (fun p hp => ⟨Heap.get?_push_of_some _ (N p hp).1, (N p hp).2⟩), hj, Nat.zero_le _, rfl⟩
  rintro k s' ⟨H, tk, b, c, i, rfl, hit', F', N', hJ, hi', rfl⟩
  have hlH : H.IsTuple l items := hl.at fun o e => F'.keep l o e
  have offI : ∀ p ∈ news, p.1 ≠ s.heap.objs.size := fun p hp => Nat.ne_of_lt (Heap.lt_size (N p hp).1)
  have old : ∀ b' o, h₀.get? b' = some o → b' ≠ s.heap.objs.size := fun b' o e q => by rw [q, hnew] at e; cases e
  by_cases hlt : i < items.size
  · obtain ⟨p, hp1, hp2⟩ := hpr i hlt
    refine wpAny_pyNext_tuple_item hit' hlH hp1 fun h₁ hit₁ hs₁ => ?_
    refine own_tupleiter hit₁ ?_
    have hp1' : h₁.IsTuple p #[(pv i).1, (pv i).2] := hp2.at fun o e => hs₁.extBut p o (old p o e) (F'.keep p o e)
    refine wpAny_assign_Tuple hh hp1' rfl rfl fun h₃ hx₃ => ?_
    replace hx₃ : Heap.ExtBut h₁.objs.size h₁ h₃ := hx₃
    have up₃ : ∀ b' o, h₁.get? b' = some o → h₃.get? b' = some o := fun b' o x => hx₃ b' o (Nat.ne_of_lt (Heap.lt_size x)) x
    have F₃ : Fr h₀ env.locals h₃ (two xb xc b c m₀) := ⟨F'.ns.at' fun o e => up₃ _ o (hs₁.extBut _ o hIL e), fun b' o e => up₃ b' o (hs₁.extBut b' o (old b' o e) (F'.keep b' o e)), F'.above⟩
    have N₃ : News h₀ env.locals h₃ news := fun q hq => ⟨up₃ _ _ (hs₁.extBut _ _ (offI q hq) (N' q hq).1), (N' q hq).2⟩
    have hit₃ : h₃.IsTupleIter s.heap.objs.size l (i + 1) := hit₁.at fun o e => up₃ _ o e
    show wpAny _ A (do holding [(pv i).2] (assign (.Name xb pb) env (pv i).1); do holding [] (assign (.Name xc pc) env (pv i).2); pure ()) _ _ _
    refine wpAny_bind (wpAny_holding (wpAny_assign_Name (wpAny_storeName_local hxb F₃.ns (fun h₄ hn₄ hs₄ => ?_) hp)))
    replace hs₄ : Heap.SameBut env.locals h₃ h₄ := hs₄
    have F₄ := F₃.set hn₄ hs₄
    refine wpAny_bind (wpAny_holding (wpAny_assign_Name (wpAny_storeName_local hxc F₄.ns (fun h₅ hn₅ hs₅ => wpAny_pure ?_) hp)))
    replace hs₅ : Heap.SameBut env.locals h₄ h₅ := hs₅
    have F₅ := F₄.set hn₅ hs₅
    have N₅ : News h₀ env.locals h₅ news := (N₃.set hs₄).set hs₅
    have hit₅ : h₅.IsTupleIter s.heap.objs.size l (i + 1) := (hit₃.at fun o e => hs₄.extBut _ o (Ne.symm hIL) e).at fun o e => hs₅.extBut _ o (Ne.symm hIL) e
    obtain ⟨oI, hoI, _⟩ := id hit₅
    have em : (fun y => if y = xc then some (pv i).2 else if y = xb then some (pv i).1 else two xb xc b c m₀ y) = two xb xc (some (pv i).1) (some (pv i).2) m₀ := by
      funext y
      by_cases a1 : y = xc
      · simp only [two, if_pos a1]
      · by_cases a2 : y = xb
        · simp only [two, if_neg a1, if_pos a2]
        · simp only [two, if_neg a1, if_neg a2]
    rw [em] at F₅
    have Nown : News h₀ env.locals h₅ (news ++ [(s.heap.objs.size, oI)]) := fun q hq => by
      rcases List.mem_append.mp hq with hq | hq
      · exact N₅ q hq
      · rw [List.mem_singleton.mp hq]; exact ⟨hoI, Ne.symm hIL, hnew⟩
    have hoff : OwnOff [(s.heap.objs.size, oI)] (news.map (·.1)) := by
      intro q hq b' hb' e
      obtain ⟨r, hr, rfl⟩ := List.mem_map.mp hb'
      rw [List.mem_singleton.mp hq] at e
      exact offI r hr e.symm
    refine wpAny_passesOwn hE (wpAny_mono (turn i h₅ _ _ hlt hoff hJ F₅ Nown) (fun f s₂ h₂ => ?_) fun _ _ e => e)
    cases f with
    | ret v => exact h₂
    | brk => exact h₂
    | next =>
      obtain ⟨hJ', h', tk', b', c', rfl, F'', N''⟩ := h₂
      refine ⟨items.size + 1 - (i + 1), by omega, h', tk', b', c', i + 1, rfl, ?_, F'', fun q hq => N'' q (List.mem_append_left _ hq), hJ', hlt, rfl⟩
      have hI' := (N'' _ (List.mem_append_right _ (.head _))).1
      exact hit₅.at fun o e => by rw [hoI] at e; rw [← Option.some.inj e]; exact hI'
    | cont =>
      obtain ⟨hJ', h', tk', b', c', rfl, F'', N''⟩ := h₂
      refine ⟨items.size + 1 - (i + 1), by omega, h', tk', b', c', i + 1, rfl, ?_, F'', fun q hq => N'' q (List.mem_append_left _ hq), hJ', hlt, rfl⟩
      have hI' := (N'' _ (List.mem_append_right _ (.head _))).1
      exact hit₅.at fun o e => by rw [hoI] at e; rw [← Option.some.inj e]; exact hI'
  · have hin : i = items.size := by omega
    subst hin
    refine wpAny_pyNext_tuple_end hh hit' hlH (by simp) fun h₁ he₁ => ?_
    refine wpAny_passesOwn hE (els b c h₁ tk hJ ⟨F'.ns.at' fun o e => he₁ _ o hIL e, fun b' o e => he₁ b' o (old b' o e) (F'.keep b' o e), F'.above⟩ fun q hq => ⟨he₁ _ _ (offI q hq) (N' q hq).1, (N' q hq).2⟩)
end
end Mine188
end
section
open PySem PySem.W PySem.Spec PySem.Calls PyProof.Rows
set_option maxRecDepth 100000
set_option maxHeartbeats 4000000
namespace Mine188
def fmTab : List (List (Int × Nat)) := [[(40960, 108), (49152, 115), (32768, 45), (24576, 98), (16384, 100), (8192, 99), (4096, 112)], [(256, 114)], [(128, 119)], [(2112, 115), (2048, 83), (64, 120)], [(32, 114)], [(16, 119)], [(1032, 115), (1024, 83), (8, 120)], [(4, 114)], [(2, 119)], [(513, 116), (512, 84), (1, 120)]]
def fmRow (i : Nat) : List (Int × Nat) := fmTab.getD i []
/-- the sign at a place of filemode's row -/
def fmSign (n : Int) (i : Nat) : Nat :=
  if i = 0 then (((fmRow 0).find? fun p => Builtin.bitAnd n 61440 == p.1).map (·.2)).getD 63
  else (((fmRow i).find? fun p => Builtin.bitAnd n p.1 == p.1).map (·.2)).getD 45
theorem tab_tuple {P : Params} {h : Heap} (X : (hd.heap_39 P).In h) : h.IsTuple 71 (seqAt (hd.heap_39 P) 71) := ⟨objAt (hd.heap_39 P) 71, X 71 _ (by kernel_rfl), by kernel_rfl, epAt (hd.heap_39 P) 71, by kernel_rfl⟩
def refAt (v : Option Value) : Addr := match v with | some (.ref a) => a | _ => 0
def isTup (K : Frag) (a : Addr) : Bool := match K.lookup a with | some ⟨.type t, _, .seq _ _, _⟩ => t == "tuple" | _ => false
theorem isTup_tuple {K : Frag} {h : Heap} {a : Addr} (X : K.In h) (e : isTup K a = true) : h.IsTuple a (seqAt K a) := by
  unfold isTup at e
  split at e
  · rename_i t d xs n sl hk
    refine ⟨_, X a _ hk, ?_, n, ?_⟩
    · show Value.type t = _; rw [eq_of_beq e]
    · unfold seqAt; rw [hk]
  · cases e
def isPair (K : Frag) (a : Addr) (q : Int × Nat) : Bool := match (seqAt K a).toList with | [.int b _, .str c _] => b == q.1 && c == (⟨#[q.2]⟩ : Str) | _ => false
theorem isPair_eq {K : Frag} {a : Addr} {q : Int × Nat} (e : isPair K a q = true) : ∃ tb tc, seqAt K a = #[.int q.1 tb, .str ⟨#[q.2]⟩ tc] := by
  unfold isPair at e
  split at e
  · rename_i b tb c tc hk
    rw [Bool.and_eq_true] at e
    refine ⟨tb, tc, ?_⟩
    apply Array.toList_inj.mp
    rw [hk, eq_of_beq e.1, eq_of_beq e.2]
  · cases e
def okRow (K : Frag) (i : Nat) : Bool :=
  let l := refAt (seqAt K 71)[i]?
  ((seqAt K 71)[i]? == some (.ref l)) && isTup K l && (seqAt K l).size == (fmRow i).length &&
    (List.range (fmRow i).length).all fun j => let p := refAt (seqAt K l)[j]?; ((seqAt K l)[j]? == some (.ref p)) && isTup K p && isPair K p ((fmRow i).getD j (0, 0))
theorem rows_ok (P : Params) : (List.range 10).all (okRow (hd.heap_39 P)) = true := by kernel_rfl
theorem tab_size (P : Params) : (seqAt (hd.heap_39 P) 71).size = 10 := by kernel_rfl
theorem tab_row {P : Params} {h : Heap} (X : (hd.heap_39 P).In h) {i : Nat} (hi : i < 10) : ∃ l items, (seqAt (hd.heap_39 P) 71)[i]? = some (.ref l) ∧ h.IsTuple l items ∧ items.size = (fmRow i).length ∧
    ∀ j, j < items.size → ∃ p tb tc, items[j]? = some (.ref p) ∧ h.IsTuple p #[.int ((fmRow i).getD j (0, 0)).1 tb, .str ⟨#[((fmRow i).getD j (0, 0)).2]⟩ tc] := by
  have k := List.all_eq_true.mp (rows_ok P) i (List.mem_range.mpr hi)
  unfold okRow at k
  simp only [Bool.and_eq_true, List.all_eq_true, List.mem_range] at k
  obtain ⟨⟨⟨k1, k2⟩, k3⟩, k4⟩ := k
  refine ⟨_, _, eq_of_beq k1, isTup_tuple X k2, eq_of_beq k3, fun j hj => ?_⟩
  rw [eq_of_beq k3] at hj
  obtain ⟨⟨q1, q2⟩, q3⟩ := k4 j hj
  obtain ⟨tb, tc, e⟩ := isPair_eq q3
  refine ⟨_, tb, tc, eq_of_beq q1, ?_⟩
  have := isTup_tuple X q2
  rwa [e] at this
end Mine188
end
section
open PySem PySem.W PySem.Spec PySem.Calls PyProof.Rows
set_option maxRecDepth 100000
set_option maxHeartbeats 0
namespace Mine188
def fmM (m₀ u : Str → Option Value) (n : Int) (t : Tok) (a : Addr) : Str → Option Value := fun z =>
  if z = Str.ofString "perm" then some (.ref a) else if z = Str.ofString "mode" then some (.int n t)
  else if z = Str.ofString "index" then u z else if z = Str.ofString "table" then u z else if z = Str.ofString "bit" then u z else if z = Str.ofString "char" then u z else m₀ z
theorem fr_gen2 {h₀ h : Heap} {L : Addr} {m : Str → Option Value} {G : Prop} (F : Fr h₀ L h m) (k : ∀ m', m' = m → Fr h₀ L h m' → G) : G := k m rfl F
theorem news_gen {h₀ h : Heap} {L a : Addr} {o : Obj} {G : Prop} (N : News h₀ L h [(a, o)]) (k : ∀ a', a' = a → News h₀ L h [(a', o)] → G) : G := k a rfl N

theorem ite_y2 {b : Bool} {P Q : Prop} (hb : b = true) (h : P) : if b = true then P else Q := by subst hb; exact h
theorem ite_n2 {b : Bool} {P Q : Prop} (hb : b = false) (h : Q) : if b = true then P else Q := by subst hb; exact h
theorem Ctr.useI {w : World} {E : Value → Shared → Prop} {s : Shared} {h₀ : Heap} {L : Addr} {m mg mb : Str → Option Value} {news : List (Addr × Obj)} {mean : ExcName → Option Value} {Q : Value → Shared → Prop}
    {k : Nat} {f : Addr} {vs : List Value} {Pre : Heap → Prop} {y : Int} {dp un : Nat} {fr : Option (List Env)} {gd : Option (List Code)}
    (C : Ctr k f vs Pre (fun _ r _ => ∃ t, r = .int y t)) (X : (hd.heap_39 w.params).In h₀) (T : Top hd.view_39 looseN mean mg mb h₀) (F : Fr h₀ L s.heap m) (N : News h₀ L s.heap news) (hp : Pre s.heap) (hd : dp + k < recursionLimit) (hu : un + 20 * k < cLine)
    (h : ∀ (t : Tok) (h' : Heap) (tk' : Nat), Fr h₀ L h' m → News h₀ L h' news → Q (.int y t) { s with heap := h', toks := tk' }) :
    wpAny (model PySem.Challenge.rw_ny0188_01.row.prog w) (Ar dp un fr gd) (call (.ref f) vs) Q E s :=
  Ctr.use C X T F N hp hd hu fun r h' tk F' N' _ hP => by obtain ⟨t, rfl⟩ := hP; exact h t h' tk F' N'
theorem str_ext0 {a b : Str} (h : a.cps.toList = b.cps.toList) : a = b := by
  cases a; cases b
  congr 1
  exact Array.toList_inj.mp h
theorem join_flat : ∀ (l : List Str), (Txt.join (Str.ofString "") l).cps.toList = l.flatMap fun x => x.cps.toList := by
  intro l
  show (Builtin.Str.glued (Str.ofString "") l).cps.toList = _
  rw [StrLaws.glued_eq_join]
  induction l with
  | nil => rfl
  | cons x r ih =>
    cases r with
    | nil => simp [Str.join]
    | cons y r =>
      show ((x ++ Str.ofString "") ++ Str.join (Str.ofString "") (y :: r)).cps.toList = _
      have e : ∀ a b : Str, (a ++ b).cps.toList = a.cps.toList ++ b.cps.toList := fun a b => Array.toList_append
      rw [e, e, ih]
      have e2 : (Str.ofString "").cps.toList = [] := by decide +kernel
      rw [e2, List.append_nil]
      rfl
theorem find_hit {α : Type} (p : α → Bool) (d : α) : ∀ (l : List α) (j : Nat), j < l.length → (∀ k, k < j → p (l.getD k d) = false) → p (l.getD j d) = true → l.find? p = some (l.getD j d)
  | [], j, h, _, _ => absurd h (Nat.not_lt_zero _)
  | a :: l, 0, _, _, h2 => by
    have h3 : p a = true := h2
    rw [List.find?_cons_of_pos h3]; rfl
  | a :: l, j + 1, h, h1, h2 => by
    have h0 : p a = false := h1 0 (Nat.succ_pos _)
    rw [List.find?_cons_of_neg (by rw [h0]; exact Bool.false_ne_true)]
    exact find_hit p d l j (Nat.lt_of_succ_lt_succ h) (fun k hk => h1 (k + 1) (Nat.succ_lt_succ hk)) h2
theorem find_miss {α : Type} (p : α → Bool) (d : α) : ∀ (l : List α), (∀ k, k < l.length → p (l.getD k d) = false) → l.find? p = none
  | [], _ => rfl
  | a :: l, h1 => by
    have h0 : p a = false := h1 0 (Nat.succ_pos _)
    rw [List.find?_cons_of_neg (by rw [h0]; exact Bool.false_ne_true)]
    exact find_miss p d l fun k hk => h1 (k + 1) (Nat.succ_lt_succ hk)
/-- the test of a pair at a place -/
def fmCond (n : Int) (i : Nat) (q : Int × Nat) : Bool := if i = 0 then Builtin.bitAnd n 61440 == q.1 else Builtin.bitAnd n q.1 == q.1
theorem fmSign_eq (n : Int) (i : Nat) : fmSign n i = (((fmRow i).find? (fmCond n i)).map (·.2)).getD (if i = 0 then 63 else 45) := by
  unfold fmSign fmCond
  by_cases h : i = 0
  · subst h; rfl
  · simp only [if_neg h]
theorem fmSign_hit {n : Int} {i j : Nat} (hj : j < (fmRow i).length) (h1 : ∀ k, k < j → fmCond n i ((fmRow i).getD k (0, 0)) = false) (h2 : fmCond n i ((fmRow i).getD j (0, 0)) = true) : fmSign n i = ((fmRow i).getD j (0, 0)).2 := by
  rw [fmSign_eq, find_hit _ (0, 0) _ j hj h1 h2]; rfl
theorem fmSign_miss {n : Int} {i : Nat} (h1 : ∀ k, k < (fmRow i).length → fmCond n i ((fmRow i).getD k (0, 0)) = false) : fmSign n i = if i = 0 then 63 else 45 := by
  rw [fmSign_eq, find_miss _ (0, 0) _ h1]; rfl
theorem fmM_of {m₀ m' : Str → Option Value} {n : Int} {t : Tok} {a : Addr} (h1 : m' (Str.ofString "perm") = some (.ref a)) (h2 : m' (Str.ofString "mode") = some (.int n t))
    (h4 : ∀ z, z ≠ Str.ofString "perm" → z ≠ Str.ofString "mode" → z ≠ Str.ofString "index" → z ≠ Str.ofString "table" → z ≠ Str.ofString "bit" → z ≠ Str.ofString "char" → m' z = m₀ z) : m' = fmM m₀ m' n t a := by
  funext z
  unfold fmM
  by_cases a1 : z = Str.ofString "perm"
  · rw [if_pos a1, a1, h1]
  · rw [if_neg a1]
    by_cases a2 : z = Str.ofString "mode"
    · rw [if_pos a2, a2, h2]
    · rw [if_neg a2]
      by_cases a3 : z = Str.ofString "index"
      · rw [if_pos a3]
      · rw [if_neg a3]
        by_cases a4 : z = Str.ofString "table"
        · rw [if_pos a4]
        · rw [if_neg a4]
          by_cases a5 : z = Str.ofString "bit"
          · rw [if_pos a5]
          · rw [if_neg a5]
            by_cases a6 : z = Str.ofString "char"
            · rw [if_pos a6]
            · rw [if_neg a6]
              exact h4 z a1 a2 a3 a4 a5 a6
theorem list_push (vs : List Value) (v : Value) (n : Nat) : W.listOf (vs.toArray.push v) n = W.listOf (vs ++ [v]).toArray n := by rw [List.push_toArray]
local macro_rules | `(tactic| walk_at "ite") => `(tactic| first | (refine ite_y2 (by with_reducible assumption) ?_) | (refine ite_n2 (by with_reducible assumption) ?_))
local macro_rules | `(tactic| walk_at "call ref") => `(tactic| (k_here; (with_reducible show wpAny _ _ (call (Value.ref 38) [_]) _ _ _); k_dflt (refine' Ctr.useI (ifmt_ctr _ _) ?k1 ?k2 ?k3 ?k4 trivial ?k5 ?k6 ?_; (case k1 => k_asm); (case k2 => k_asm); (case k3 => k_asm); (case k4 => k_asm); (case k5 => (dsimp only [Around.deeper, Ar]; omega)); (case k6 => (dsimp only [Around.deeper, Ar]; omega)); k_whole); intro t9 h' tk9 F' N'))
local macro_rules | `(tactic| walk_at "call builtin:list.append") => `(tactic| (k_here; k_dflt (refine' append_K ?k1 ?k2 (Upd.head ?k3) ?_ ?z; (case k1 => k_asm); (case k2 => k_asm); (case k3 => with_reducible assumption); (case z => with_reducible assumption); k_whole); intro h' F' N'))
theorem fm_ctr (n : Int) (t : Tok) (h0 : 0 ≤ n) (h1 : n < 65536) : Ctr 3 78 [.int n t] (fun _ => True) (fun _ r _ => ∃ t, r = .str ⟨((List.range 10).map (fmSign n)).toArray⟩ t) := by
  unfold Ctr
  k_fill
  intro w mean mg mb dp un fr gd s Q E X T' hp hdp hu hret
  k_dflt (refine' enter1 ?k1 ?k2 ?k6 ?k7 ?k8 ?k9 ?kB ?_ ?c2 ?c3 ?c4 ?c5; (case k1 => exact X); (case k2 => exact T'); (case k6 => k_is); (case k7 => k_is); (case k8 => exact Nat.lt_of_le_of_lt (Nat.le_add_right _ _) hdp); (case k9 => exact BindsTo.of_eq rfl); (case c5 => decide); (case kB => exact locs rfl); (case c2 => exact rfl); (case c3 => exact rfl); (case c4 => exact rfl); k_whole; intro L' h' F' N'; (try dsimp only); (try k_fold))
  k_steps
  rename Fr _ _ _ _ => F9
  rename News _ _ _ _ => N9
  refine fr_gen2 F9 fun m₀ hm₀ F8 => ?_
  clear F9
  obtain ⟨a9, hpa⟩ : ∃ a, m₀ (Str.ofString "perm") = some (.ref a) := ⟨_, by rw [hm₀]; rfl⟩
  have hmo : m₀ (Str.ofString "mode") = some (.int n t) := by rw [hm₀]; rfl
  have hpb := hpa
  rw [hm₀] at hpb
  have hpc : _ = a9 := Value.ref.inj (Option.some.inj hpb)
  clear hpb hm₀
  rw [hpc] at N9
  refine enum_iter (fun i m o => ∃ vs ep u, o = W.listOf (List.toArray vs) ep ∧ StrsAre vs ((List.range i).map fun k => (⟨#[fmSign n k]⟩ : Str)) ∧ m = fmM m₀ u n t a9) rfl (tab_tuple X) F8 N9 ?_ ?_ ?_
  · exact ⟨[], _, m₀, rfl, .nil, fmM_of hpa hmo (fun z _ _ _ _ _ _ => rfl)⟩
  · rintro i v tv m₁ o h9 tk9 own9 hv9 ho9 ⟨vs9, ep9, u9, rfl, hS9, rfl⟩ F7 N7
    have hi : i < 10 := by have := (Array.getElem?_eq_some_iff.mp hv9).1; rw [tab_size] at this; exact this
    obtain ⟨l9, it9, hl1, hl2, hl3, hl4⟩ := tab_row X hi
    have hv : v = .ref l9 := by rw [hl1] at hv9; exact (Option.some.inj hv9).symm
    subst hv
    have H : ∀ j, ∃ q : Value × Value, j < it9.size → ∃ p tb tc, it9[j]? = some (.ref p) ∧ q = (.int ((fmRow i).getD j (0, 0)).1 tb, .str ⟨#[((fmRow i).getD j (0, 0)).2]⟩ tc) ∧ s.heap.IsTuple p #[q.1, q.2] := by
      intro j
      by_cases hj : j < it9.size
      · obtain ⟨p, tb, tc, e1, e2⟩ := hl4 j hj
        exact ⟨_, fun _ => ⟨p, tb, tc, e1, rfl, e2⟩⟩
      · exact ⟨(.none, .none), fun h => absurd h hj⟩
    obtain ⟨pv, hpv⟩ := Classical.skolem.mp H
    dsimp only [fmM] at F7
    k_steps
    have hsz : vs9.toArray.size ≤ sizeLine := by
      rw [List.size_toArray, StrsAre.length hS9, List.length_map, List.length_range]
      exact Nat.le_trans (Nat.le_of_lt hi) (by decide)
    have hiz : ∀ h : i ≠ 0, ((i : Int) == 0) = false := fun h => by simp; omega
    refine pair_else (pv := pv) (fun j => ∀ k, k < j → fmCond n i ((fmRow i).getD k (0, 0)) = false) rfl rfl rfl (by decide) rfl (fun _ => rfl) (by passes_own) (fun Q' hq => ld F7 rfl hq) hl2 (fun j hj => by obtain ⟨p, tb, tc, e1, _, e3⟩ := hpv j hj; exact ⟨p, e1, e3⟩) F7 N7 (fun k hk => absurd hk (Nat.not_lt_zero _)) ?_ ?_
    · intro j h6 tk6 own6 hj ho6 hJ6 F6 N6
      obtain ⟨p6, tb6, tc6, _, e6, _⟩ := hpv j hj
      rw [e6] at F6
      dsimp only at F6
      have hofZ : ∀ p ∈ own9 ++ own6, p.1 ≠ a9 := fun p hp => (List.mem_append.mp hp).elim (fun h => ho9 p h a9 (.head _)) (fun h => ho6 p h a9 (.head _))
      rw [List.cons_append] at N6
      obtain ⟨ownZ, hZ⟩ : ∃ o, o = own9 ++ own6 := ⟨_, rfl⟩
      rw [← hZ] at N6 hofZ
      have J' : fmCond n i ((fmRow i).getD j (0, 0)) = false → ∀ k, k < j + 1 → fmCond n i ((fmRow i).getD k (0, 0)) = false := fun h k hk => by
        rcases Nat.lt_succ_iff_lt_or_eq.mp hk with h' | h'
        · exact hJ6 k h'
        · rw [h']; exact h
      have JT : fmCond n i ((fmRow i).getD j (0, 0)) = true → StrsAre (vs9 ++ [.str ⟨#[((fmRow i).getD j (0, 0)).2]⟩ tc6]) ((List.range (i + 1)).map fun k => (⟨#[fmSign n k]⟩ : Str)) := fun h => by
        rw [List.range_succ, List.map_append, ← fmSign_hit (hl3 ▸ hj) hJ6 h]
        exact strsAre_append hS9 (.cons _ _ .nil)
      clear hJ6 hpv H hl4 e6 hv9 hl1 hl2 hl3 hj hS9
      generalize hq9 : (fmRow i).getD j (0, 0) = q6 at *
      clear hq9
      obtain ⟨b6, c6⟩ := q6
      dsimp only at *
      by_cases hz : i = 0
      · subst hz
        by_cases ht : (Builtin.bitAnd n 61440 == b6) = true
        · have hS' := JT ht
          clear J' JT
          k_steps
          rename Fr _ _ _ _ => F5
          rename News _ _ _ _ => N5
          subst hZ
          rw [list_push] at N5
          exact InvEndG.intro (nx := [_]) F5 N5 ⟨_, rfl, _, _, _, rfl, hS', fmM_of (by rfl) (by rfl) (fun z a1 a2 a3 a4 a5 a6 => by simp only [two, if_neg a1, if_neg a2, if_neg a3, if_neg a4, if_neg a5, if_neg a6])⟩ ho9 (fun p hp => by rw [List.mem_singleton.mp hp]; exact .head _) (fun p hp => .tail _ (List.mem_append_left _ hp))
        · have ht' : (Builtin.bitAnd n 61440 == b6) = false := by rw [Bool.not_eq_true] at ht; exact ht
          have hJ' := J' ht'
          clear J' JT ht
          k_steps
          · exact hJ' _ (by assumption)
          · rename Fr _ _ _ _ => F5
            exact F5
          · rename News _ _ _ _ => N5
            subst hZ
            exact N5
      · have hz' := hiz hz
        have hu : fmCond n i (b6, c6) = (Builtin.bitAnd n b6 == b6) := by unfold fmCond; rw [if_neg hz]
        rw [hu] at J' JT
        by_cases ht : (Builtin.bitAnd n b6 == b6) = true
        · have hS' := JT ht
          clear J' JT hu
          k_steps
          rename Fr _ _ _ _ => F5
          rename News _ _ _ _ => N5
          subst hZ
          rw [list_push] at N5
          exact InvEndG.intro (nx := [_]) F5 N5 ⟨_, rfl, _, _, _, rfl, hS', fmM_of (by rfl) (by rfl) (fun z a1 a2 a3 a4 a5 a6 => by simp only [two, if_neg a1, if_neg a2, if_neg a3, if_neg a4, if_neg a5, if_neg a6])⟩ ho9 (fun p hp => by rw [List.mem_singleton.mp hp]; exact .head _) (fun p hp => .tail _ (List.mem_append_left _ hp))
        · have ht' : (Builtin.bitAnd n b6 == b6) = false := by rw [Bool.not_eq_true] at ht; exact ht
          have hJ' := J' ht'
          clear J' JT ht hu
          k_steps
          · exact hJ' _ (by assumption)
          · rename Fr _ _ _ _ => F5
            exact F5
          · rename News _ _ _ _ => N5
            subst hZ
            exact N5
    · intro b6 c6 h6 tk6 hJ6 F6 N6
      have hofZ : ∀ p ∈ own9, p.1 ≠ a9 := fun p h => ho9 p h a9 (.head _)
      have hS' : ∀ tc : Tok, StrsAre (vs9 ++ [.str ⟨#[if i = 0 then 63 else 45]⟩ tc]) ((List.range (i + 1)).map fun k => (⟨#[fmSign n k]⟩ : Str)) := fun tc => by
        rw [List.range_succ, List.map_append, ← fmSign_miss (fun k hk => hJ6 k (hl3 ▸ hk))]
        exact strsAre_append hS9 (.cons _ _ .nil)
      clear hJ6 hpv H hl4 hv9 hl1 hl2 hl3 hS9
      by_cases hz : i = 0
      · subst hz
        k_steps
        rename Fr _ _ _ _ => F5
        rename News _ _ _ _ => N5
        rw [list_push] at N5
        exact InvEndG.intro (nx := [_]) F5 N5 ⟨_, rfl, _, _, _, rfl, hS' _, fmM_of (by rfl) (by rfl) (fun z a1 a2 a3 a4 a5 a6 => by simp only [two, if_neg a1, if_neg a2, if_neg a3, if_neg a4, if_neg a5, if_neg a6])⟩ ho9 (fun p hp => by rw [List.mem_singleton.mp hp]; exact .head _) (fun p hp => .tail _ hp)
      · have hz' := hiz hz
        rw [if_neg hz] at hS'
        k_steps
        rename Fr _ _ _ _ => F5
        rename News _ _ _ _ => N5
        rw [list_push] at N5
        exact InvEndG.intro (nx := [_]) F5 N5 ⟨_, rfl, _, _, _, rfl, hS' _, fmM_of (by rfl) (by rfl) (fun z a1 a2 a3 a4 a5 a6 => by simp only [two, if_neg a1, if_neg a2, if_neg a3, if_neg a4, if_neg a5, if_neg a6])⟩ ho9 (fun p hp => by rw [List.mem_singleton.mp hp]; exact .head _) (fun p hp => .tail _ hp)
  · rintro m₁ o h9 tk9 ⟨vs9, ep9, u9, rfl, hS9, rfl⟩ F7 N7
    rw [tab_size] at hS9
    unfold fmM at F7
    k_steps
    refine join_listC (News.isList N7 (.head _)) hS9 (by decide) (Nat.le_of_ble_eq_true rfl) fun t9 k9 => ?_
    k_steps
    refine hret _ _ _ F7.keep ⟨_, congrArg (fun x => Value.str x _) (str_ext0 ?_)⟩
    rw [join_flat]
    rfl
end Mine188
end
section
open PySem PySem.W PySem.Spec PySem.Calls PyProof.Rows
set_option maxRecDepth 100000
set_option maxHeartbeats 4000000
namespace Mine188
def kS (v : Nat) : Nat := [63, 112, 99, 63, 100, 63, 98, 63, 45, 63, 108, 63, 115, 63, 63, 63].getD v 0
def rS (v : Nat) : Nat := [45, 114].getD v 0
def wS (v : Nat) : Nat := [45, 119].getD v 0
def xS (v : Nat) : Nat := [45, 120, 83, 115].getD v 0
def tS (v : Nat) : Nat := [45, 120, 84, 116].getD v 0
def g1 (n : Nat) : Nat := n / 16 % 16
def g2 (n : Nat) : Nat := n / 256 % 16
def g3 (n : Nat) : Nat := n / 4096 % 16
def fB (n : Nat) : Nat := 8 * (g1 n / 8) + 4 * (g2 n / 8) + 2 * (g3 n / 8) + g1 n % 2
def fC (n : Nat) : Nat := 8 * (g1 n / 2 % 2) + 4 * (g1 n / 4 % 2) + 2 * (g2 n % 2) + g2 n / 2 % 2
def fD (n : Nat) : Nat := 8 * (g2 n / 4 % 2) + 4 * (g3 n % 2) + 2 * (g3 n / 2 % 2) + g3 n / 4 % 2
/-- the two octets of a number -/
def oA (n : Nat) : Nat := 16 * (n % 16) + fB n
def oB (n : Nat) : Nat := 16 * fC n + fD n
theorem fB_lt (n : Nat) : fB n < 16 := by unfold fB g1 g2 g3; omega
theorem fC_lt (n : Nat) : fC n < 16 := by unfold fC g1 g2; omega
theorem fD_lt (n : Nat) : fD n < 16 := by unfold fD g2 g3; omega
theorem oA_lt (n : Nat) : oA n < 256 := by have := fB_lt n; unfold oA; omega
theorem oB_lt (n : Nat) : oB n < 256 := by have := fC_lt n; have := fD_lt n; unfold oB; omega
theorem fmod_nat (a b : Nat) : (a : Int).fmod (b : Int) = ((a % b : Nat) : Int) := by rw [Int.fmod_eq_emod_of_nonneg _ (Int.natCast_nonneg b)]; rfl
theorem fdiv_nat (a b : Nat) : (a : Int).fdiv (b : Int) = ((a / b : Nat) : Int) := by rw [Int.fdiv_eq_ediv_of_nonneg _ (Int.natCast_nonneg b)]; rfl
theorem it_k (v : Nat) (h : v < 16) : Txt.item (Str.ofString "?pc?d?b?-?l?s???") (v : Int) = ⟨#[kS v]⟩ := by
  have key : ∀ v : Fin 16, Txt.item (Str.ofString "?pc?d?b?-?l?s???") ((v.1 : Nat) : Int) = ⟨#[kS v.1]⟩ := by decide +kernel
  exact key ⟨v, h⟩
theorem it_r (v : Nat) (h : v < 2) : Txt.item (Str.ofString "-r") (v : Int) = ⟨#[rS v]⟩ := by
  have key : ∀ v : Fin 2, Txt.item (Str.ofString "-r") ((v.1 : Nat) : Int) = ⟨#[rS v.1]⟩ := by decide +kernel
  exact key ⟨v, h⟩
theorem it_w (v : Nat) (h : v < 2) : Txt.item (Str.ofString "-w") (v : Int) = ⟨#[wS v]⟩ := by
  have key : ∀ v : Fin 2, Txt.item (Str.ofString "-w") ((v.1 : Nat) : Int) = ⟨#[wS v.1]⟩ := by decide +kernel
  exact key ⟨v, h⟩
theorem it_x (v : Nat) (h : v < 4) : Txt.item (Str.ofString "-xSs") (v : Int) = ⟨#[xS v]⟩ := by
  have key : ∀ v : Fin 4, Txt.item (Str.ofString "-xSs") ((v.1 : Nat) : Int) = ⟨#[xS v.1]⟩ := by decide +kernel
  exact key ⟨v, h⟩
theorem it_t (v : Nat) (h : v < 4) : Txt.item (Str.ofString "-xTt") (v : Int) = ⟨#[tS v]⟩ := by
  have key : ∀ v : Fin 4, Txt.item (Str.ofString "-xTt") ((v.1 : Nat) : Int) = ⟨#[tS v.1]⟩ := by decide +kernel
  exact key ⟨v, h⟩
def rowA (n : Nat) : Array Nat := #[kS (n % 16), rS (g1 n % 2), wS (g1 n / 2 % 2), xS (g1 n / 4), rS (g2 n % 2), wS (g2 n / 2 % 2), xS (g2 n / 4), rS (g3 n % 2), wS (g3 n / 2 % 2), tS (g3 n / 4)]
theorem row_eq (n : Nat) : rowOf (n : Int) = ⟨rowA n⟩ := by
  have e1 : figOf (n : Int) 16 = ((g1 n : Nat) : Int) := by
    show ((n : Int).fdiv ((16 : Nat) : Int)).fmod ((16 : Nat) : Int) = _
    rw [fdiv_nat, fmod_nat]; rfl
  have e2 : figOf (n : Int) 256 = ((g2 n : Nat) : Int) := by
    show ((n : Int).fdiv ((256 : Nat) : Int)).fmod ((16 : Nat) : Int) = _
    rw [fdiv_nat, fmod_nat]; rfl
  have e3 : figOf (n : Int) 4096 = ((g3 n : Nat) : Int) := by
    show ((n : Int).fdiv ((4096 : Nat) : Int)).fmod ((16 : Nat) : Int) = _
    rw [fdiv_nat, fmod_nat]; rfl
  have l1 : g1 n < 16 := by unfold g1; omega
  have l2 : g2 n < 16 := by unfold g2; omega
  have l3 : g3 n < 16 := by unfold g3; omega
  have m2 : ∀ g : Nat, ((g : Nat) : Int).fmod 2 = ((g % 2 : Nat) : Int) := fun g => fmod_nat g 2
  have d2 : ∀ g : Nat, ((g : Nat) : Int).fdiv 2 = ((g / 2 : Nat) : Int) := fun g => fdiv_nat g 2
  have d4 : ∀ g : Nat, ((g : Nat) : Int).fdiv 4 = ((g / 4 : Nat) : Int) := fun g => fdiv_nat g 4
  have m16 : (n : Int).fmod 16 = ((n % 16 : Nat) : Int) := fmod_nat n 16
  unfold rowOf
  rw [e1, e2, e3, m16, m2, m2, m2, d2, d2, d2, d4, d4, d4, m2, m2, m2]
  rw [it_k _ (by omega), it_r _ (by omega), it_r _ (by omega), it_r _ (by omega), it_w _ (by omega), it_w _ (by omega), it_w _ (by omega), it_x _ (by omega), it_x _ (by omega), it_t _ (by omega)]
  rfl
theorem in_sx (v : Nat) (h : v < 4) : inS "sS" ⟨#[xS v]⟩ = decide (2 ≤ v) := by
  have key : ∀ v : Fin 4, inS "sS" ⟨#[xS v.1]⟩ = decide (2 ≤ v.1) := by decide +kernel
  exact key ⟨v, h⟩
theorem in_tt (v : Nat) (h : v < 4) : inS "tT" ⟨#[tS v]⟩ = decide (2 ≤ v) := by
  have key : ∀ v : Fin 4, inS "tT" ⟨#[tS v.1]⟩ = decide (2 ≤ v.1) := by decide +kernel
  exact key ⟨v, h⟩
theorem in_xs (v : Nat) (h : v < 4) : inS "xs" ⟨#[xS v]⟩ = decide (v % 2 = 1) := by
  have key : ∀ v : Fin 4, inS "xs" ⟨#[xS v.1]⟩ = decide (v.1 % 2 = 1) := by decide +kernel
  exact key ⟨v, h⟩
theorem in_xt (v : Nat) (h : v < 4) : inS "xt" ⟨#[tS v]⟩ = decide (v % 2 = 1) := by
  have key : ∀ v : Fin 4, inS "xt" ⟨#[tS v.1]⟩ = decide (v.1 % 2 = 1) := by decide +kernel
  exact key ⟨v, h⟩
theorem is_r (v : Nat) (h : v < 2) : ((⟨#[rS v]⟩ : Str) == Str.ofString "r") = decide (v = 1) := by
  have key : ∀ v : Fin 2, ((⟨#[rS v.1]⟩ : Str) == Str.ofString "r") = decide (v.1 = 1) := by decide +kernel
  exact key ⟨v, h⟩
theorem is_w (v : Nat) (h : v < 2) : ((⟨#[wS v]⟩ : Str) == Str.ofString "w") = decide (v = 1) := by
  have key : ∀ v : Fin 2, ((⟨#[wS v.1]⟩ : Str) == Str.ofString "w") = decide (v.1 = 1) := by decide +kernel
  exact key ⟨v, h⟩
theorem if_ge (k v : Nat) (hv : v < 4) : (if decide (2 ≤ v) = true then (k : Int) else 0) = ((k * (v / 2) : Nat) : Int) := by
  by_cases h : 2 ≤ v
  · have : v / 2 = 1 := by omega
    rw [this, decide_eq_true h, if_pos rfl, Nat.mul_one]
  · have : v / 2 = 0 := by omega
    rw [this, decide_eq_false h, if_neg Bool.false_ne_true, Nat.mul_zero]; rfl
theorem if_odd (k v : Nat) : (if decide (v % 2 = 1) = true then (k : Int) else 0) = ((k * (v % 2) : Nat) : Int) := by
  by_cases h : v % 2 = 1
  · rw [h, decide_eq_true rfl, if_pos rfl, Nat.mul_one]
  · have : v % 2 = 0 := by omega
    rw [decide_eq_false h, if_neg Bool.false_ne_true, this, Nat.mul_zero]; rfl
theorem if_one (k v : Nat) (hv : v < 2) : (if decide (v = 1) = true then (k : Int) else 0) = ((k * v : Nat) : Int) := by
  by_cases h : v = 1
  · subst h; rw [decide_eq_true rfl, if_pos rfl, Nat.mul_one]
  · have : v = 0 := by omega
    rw [decide_eq_false h, if_neg Bool.false_ne_true, this, Nat.mul_zero]; rfl
theorem sum4 {x y z u : Int} {a b c d : Nat} (h1 : x = (a : Int)) (h2 : y = (b : Int)) (h3 : z = (c : Int)) (h4 : u = (d : Int)) : x + y + z + u = ((a + b + c + d : Nat) : Int) := by subst h1 h2 h3 h4; rfl
theorem fourB_eq (n : Nat) : fourB (rowOf (n : Int)) = ((fB n : Nat) : Int) := by
  rw [row_eq]
  have l1 : g1 n < 16 := by unfold g1; omega
  have l2 : g2 n < 16 := by unfold g2; omega
  have l3 : g3 n < 16 := by unfold g3; omega
  have e : fourB ⟨rowA n⟩ = (if inS "sS" ⟨#[xS (g1 n / 4)]⟩ then 8 else 0) + (if inS "sS" ⟨#[xS (g2 n / 4)]⟩ then 4 else 0) + (if inS "tT" ⟨#[tS (g3 n / 4)]⟩ then 2 else 0) + (if ((⟨#[rS (g1 n % 2)]⟩ : Str) == Str.ofString "r") then 1 else 0) := rfl
  rw [e, in_sx _ (by omega), in_sx _ (by omega), in_tt _ (by omega), is_r _ (by omega)]
  have d8 : ∀ g : Nat, g / 4 / 2 = g / 8 := fun g => Nat.div_div_eq_div_mul g 4 2
  refine (sum4 (if_ge 8 _ (by omega)) (if_ge 4 _ (by omega)) (if_ge 2 _ (by omega)) (if_one 1 _ (by omega))).trans ?_
  rw [d8, d8, d8, Nat.one_mul]
  rfl
theorem fourC_eq (n : Nat) : fourC (rowOf (n : Int)) = ((fC n : Nat) : Int) := by
  rw [row_eq]
  have l1 : g1 n < 16 := by unfold g1; omega
  have l2 : g2 n < 16 := by unfold g2; omega
  have e : fourC ⟨rowA n⟩ = (if ((⟨#[wS (g1 n / 2 % 2)]⟩ : Str) == Str.ofString "w") then 8 else 0) + (if inS "xs" ⟨#[xS (g1 n / 4)]⟩ then 4 else 0) + (if ((⟨#[rS (g2 n % 2)]⟩ : Str) == Str.ofString "r") then 2 else 0) + (if ((⟨#[wS (g2 n / 2 % 2)]⟩ : Str) == Str.ofString "w") then 1 else 0) := rfl
  rw [e, in_xs _ (by omega), is_w _ (by omega), is_w _ (by omega), is_r _ (by omega)]
  refine (sum4 (if_one 8 _ (by omega)) (if_odd 4 _) (if_one 2 _ (by omega)) (if_one 1 _ (by omega))).trans ?_
  rw [Nat.one_mul]
  rfl
theorem fourD_eq (n : Nat) : fourD (rowOf (n : Int)) = ((fD n : Nat) : Int) := by
  rw [row_eq]
  have l2 : g2 n < 16 := by unfold g2; omega
  have l3 : g3 n < 16 := by unfold g3; omega
  have e : fourD ⟨rowA n⟩ = (if inS "xs" ⟨#[xS (g2 n / 4)]⟩ then 8 else 0) + (if ((⟨#[rS (g3 n % 2)]⟩ : Str) == Str.ofString "r") then 4 else 0) + (if ((⟨#[wS (g3 n / 2 % 2)]⟩ : Str) == Str.ofString "w") then 2 else 0) + (if inS "xt" ⟨#[tS (g3 n / 4)]⟩ then 1 else 0) := rfl
  rw [e, in_xs _ (by omega), is_r _ (by omega), is_w _ (by omega), in_xt _ (by omega)]
  refine (sum4 (if_odd 8 _) (if_one 4 _ (by omega)) (if_one 2 _ (by omega)) (if_odd 1 _)).trans ?_
  rw [Nat.one_mul]
  rfl

/- filemode of the two octets is the row -/
def md (n : Nat) : Nat := 256 * oA n + oB n
theorem and_nat (a b : Nat) : Builtin.bitAnd (a : Int) (b : Int) = ((a &&& b : Nat) : Int) := by
  unfold Builtin.bitAnd
  have h1 : decide ((0 : Int) ≤ (a : Int)) = true := decide_eq_true (Int.natCast_nonneg a)
  have h2 : decide ((0 : Int) ≤ (b : Int)) = true := decide_eq_true (Int.natCast_nonneg b)
  rw [h1, h2]
  simp only [Int.toNat_natCast]
theorem bit_pow (m j : Nat) : (Builtin.bitAnd (m : Int) ((2 ^ j : Nat) : Int) == ((2 ^ j : Nat) : Int)) = decide (m / 2 ^ j % 2 = 1) := by
  rw [and_nat]
  have hb : ∀ j, m.testBit j = decide (m / 2 ^ j % 2 = 1) := fun j => by rw [Nat.testBit_eq_decide_div_mod_eq]
  rw [← hb]
  have key : (m &&& 2 ^ j = 2 ^ j) ↔ (m.testBit j = true) := by
    constructor
    · intro e
      have ej := congrArg (fun x => x.testBit j) e
      simp [Nat.testBit_and, Nat.testBit_two_pow_self] at ej
      exact ej
    · intro a
      apply Nat.eq_of_testBit_eq
      intro k
      rw [Nat.testBit_and, Nat.testBit_two_pow]
      by_cases h1 : j = k
      · subst h1; simp [a]
      · simp [h1]
  rw [Bool.eq_iff_iff, beq_iff_eq, ← key]
  omega
theorem bit_two (m i j : Nat) : (Builtin.bitAnd (m : Int) ((2 ^ j ||| 2 ^ i : Nat) : Int) == ((2 ^ j ||| 2 ^ i : Nat) : Int)) = (decide (m / 2 ^ j % 2 = 1) && decide (m / 2 ^ i % 2 = 1)) := by
  rw [and_nat]
  have hb : ∀ j, m.testBit j = decide (m / 2 ^ j % 2 = 1) := fun j => by rw [Nat.testBit_eq_decide_div_mod_eq]
  rw [← hb, ← hb]
  have key : (m &&& (2 ^ j ||| 2 ^ i) = 2 ^ j ||| 2 ^ i) ↔ (m.testBit j = true ∧ m.testBit i = true) := by
    constructor
    · intro e
      have ej := congrArg (fun x => x.testBit j) e
      have ei := congrArg (fun x => x.testBit i) e
      simp [Nat.testBit_and, Nat.testBit_or, Nat.testBit_two_pow_self] at ej ei
      exact ⟨ej, ei⟩
    · rintro ⟨a, b⟩
      apply Nat.eq_of_testBit_eq
      intro k
      rw [Nat.testBit_and, Nat.testBit_or, Nat.testBit_two_pow, Nat.testBit_two_pow]
      by_cases h1 : j = k
      · subst h1; simp [a]
      · by_cases h2 : i = k
        · subst h2; simp [b]
        · simp [h1, h2]
  rw [Bool.eq_iff_iff, Bool.and_eq_true, beq_iff_eq, ← key]
  omega
theorem and_kind (n : Nat) : Builtin.bitAnd ((md n : Nat) : Int) 61440 = ((4096 * (n % 16) : Nat) : Int) := by
  show Builtin.bitAnd ((md n : Nat) : Int) ((61440 : Nat) : Int) = _
  rw [and_nat]
  congr 1
  have e : md n = 4096 * (n % 16) + (256 * fB n + oB n) := by unfold md oA; omega
  have hr : 256 * fB n + oB n < 4096 := by have := fB_lt n; have := oB_lt n; omega
  have hk : n % 16 < 16 := by omega
  rw [e]
  generalize n % 16 = k at hk
  generalize 256 * fB n + oB n = r at hr
  apply Nat.eq_of_testBit_eq
  intro j
  have e2 : 4096 * k + r = 2 ^ 12 * k + r := rfl
  have e3 : 4096 * k = 2 ^ 12 * k := rfl
  have e4 : (61440 : Nat) = 2 ^ 12 * 15 := rfl
  rw [e2, e3, e4, Nat.testBit_and, Nat.testBit_two_pow_mul_add k hr, Nat.testBit_two_pow_mul, Nat.testBit_two_pow_mul]
  by_cases hj : j < 12
  · have : ¬ (12 ≤ j) := by omega
    simp [hj, this]
  · have h12 : 12 ≤ j := by omega
    simp only [hj, if_false, h12, decide_true, Bool.true_and]
    have key : ∀ k : Fin 16, ∀ q, (k.1.testBit q && (15 : Nat).testBit q) = k.1.testBit q := by
      intro k q
      by_cases hq : q < 4
      · have : ∀ k : Fin 16, ∀ q : Fin 4, (k.1.testBit q.1 && (15 : Nat).testBit q.1) = k.1.testBit q.1 := by decide +kernel
        exact this k ⟨q, hq⟩
      · have : k.1.testBit q = false := Nat.testBit_lt_two_pow (Nat.lt_of_lt_of_le k.2 (by show 2 ^ 4 ≤ 2 ^ q; exact Nat.pow_le_pow_right (by decide) (by omega)))
        rw [this]; rfl
    exact key ⟨k, hk⟩ _
theorem sign0 (n : Nat) : fmSign ((md n : Nat) : Int) 0 = kS (n % 16) := by
  unfold fmSign
  rw [if_pos rfl, and_kind]
  have key : ∀ k : Fin 16, (((fmRow 0).find? fun p => ((4096 * k.1 : Nat) : Int) == p.1).map (·.2)).getD 63 = kS k.1 := by decide +kernel
  exact key ⟨n % 16, by omega⟩
theorem sign_one {m i j c : Nat} (hi : i ≠ 0) (hr : fmRow i = [(((2 ^ j : Nat) : Int), c)]) : fmSign ((m : Nat) : Int) i = if m / 2 ^ j % 2 = 1 then c else 45 := by
  unfold fmSign
  rw [if_neg hi, hr]
  have e := bit_pow m j
  by_cases h : m / 2 ^ j % 2 = 1
  · rw [decide_eq_true h] at e
    rw [List.find?_cons_of_pos (by exact e), if_pos h]; rfl
  · rw [decide_eq_false h] at e
    rw [List.find?_cons_of_neg (by rw [e]; exact Bool.false_ne_true), if_neg h]; rfl
theorem sign_three {m i a b c d e : Nat} (hi : i ≠ 0) (hr : fmRow i = [(((2 ^ b ||| 2 ^ a : Nat) : Int), c), (((2 ^ b : Nat) : Int), d), (((2 ^ a : Nat) : Int), e)]) :
    fmSign ((m : Nat) : Int) i = if m / 2 ^ b % 2 = 1 then (if m / 2 ^ a % 2 = 1 then c else d) else (if m / 2 ^ a % 2 = 1 then e else 45) := by
  unfold fmSign
  rw [if_neg hi, hr]
  have q1 := bit_two m a b
  have q2 := bit_pow m b
  have q3 := bit_pow m a
  by_cases h1 : m / 2 ^ b % 2 = 1
  · rw [decide_eq_true h1] at q1 q2
    rw [if_pos h1]
    by_cases h2 : m / 2 ^ a % 2 = 1
    · rw [decide_eq_true h2] at q1
      rw [List.find?_cons_of_pos (by exact q1), if_pos h2]; rfl
    · rw [decide_eq_false h2] at q1
      rw [List.find?_cons_of_neg (by rw [q1]; exact Bool.false_ne_true), List.find?_cons_of_pos (by exact q2), if_neg h2]; rfl
  · rw [decide_eq_false h1] at q1 q2
    rw [if_neg h1, List.find?_cons_of_neg (by rw [q1]; exact Bool.false_ne_true), List.find?_cons_of_neg (by rw [q2]; exact Bool.false_ne_true)]
    by_cases h2 : m / 2 ^ a % 2 = 1
    · rw [decide_eq_true h2] at q3
      rw [List.find?_cons_of_pos (by exact q3), if_pos h2]; rfl
    · rw [decide_eq_false h2] at q3
      rw [List.find?_cons_of_neg (by rw [q3]; exact Bool.false_ne_true), if_neg h2]; rfl
theorem rS_if (v : Nat) (h : v < 2) : (if v = 1 then 114 else 45) = rS v := by
  have key : ∀ v : Fin 2, (if v.1 = 1 then 114 else 45) = rS v.1 := by decide +kernel
  exact key ⟨v, h⟩
theorem wS_if (v : Nat) (h : v < 2) : (if v = 1 then 119 else 45) = wS v := by
  have key : ∀ v : Fin 2, (if v.1 = 1 then 119 else 45) = wS v.1 := by decide +kernel
  exact key ⟨v, h⟩
theorem xS_if (v : Nat) (h : v < 4) : (if v / 2 = 1 then (if v % 2 = 1 then 115 else 83) else (if v % 2 = 1 then 120 else 45)) = xS v := by
  have key : ∀ v : Fin 4, (if v.1 / 2 = 1 then (if v.1 % 2 = 1 then 115 else 83) else (if v.1 % 2 = 1 then 120 else 45)) = xS v.1 := by decide +kernel
  exact key ⟨v, h⟩
theorem tS_if (v : Nat) (h : v < 4) : (if v / 2 = 1 then (if v % 2 = 1 then 116 else 84) else (if v % 2 = 1 then 120 else 45)) = tS v := by
  have key : ∀ v : Fin 4, (if v.1 / 2 = 1 then (if v.1 % 2 = 1 then 116 else 84) else (if v.1 % 2 = 1 then 120 else 45)) = tS v.1 := by decide +kernel
  exact key ⟨v, h⟩
theorem four_bits (a b c d : Nat) (ha : a < 2) (hb : b < 2) (hc : c < 2) (hd : d < 2) : (8 * a + 4 * b + 2 * c + d) / 8 % 2 = a ∧ (8 * a + 4 * b + 2 * c + d) / 4 % 2 = b ∧ (8 * a + 4 * b + 2 * c + d) / 2 % 2 = c ∧ (8 * a + 4 * b + 2 * c + d) % 2 = d := by
  have key : ∀ a b c d : Fin 2, (8 * a.1 + 4 * b.1 + 2 * c.1 + d.1) / 8 % 2 = a.1 ∧ (8 * a.1 + 4 * b.1 + 2 * c.1 + d.1) / 4 % 2 = b.1 ∧ (8 * a.1 + 4 * b.1 + 2 * c.1 + d.1) / 2 % 2 = c.1 ∧ (8 * a.1 + 4 * b.1 + 2 * c.1 + d.1) % 2 = d.1 := by decide +kernel
  exact key ⟨a, ha⟩ ⟨b, hb⟩ ⟨c, hc⟩ ⟨d, hd⟩
theorem fig_div (g : Nat) (h : g < 16) : g / 8 < 2 ∧ g / 4 % 2 < 2 ∧ g / 2 % 2 < 2 ∧ g % 2 < 2 := by omega
theorem md_bits (n : Nat) : md n / 2 ^ 11 % 2 = g1 n / 8 ∧ md n / 2 ^ 10 % 2 = g2 n / 8 ∧ md n / 2 ^ 9 % 2 = g3 n / 8 ∧ md n / 2 ^ 8 % 2 = g1 n % 2 ∧ md n / 2 ^ 7 % 2 = g1 n / 2 % 2 ∧ md n / 2 ^ 6 % 2 = g1 n / 4 % 2 ∧ md n / 2 ^ 5 % 2 = g2 n % 2 ∧ md n / 2 ^ 4 % 2 = g2 n / 2 % 2 ∧ md n / 2 ^ 3 % 2 = g2 n / 4 % 2 ∧ md n / 2 ^ 2 % 2 = g3 n % 2 ∧ md n / 2 ^ 1 % 2 = g3 n / 2 % 2 ∧ md n / 2 ^ 0 % 2 = g3 n / 4 % 2 := by
  have l1 : g1 n < 16 := by unfold g1; omega
  have l2 : g2 n < 16 := by unfold g2; omega
  have l3 : g3 n < 16 := by unfold g3; omega
  have q1 := fig_div _ l1
  have q2 := fig_div _ l2
  have q3 := fig_div _ l3
  have hB := four_bits _ _ _ _ q1.1 q2.1 q3.1 q1.2.2.2
  have hC := four_bits _ _ _ _ q1.2.2.1 q1.2.1 q2.2.2.2 q2.2.2.1
  have hD := four_bits _ _ _ _ q2.2.1 q3.2.2.2 q3.2.2.1 q3.2.1
  have e : md n = 4096 * (n % 16) + 256 * fB n + 16 * fC n + fD n := by unfold md oA oB; omega
  have b1 := fB_lt n
  have b2 := fC_lt n
  have b3 := fD_lt n
  have eB : fB n = 8 * (g1 n / 8) + 4 * (g2 n / 8) + 2 * (g3 n / 8) + g1 n % 2 := rfl
  have eC : fC n = 8 * (g1 n / 2 % 2) + 4 * (g1 n / 4 % 2) + 2 * (g2 n % 2) + g2 n / 2 % 2 := rfl
  have eD : fD n = 8 * (g2 n / 4 % 2) + 4 * (g3 n % 2) + 2 * (g3 n / 2 % 2) + g3 n / 4 % 2 := rfl
  rw [← eB] at hB
  rw [← eC] at hC
  rw [← eD] at hD
  rw [e]
  generalize n % 16 = A at *
  generalize fB n = B at *
  generalize fC n = C at *
  generalize fD n = D at *
  clear eB eC eD e q1 q2 q3 l1 l2 l3
  obtain ⟨c1, c2, c3, c4⟩ := hB
  obtain ⟨d1, d2, d3, d4⟩ := hC
  obtain ⟨f1, f2, f3, f4⟩ := hD
  rw [← c1, ← c2, ← c3, ← c4, ← d1, ← d2, ← d3, ← d4, ← f1, ← f2, ← f3, ← f4]
  clear c1 c2 c3 c4 d1 d2 d3 d4 f1 f2 f3 f4
  refine ⟨?_, ?_, ?_, ?_, ?_, ?_, ?_, ?_, ?_, ?_, ?_, ?_⟩ <;> omega
theorem mode_row (n : Nat) : (⟨((List.range 10).map (fmSign ((md n : Nat) : Int))).toArray⟩ : Str) = rowOf (n : Int) := by
  rw [row_eq]
  have l1 : g1 n < 16 := by unfold g1; omega
  have l2 : g2 n < 16 := by unfold g2; omega
  have l3 : g3 n < 16 := by unfold g3; omega
  have s0 := sign0 n
  obtain ⟨b11, b10, b9, b8, b7, b6, b5, b4, b3, b2, b1, b0⟩ := md_bits n
  have s1 : fmSign ((md n : Nat) : Int) 1 = rS (g1 n % 2) := by
    rw [sign_one (j := 8) (c := 114) (by decide) rfl, b8]
    exact rS_if _ (by omega)
  have s2 : fmSign ((md n : Nat) : Int) 2 = wS (g1 n / 2 % 2) := by
    rw [sign_one (j := 7) (c := 119) (by decide) rfl, b7]
    exact wS_if _ (by omega)
  have s3 : fmSign ((md n : Nat) : Int) 3 = xS (g1 n / 4) := by
    rw [sign_three (a := 6) (b := 11) (c := 115) (d := 83) (e := 120) (by decide) rfl, b6, b11, ← xS_if _ (by omega), Nat.div_div_eq_div_mul]
  have s4 : fmSign ((md n : Nat) : Int) 4 = rS (g2 n % 2) := by
    rw [sign_one (j := 5) (c := 114) (by decide) rfl, b5]
    exact rS_if _ (by omega)
  have s5 : fmSign ((md n : Nat) : Int) 5 = wS (g2 n / 2 % 2) := by
    rw [sign_one (j := 4) (c := 119) (by decide) rfl, b4]
    exact wS_if _ (by omega)
  have s6 : fmSign ((md n : Nat) : Int) 6 = xS (g2 n / 4) := by
    rw [sign_three (a := 3) (b := 10) (c := 115) (d := 83) (e := 120) (by decide) rfl, b3, b10, ← xS_if _ (by omega), Nat.div_div_eq_div_mul]
  have s7 : fmSign ((md n : Nat) : Int) 7 = rS (g3 n % 2) := by
    rw [sign_one (j := 2) (c := 114) (by decide) rfl, b2]
    exact rS_if _ (by omega)
  have s8 : fmSign ((md n : Nat) : Int) 8 = wS (g3 n / 2 % 2) := by
    rw [sign_one (j := 1) (c := 119) (by decide) rfl, b1]
    exact wS_if _ (by omega)
  have s9 : fmSign ((md n : Nat) : Int) 9 = tS (g3 n / 4) := by
    rw [sign_three (a := 0) (b := 9) (c := 116) (d := 84) (e := 120) (by decide) rfl, b0, b9, ← tS_if _ (by omega), Nat.div_div_eq_div_mul]
  unfold rowA
  rw [← s0, ← s1, ← s2, ← s3, ← s4, ← s5, ← s6, ← s7, ← s8, ← s9]
  rfl
theorem md_lt (n : Nat) : md n < 65536 := by have := oA_lt n; have := oB_lt n; unfold md; omega
end Mine188
end
section
open PySem PySem.W PySem.Spec PySem.Calls PyProof.Rows
set_option maxRecDepth 100000
set_option maxHeartbeats 4000000
namespace Mine188
/-- the end of a comprehension's turn -/
def CEnd (R : Value → Prop) (h₀ : Heap) (L : Addr) (m : Str → Option Value) (news : List (Addr × Obj)) (s : Shared) (y : Value) (s₂ : Shared) : Prop := R y ∧ ∃ h' tk', s₂ = { s with heap := h', toks := tk' } ∧ Fr h₀ L h' m ∧ News h₀ L h' news
theorem CEnd.intro {R : Value → Prop} {h₀ h' : Heap} {L : Addr} {m : Str → Option Value} {news : List (Addr × Obj)} {s : Shared} {y : Value} {tk' : Nat} (r : R y) (F : Fr h₀ L h' m) (N : News h₀ L h' news) : CEnd R h₀ L m news s y { s with heap := h', toks := tk' } := ⟨r, h', tk', rfl, F, N⟩
section
variable {prog : Program} {w : World} {A : Around} {E : Value → Shared → Prop} {s : Shared} {h₀ : Heap} {L : Addr} {m : Str → Option Value} {env : Env}
/-- the turns of a comprehension whose element leaves the ledger as it is, told by R -/
theorem rest_gen {elt : PySem.Expr} {x : Str} {scope : Scope} {cl : List (Str × Addr)} {S : List (Addr × Obj) → Prop} {P : Nat → Value → Prop} {Fin : List Value → List (Addr × Obj) → Prop} {n : Nat} {news : List (Addr × Obj)} (R : Nat → Value → Prop) (hS : S news)
    (turn : ∀ i v I oI C oC D m₂ ys h tk (E' : Value → Shared → Prop), i < n → P i v → LCg.NsObj oC m₂ → m₂ x = some v → Fr h₀ L h m → News h₀ L h ((I, oI) :: (C, oC) :: (D, LCg.lst ys) :: news) → LCg.Off3 I C D news →
      wpAny (model prog w) A (eval elt (compEnvC scope cl C env)) (CEnd (R i) h₀ L m ((I, oI) :: (C, oC) :: (D, LCg.lst ys) :: news) s) E' { s with heap := h, toks := tk })
    (fin : ∀ ys, ys.length = n → (∀ i v, ys[i]? = some v → R i v) → Fin ys news) : LCg.CompRest prog w A h₀ L m env elt x scope cl s S P Fin n 0 [] news := by
  have key : ∀ (j i : Nat) (ys : List Value), i + j = n → ys.length = i → (∀ k v, ys[k]? = some v → R k v) → LCg.CompRest prog w A h₀ L m env elt x scope cl s S P Fin j i ys news := by
    intro j
    induction j with
    | zero => exact fun i ys hi hl hy => LCg.CompRest.zero (fin ys (by omega) hy)
    | succ j ih =>
      intro i ys hi hl hy
      refine LCg.CompRest.succ ?_
      intro v I oI C oC D m₂ h tk E' hv hC hx F N off _
      refine wpAny_mono (turn i v I oI C oC D m₂ ys h tk E' (by omega) hv hC hx F N off) (fun y s₂ hq => ?_) fun _ _ e => e
      obtain ⟨hR, h', tk', e, F', N'⟩ := hq
      refine ⟨h', tk', news, e, F', N', off, hS, ih (i + 1) _ (by omega) (by rw [List.length_append, hl]; rfl) ?_⟩
      intro k z hk
      by_cases hki : k < ys.length
      · rw [List.getElem?_append_left hki] at hk
        exact hy k z hk
      · rw [List.getElem?_append_right (by omega)] at hk
        have hk0 : k - ys.length = 0 := by
          apply Decidable.byContradiction
          intro hne
          rw [List.getElem?_eq_none (by simp; omega)] at hk
          cases hk
        rw [hk0] at hk
        cases hk
        have : k = i := by omega
        rw [this]; exact hR
  exact key n 0 [] (by omega) rfl (fun k v hk => by cases hk)

theorem ListComp_str {elt iter : PySem.Expr} {x : Str} {px : Pos} {scope : Scope} {cl : List (Str × Addr)} {pos : Pos} {Q : Value → Shared → Prop} {y : Str} {t : Tok} {news : List (Addr × Obj)} (R : Nat → Value → Prop)
    (hh : A.handled = none) (hclos : closureFor scope env = pure cl) (hcell : ∀ z ∈ scope.names, z.2 ≠ .cell) (hkind : scope.kind = .function)
    (hnames : ∀ z ∈ scope.names, z.2 = .local → scope.names.lookup z.1 = some .local) (hx : scope.names.lookup x = some .local)
    (hi : ∀ Q' : Value → Shared → Prop, Q' (.str y t) s → wpAny (model prog w) A (eval iter env) Q' E s) (hsz : y.cps.size ≤ sizeLine)
    (F : Fr h₀ L s.heap m) (N : News h₀ L s.heap news)
    (turn : ∀ i c u I oI C oC D m₂ ys h tk (E' : Value → Shared → Prop), y.cps[i]? = some c → LCg.NsObj oC m₂ → m₂ x = some (.str ⟨#[c]⟩ u) → Fr h₀ L h m → News h₀ L h ((I, oI) :: (C, oC) :: (D, LCg.lst ys) :: news) → LCg.Off3 I C D news →
      wpAny (model prog w) A (eval elt (compEnvC scope cl C env)) (CEnd (R i) h₀ L m ((I, oI) :: (C, oC) :: (D, LCg.lst ys) :: news) s) E' { s with heap := h, toks := tk })
    (fin : ∀ D h tk ys, Fr h₀ L h m → News h₀ L h ((D, LCg.lst ys) :: news) → LCg.Off1 D news → ys.length = y.cps.size → (∀ i v, ys[i]? = some v → R i v) → Q (.ref D) { s with heap := h, toks := tk })
    (hs : ∀ x, foldedSetIterable iter env x = pure x := by intro _; rfl) :
    wpAny (model prog w) A (eval (.ListComp elt [⟨.Name x px, iter, [], 0⟩] scope pos) env) Q E s := by
  rw [eval_ListComp]
  refine wpAny_comprehension_free (use := none) rfl hs hclos hkind hnames (hi _ ?_)
  have go : ∀ (ty : String), (Walks prog w A s.heap.objs.size [s.heap.objs.size] [s.heap.objs.size] y.cps.size (SignAt y) (fun i h => h.IsStrIter s.heap.objs.size ty y t i)) →
      ∀ (Fin' : List Value → List (Addr × Obj) → Prop) (RR : Value → Addr → Result → Shared → Prop), (∀ ys, ys.length = y.cps.size → (∀ i v, ys[i]? = some v → R i v) → Fin' ys news) →
      (∀ D C h tk m' ys news', Fr h₀ L h m → News h₀ L h ((D, LCg.lst ys) :: news') → LCg.Off1 D news' → h.Ns C m' → h₀.get? C = none → h₀.get? D = none → C ≠ L → D ≠ L → C ≠ D → (∀ p ∈ news', p.1 ≠ C) → Fin' ys news' → RR (.ref D) C (.ok .next) { s with heap := h, toks := tk }) →
      wpAny (model prog w) A (newList []) (fun acc s₃ => wpAny (model prog w) A (newFunctionEnv scope env.globals cl [] env.qual none .none (some env)) (fun cenv s₄ =>
        codeAny (model prog w) A (.compStart (.ListComp elt [⟨.Name x px, iter, [], 0⟩] scope pos) 0 (.ref s.heap.objs.size) acc { cenv with scope := relabel scope env }) (RR acc cenv.locals) s₄) E s₃) E { s with heap := s.heap.push { cls := .type ty, data := .fields #[.str y t, .int 0 0] } } := by
    intro ty W Fin' RR hfin hRR
    have up : ∀ b o, s.heap.get? b = some o → (s.heap.push { cls := .type ty, data := .fields #[.str y t, .int 0 0] }).get? b = some o := fun b o e => Heap.get?_push_of_some _ e
    refine LCg.block_U (s₂ := { s with heap := s.heap.push { cls := .type ty, data := .fields #[.str y t, .int 0 0] } }) (S := fun _ => True) (Fin := Fin') W hsz (fun i h st => by obtain ⟨o, e, _⟩ := st; exact ⟨o, e⟩)
      (fun i h h' o nw st e e' _ _ _ => by obtain ⟨o', q, r⟩ := st; rw [e] at q; cases q; exact ⟨o, e', r⟩) hcell hkind hx ⟨_, Heap.get?_push_size _ rfl, rfl, rfl⟩ (fun b hb => ?_)
      (F.keeps up) (N.grown up) (Nat.ne_of_lt F.ns.lt) (next_is_new F) (fun p hp => Nat.ne_of_lt (Heap.lt_size (N p hp).1)) trivial ?_ hRR
    · rw [List.mem_singleton.mp hb]
      show s.heap.objs.size < (s.heap.push _).objs.size
      rw [Heap.size_push]; exact Nat.lt_succ_self _
    · refine rest_gen R trivial ?_ hfin
      intro i v I oI C oC D m₂ ys h tk E' _ hv hC hx' F' N' off
      obtain ⟨c, u, hc, rfl⟩ := hv
      exact turn i c u I oI C oC D m₂ ys h tk E' hc hC hx' F' N' off
  have fn : ∀ ys, ys.length = y.cps.size → (∀ i v, ys[i]? = some v → R i v) → LCg.FinE h₀ L m s Q ys news := fun ys hl hy D h tk F' N' o1 => fin D h tk ys F' N' o1 hl hy
  cases ha : y.cps.all (· < 128)
  · refine wpAny_pyIter_wide ha ?_
    refine go "str_iterator" (Walks.strWide hh _ y t) (LCg.FinE h₀ L m s Q) _ fn ?_
    intro D C h tk m' ys news' F' N' o1 hn hC₀ hD₀ hCL hDL hCD offC fin'
    refine ⟨m', hn, fun h'' hs'' => fin' D h'' tk (F'.change hs'' hCL hC₀) (fun p hp => ?_) o1⟩
    refine ⟨hs''.extBut _ _ ?_ (N' p hp).1, (N' p hp).2⟩
    rcases List.mem_cons.mp hp with rfl | hp
    · exact Ne.symm hCD
    · exact offC p hp
  · refine wpAny_pyIter_ascii ha ?_
    refine go "str_ascii_iterator" (Walks.strAscii hh _ y t) (LCg.FinE h₀ L m s Q) _ fn ?_
    intro D C h tk m' ys news' F' N' o1 hn hC₀ hD₀ hCL hDL hCD offC fin'
    refine ⟨m', hn, fun h'' hs'' => fin' D h'' tk (F'.change hs'' hCL hC₀) (fun p hp => ?_) o1⟩
    refine ⟨hs''.extBut _ _ ?_ (N' p hp).1, (N' p hp).2⟩
    rcases List.mem_cons.mp hp with rfl | hp
    · exact Ne.symm hCD
    · exact offC p hp
end
/-- a list told item by item -/
theorem strs_of : ∀ (ys : List Value) (g : Nat → Str), (∀ (i : Nat) (v : Value), ys[i]? = some v → ∃ t, v = Value.str (g i) t) → StrsAre ys ((List.range ys.length).map g)
  | [], _, _ => .nil
  | y :: r, g, h => by
    obtain ⟨t, rfl⟩ := h 0 y rfl
    rw [List.length_cons, List.range_succ_eq_map, List.map_cons, List.map_map]
    exact .cons _ _ (strs_of r (g ∘ Nat.succ) fun i v hv => h (i + 1) v hv)
theorem ints_of : ∀ (ys : List Value) (g : Nat → Int), (∀ (i : Nat) (v : Value), ys[i]? = some v → ∃ t, v = Value.int (g i) t) → IntsAre ys ((List.range ys.length).map g)
  | [], _, _ => .nil
  | y :: r, g, h => by
    obtain ⟨t, rfl⟩ := h 0 y rfl
    rw [List.length_cons, List.range_succ_eq_map, List.map_cons, List.map_map]
    exact .cons _ _ (ints_of r (g ∘ Nat.succ) fun i v hv => h (i + 1) v hv)
end Mine188
end
section
open PySem PySem.W PySem.Spec PySem.Calls PyProof.Rows
set_option maxRecDepth 100000
set_option maxHeartbeats 4000000
namespace Mine188
def Halt (P : Prop) : Prop := P
theorem halt {P : Prop} (h : Halt P) : P := h
theorem unhalt {P : Prop} (h : P) : Halt P := h
theorem frGen {h₀ h : Heap} {L : Addr} {m : Str → Option Value} {G : Prop} (F : Fr h₀ L h m) (k : ∀ m', m' = m → Fr h₀ L h m' → G) : G := k m rfl F
section
variable {prog : Program} {w : World} {A : Around} {E : Value → Shared → Prop} {s : Shared} {env : Env} {h₀ : Heap} {x : Str} {body : List Stmt} {Q : Flow → Shared → Prop}
theorem rng_iter {r : Addr} {b : Int} {n : Nat} {t₀ u₀ v₀ : Tok} {m₀ : Str → Option Value} {news : List (Addr × Obj)} (J : Nat → (Str → Option Value) → List (Addr × Obj) → Prop)
    (hh : A.handled = none) (hr : IsRange s.heap r 0 b 1 t₀ u₀ v₀) (hb : b = (n : Int)) (hn : n ≤ 1000) (F : Fr h₀ env.locals s.heap m₀) (N : News h₀ env.locals s.heap news) (hj : J 0 m₀ news)
    (turn : ∀ i t m₁ nx h tk own, i < n → OwnOff own (nx.map (·.1)) → J i m₁ nx → Fr h₀ env.locals h (fun y => if y = x then some (.int (i : Nat) t) else m₁ y) → News h₀ env.locals h (nx ++ own) →
      wpAny (model prog w) A (execs body env) (InvPostG h₀ env.locals (J (i + 1)) own { s with heap := h, toks := tk } Q) E { s with heap := h, toks := tk })
    (done : ∀ m₁ nx h tk, J n m₁ nx → Fr h₀ env.locals h m₁ → News h₀ env.locals h nx → Q .next { s with heap := h, toks := tk }) :
    wpAny (model prog w) A (pyIter (.ref r)) (fun it s₂ => LoopAtV prog w A h₀ env x body Q E it s₂) E s := by
  subst hb
  have hsmall : Builtin.Range.small 0 (n : Int) 1 = true := small_one (by omega) (by omega) (by omega) (by omega)
  have hsz : Builtin.Range.rangeSize 0 (n : Int) 1 = (n : Int) := by rw [rangeSize_nat]; omega
  refine wpAny_pyIter_range hr hsmall ?_
  have W : Walks prog w A s.heap.objs.size [s.heap.objs.size] [s.heap.objs.size] n (fun i v => i < n ∧ ∃ t, v = .int (0 + i * 1) t)
      (fun i h => IsRangeIter h s.heap.objs.size (0 + (i : Nat) * 1) ((n : Int) - (i : Nat)) 1) := (Walks.range hh _ 0 1 n).bound
  refine kdr_loop J W (fun _ h => h) (fun _ h => h) ?_ ?_ ?_ ?_ (by show IsRangeIter _ _ _ _ _; rw [hsz]; simpa using Heap.get?_push_size _ rfl) (F.push _) (fun p hp => ⟨Heap.get?_push_of_some _ (N p hp).1, (N p hp).2⟩) hj ?_ ?_
  · intro i h hi b hb
    rw [List.mem_singleton.mp hb]
    exact ⟨_, hi⟩
  · intro hm
    exact absurd F.ns.lt ((List.mem_singleton.mp hm) ▸ Nat.lt_irrefl _)
  · intro b hb
    rw [List.mem_singleton.mp hb]
    exact next_is_new F
  · intro p hp hI
    exact absurd (Heap.lt_size (N p hp).1) ((List.mem_singleton.mp hI) ▸ Nat.lt_irrefl _)
  · rintro i v m₁ nx h tk own hi ⟨_, t, rfl⟩ hoff hJ F₁ N₁
    have e1 : (0 : Int) + (i : Int) * 1 = (i : Int) := by omega
    rw [e1] at F₁
    exact turn i t m₁ nx h tk own hi hoff hJ F₁ N₁
  · exact done
end
end Mine188
end
section
open PySem PySem.W PySem.Spec PySem.Calls PyProof.Rows
set_option maxRecDepth 100000
set_option maxHeartbeats 4000000
namespace Mine188
def nums (ns : List Int) : List Int := 17912 :: (ns.take 12).map fun a => (a * 40503).fmod 65536
theorem nums_nat (ns : List Int) : ∃ ks : List Nat, nums ns = ks.map (fun (k : Nat) => (k : Int)) ∧ ks ≠ [] ∧ ks.length ≤ 13 ∧ ∀ k ∈ ks, k < 65536 := by
  refine ⟨(nums ns).map Int.toNat, ?_, ?_, ?_, ?_⟩
  · rw [List.map_map]
    have : ∀ x ∈ nums ns, (fun (k : Nat) => (k : Int)) (Int.toNat x) = x := by
      intro x hx
      have h0 : 0 ≤ x := by
        rcases List.mem_cons.mp hx with rfl | hx
        · decide
        · obtain ⟨a, _, rfl⟩ := List.mem_map.mp hx
          exact Int.fmod_nonneg_of_pos _ (by decide)
      exact Int.toNat_of_nonneg h0
    have e : (nums ns).map ((fun (k : Nat) => (k : Int)) ∘ Int.toNat) = (nums ns).map id := List.map_congr_left this
    rw [e, List.map_id]
  · simp [nums]
  · simp [nums]; omega
  · intro k hk
    obtain ⟨x, hx, rfl⟩ := List.mem_map.mp hk
    have h1 : x < 65536 := by
      rcases List.mem_cons.mp hx with rfl | hx
      · decide
      · obtain ⟨a, _, rfl⟩ := List.mem_map.mp hx
        exact Int.fmod_lt_of_pos _ (by decide)
    omega
abbrev FIG : Str := Str.ofString "0123456789ABCDEF"
def m1 (u : Str → Option Value) (l : Addr) : Str → Option Value := fun z => if z = Str.ofString "script" then some (.ref l) else u z
theorem m1_of {m : Str → Option Value} {l : Addr} (h1 : m (Str.ofString "script") = some (.ref l)) : m = m1 m l := by
  funext z
  unfold m1
  by_cases a1 : z = Str.ofString "script"
  · rw [if_pos a1, a1, h1]
  · rw [if_neg a1]
def m2 (u : Str → Option Value) (tf : Tok) (N : Addr) : Str → Option Value := fun z => if z = Str.ofString "figures" then some (.str FIG tf) else if z = Str.ofString "numbers" then some (.ref N) else u z
theorem m2_of {m : Str → Option Value} {tf : Tok} {N : Addr} (h1 : m (Str.ofString "figures") = some (.str FIG tf)) (h2 : m (Str.ofString "numbers") = some (.ref N)) : m = m2 m tf N := by
  funext z
  unfold m2
  by_cases a1 : z = Str.ofString "figures"
  · rw [if_pos a1, a1, h1]
  · rw [if_neg a1]
    by_cases a2 : z = Str.ofString "numbers"
    · rw [if_pos a2, a2, h2]
    · rw [if_neg a2]
def m3 (u : Str → Option Value) (tf : Tok) (N R : Addr) : Str → Option Value := fun z => if z = Str.ofString "rows" then some (.ref R) else if z = Str.ofString "figures" then some (.str FIG tf) else if z = Str.ofString "numbers" then some (.ref N) else u z
/-- the law's names at its first loop -/
def m4 (u : Str → Option Value) (tf tw tt : Tok) (N R S : Addr) (wo te : Str) : Str → Option Value := fun z =>
  if z = Str.ofString "word" then some (.str wo tw) else if z = Str.ofString "text" then some (.str te tt) else if z = Str.ofString "lines" then some (.ref S)
  else if z = Str.ofString "rows" then some (.ref R) else if z = Str.ofString "figures" then some (.str FIG tf) else if z = Str.ofString "numbers" then some (.ref N) else u z
theorem m4_of {m : Str → Option Value} {tf tw tt : Tok} {N R S : Addr} {wo te : Str} (h1 : m (Str.ofString "word") = some (.str wo tw)) (h2 : m (Str.ofString "text") = some (.str te tt)) (h3 : m (Str.ofString "lines") = some (.ref S))
    (h4 : m (Str.ofString "rows") = some (.ref R)) (h5 : m (Str.ofString "figures") = some (.str FIG tf)) (h6 : m (Str.ofString "numbers") = some (.ref N)) : m = m4 m tf tw tt N R S wo te := by
  funext z
  unfold m4
  by_cases a1 : z = Str.ofString "word"
  · rw [if_pos a1, a1, h1]
  · rw [if_neg a1]
    by_cases a2 : z = Str.ofString "text"
    · rw [if_pos a2, a2, h2]
    · rw [if_neg a2]
      by_cases a3 : z = Str.ofString "lines"
      · rw [if_pos a3, a3, h3]
      · rw [if_neg a3]
        by_cases a4 : z = Str.ofString "rows"
        · rw [if_pos a4, a4, h4]
        · rw [if_neg a4]
          by_cases a5 : z = Str.ofString "figures"
          · rw [if_pos a5, a5, h5]
          · rw [if_neg a5]
            by_cases a6 : z = Str.ofString "numbers"
            · rw [if_pos a6, a6, h6]
            · rw [if_neg a6]
theorem add_nums {prog : Program} {w : World} {A : Around} {E : Value → Shared → Prop} {s : Shared} {h₀ : Heap} {L : Addr} {m : Str → Option Value} {news : List (Addr × Obj)} {l b : Addr} {n : Int} {t : Tok} {ws : List Value} {ms : List Int} {Q : Value → Shared → Prop}
    (F : Fr h₀ L s.heap m) (N : News h₀ L s.heap news) (hl : s.heap.IsList l #[.int n t]) (hb : s.heap.IsList b ws.toArray) (hj : IntsAre ws ms) (hz : ms.length ≤ 100)
    (h : ∀ h' D vs, Fr h₀ L h' m → News h₀ L h' [(D, W.listOf (List.toArray vs) 0)] → IntsAre vs (n :: ms) → Q (.ref D) { s with heap := h' }) :
    wpAny (model prog w) A (binaryOp .Add (.ref l) (.ref b)) Q E s := by
  refine add_lists (vs := [.int n t]) F N hl hb (fun h' F' N' => ?_) (by
    rw [hj.length]
    have : (101 : Nat) ≤ sizeLine := by decide
    show 1 + _ ≤ _
    omega)
  exact h h' _ _ F' (fun p hp => N' p (by rw [List.mem_singleton.mp hp]; exact .head _)) (.cons _ _ hj)
theorem haltLoop {prog : Program} {w : World} {A : Around} {E : Value → Shared → Prop} {s : Shared} {env : Env} {h₀ : Heap} {x : Str} {body : List Stmt} {Q : Flow → Shared → Prop} {v : Value}
    (h : Halt (wpAny (model prog w) A (pyIter v) (fun it s₂ => LoopAtV prog w A h₀ env x body Q E it s₂) E s)) : wpAny (model prog w) A (pyIter v) (fun it s₂ => LoopAtV prog w A h₀ env x body Q E it s₂) E s := h
theorem row_len (n : Nat) : (rowOf (n : Int)).length = 10 := by rw [row_eq]; rfl
/-- _law_four at a row of the law's -/
theorem four_use {w : World} {E : Value → Shared → Prop} {s : Shared} {h₀ : Heap} {L : Addr} {m mg mb : Str → Option Value} {news : List (Addr × Obj)} {mean : ExcName → Option Value} {Q : Value → Shared → Prop} {dp un : Nat} {fr : Option (List Env)} {gd : Option (List Code)} {n : Nat} {t u : Tok}
    (X : (hd.heap_39 w.params).In h₀) (T : Top hd.view_39 looseN mean mg mb h₀) (F : Fr h₀ L s.heap m) (N : News h₀ L s.heap news) (hd : dp + 1 < recursionLimit) (hu : un + 20 * 1 < cLine)
    (h : ∀ lf a b c d t1 t2 t3 t4 h' tk', a < 16 → b < 16 → c < 16 → d < 16 → 16 * a + b = oA n → 16 * c + d = oB n → Fr h₀ L h' m → News h₀ L h' ((lf, W.listOf #[.int ((a : Nat) : Int) t1, .int ((b : Nat) : Int) t2, .int ((c : Nat) : Int) t3, .int ((d : Nat) : Int) t4] 0) :: news) → (∀ p ∈ news, p.1 ≠ lf) → Q (.ref lf) { s with heap := h', toks := tk' }) :
    wpAny (model PySem.Challenge.rw_ny0188_01.row.prog w) (Ar dp un fr gd) (call (.ref 162) [.int ((n : Int).fmod 16) t, .str (rowOf (n : Int)) u]) Q E s := by
  refine Ctr.use (four_ctr _ _ _ _ (row_len n)) X T F N trivial hd hu fun r h' tk' F' N' hk hP => ?_
  obtain ⟨l, t1, t2, t3, t4, rfl, hn, hg⟩ := hP
  rw [fourB_eq, fourC_eq, fourD_eq] at hg
  have hm : (n : Int).fmod 16 = ((n % 16 : Nat) : Int) := fmod_nat n 16
  rw [hm] at hg
  refine h l (n % 16) (fB n) (fC n) (fD n) t1 t2 t3 t4 h' tk' (by omega) (fB_lt n) (fC_lt n) (fD_lt n) rfl rfl F' (fun p hp => ?_) (fun p hp e => ?_)
  · rcases List.mem_cons.mp hp with rfl | hp
    · refine ⟨hg, fun e => ?_, ?_⟩
      · obtain ⟨o, _, _, ho, _⟩ := F.ns
        have e' : l = L := e
        rw [e', ho] at hn; cases hn
      · cases q : h₀.get? l with
        | none => rfl
        | some o => rw [F.keep l o q] at hn; cases hn
    · exact N' p hp
  · have := (N p hp).1
    rw [e, hn] at this; cases this
def lineS (p : Nat × Nat) : Str := ⟨(lineN p).toArray⟩
def pairsOf (ks : List Nat) : List (Nat × Nat) := ks.map fun k => (oA k, oB k)
def textAt (ks : List Nat) (i : Nat) : Str := ⟨(octs ((pairsOf ks).take i)).toArray⟩
def wordAt (ks : List Nat) (i : Nat) : Str := ⟨(hdrs (octs ((pairsOf ks).take i))).toArray⟩
/-- what holds behind i turns of the law's first loop -/
def LJ (ks : List Nat) (tf : Tok) (N R S : Addr) (oR oN : Obj) (i : Nat) (m : Str → Option Value) (nx : List (Addr × Obj)) : Prop :=
  ∃ lv ep tw tt, nx = [(S, W.listOf (List.toArray lv) ep), (R, oR), (N, oN)] ∧ StrsAre lv (((pairsOf ks).take i).map lineS) ∧ m = m4 m tf tw tt N R S (wordAt ks i) (textAt ks i)
theorem ints_get {vs : List Value} {ks : List Nat} (h : IntsAre vs (ks.map (fun (k : Nat) => (k : Int)))) {i k : Nat} (hk : ks[i]? = some k) : ∃ t, vs[i]? = some (.int (k : Int) t) := by
  have hl : vs.length = ks.length := by rw [h.length, List.length_map]
  have hi : i < vs.length := by rw [hl]; exact (List.getElem?_eq_some_iff.mp hk).1
  obtain ⟨n, t, e, hn⟩ := IntsAre.at h i _ (List.getElem?_eq_getElem hi)
  rw [List.getElem?_map, hk] at hn
  cases hn
  exact ⟨t, by rw [List.getElem?_eq_getElem hi, e]⟩
theorem rows_get {ys : List Value} {ks : List Nat} (h : StrsAre ys ((List.range ks.length).map fun i => rowOf ((ks.getD i 0 : Nat) : Int))) {i k : Nat} (hk : ks[i]? = some k) : ∃ t, ys[i]? = some (.str (rowOf (k : Int)) t) := by
  have hi : i < ks.length := (List.getElem?_eq_some_iff.mp hk).1
  have e : ((List.range ks.length).map fun i => rowOf ((ks.getD i 0 : Nat) : Int))[i]? = some (rowOf (k : Int)) := by
    rw [List.getElem?_map, List.getElem?_range hi]
    have : ks.getD i 0 = k := by rw [List.getD_eq_getElem?_getD, hk]; rfl
    simp only [Option.map_some, this]
  exact StrsAre.at h e
theorem item_fig (a : Nat) (h : a < 16) : Txt.item FIG ((a : Nat) : Int) = ⟨#[hx true a]⟩ := by
  have key : ∀ a : Fin 16, Txt.item FIG ((a.1 : Nat) : Int) = ⟨#[hx true a.1]⟩ := by decide +kernel
  exact key ⟨a, h⟩
theorem text_len (ks : List Nat) (i : Nat) (h : ks.length ≤ 13) : (textAt ks i).length ≤ 26 := by
  show (octs ((pairsOf ks).take i)).toArray.size ≤ _
  rw [List.size_toArray, octs_len, List.length_take, pairsOf, List.length_map]; omega
theorem word_len (ks : List Nat) (i : Nat) (h : ks.length ≤ 13) : (wordAt ks i).length ≤ 78 := by
  show (hdrs (octs ((pairsOf ks).take i))).toArray.size ≤ _
  rw [List.size_toArray]
  have := hdrs_len (octs ((pairsOf ks).take i))
  rw [octs_len, List.length_take, pairsOf, List.length_map] at this
  rw [pairsOf]; omega
end Mine188
end
section
open PySem PySem.W PySem.Spec PySem.Calls PyProof.Rows
set_option maxRecDepth 100000
set_option maxHeartbeats 4000000
namespace Mine188
/-- the law's names in its inner loop -/
def m5 (u : Str → Option Value) (tf tw tt tl : Tok) (N R S lf : Addr) (wo te li : Str) : Str → Option Value := fun z =>
  if z = Str.ofString "word" then some (.str wo tw) else if z = Str.ofString "text" then some (.str te tt) else if z = Str.ofString "line" then some (.str li tl) else if z = Str.ofString "four" then some (.ref lf) else if z = Str.ofString "lines" then some (.ref S)
  else if z = Str.ofString "rows" then some (.ref R) else if z = Str.ofString "figures" then some (.str FIG tf) else if z = Str.ofString "numbers" then some (.ref N) else u z
theorem m5_of {m : Str → Option Value} {tf tw tt tl : Tok} {N R S lf : Addr} {wo te li : Str} (h1 : m (Str.ofString "word") = some (.str wo tw)) (h2 : m (Str.ofString "text") = some (.str te tt)) (h3 : m (Str.ofString "lines") = some (.ref S))
    (h4 : m (Str.ofString "rows") = some (.ref R)) (h5 : m (Str.ofString "figures") = some (.str FIG tf)) (h6 : m (Str.ofString "numbers") = some (.ref N)) (h7 : m (Str.ofString "line") = some (.str li tl)) (h8 : m (Str.ofString "four") = some (.ref lf)) : m = m5 m tf tw tt tl N R S lf wo te li := by
  funext z
  unfold m5
  by_cases a1 : z = Str.ofString "word"
  · rw [if_pos a1, a1, h1]
  · rw [if_neg a1]
    by_cases a2 : z = Str.ofString "text"
    · rw [if_pos a2, a2, h2]
    · rw [if_neg a2]
      by_cases a7 : z = Str.ofString "line"
      · rw [if_pos a7, a7, h7]
      · rw [if_neg a7]
        by_cases a8 : z = Str.ofString "four"
        · rw [if_pos a8, a8, h8]
        · rw [if_neg a8]
          by_cases a3 : z = Str.ofString "lines"
          · rw [if_pos a3, a3, h3]
          · rw [if_neg a3]
            by_cases a4 : z = Str.ofString "rows"
            · rw [if_pos a4, a4, h4]
            · rw [if_neg a4]
              by_cases a5 : z = Str.ofString "figures"
              · rw [if_pos a5, a5, h5]
              · rw [if_neg a5]
                by_cases a6 : z = Str.ofString "numbers"
                · rw [if_pos a6, a6, h6]
                · rw [if_neg a6]
def escs (os : List Nat) : List Nat := os.flatMap fun o => (escOf o).cps.toList
def IJ (NX : List (Addr × Obj)) (os : List Nat) (tf : Tok) (N R S lf : Addr) (wo te : Str) (j : Nat) (m : Str → Option Value) (nx : List (Addr × Obj)) : Prop :=
  ∃ tw tt tl, nx = NX ∧ m = m5 m tf tw tt tl N R S lf (wo ++ ⟨(hdrs (os.take j)).toArray⟩) (te ++ ⟨(os.take j).toArray⟩) ⟨(escs (os.take j)).toArray⟩
def IfEnd (h₀ : Heap) (L : Addr) (m : Str → Option Value) (news : List (Addr × Obj)) (W : Str) (s : Shared) (fl : Flow) (s' : Shared) : Prop :=
  fl = Flow.next ∧ ∃ h' tk' t', s' = { s with heap := h', toks := tk' } ∧ Fr h₀ L h' (fun y => if y = Str.ofString "word" then some (.str W t') else m y) ∧ News h₀ L h' news
theorem if_cut {M : Model} {A : Around} {E : Value → Shared → Prop} {s : Shared} {c : Stmt} {env : Env} {h₀ : Heap} {L : Addr} {m : Str → Option Value} {news : List (Addr × Obj)} {Q : Flow → Shared → Prop} (F : Fr h₀ L s.heap m) (N : News h₀ L s.heap news) (W : Str)
    (hw : wpAny M A (exec c env) (IfEnd h₀ L m news W s) E s)
    (h : ∀ h' tk' t', Fr h₀ L h' (fun y => if y = Str.ofString "word" then some (.str W t') else m y) → News h₀ L h' news → Q .next { s with heap := h', toks := tk' }) : wpAny M A (exec c env) Q E s :=
  wpAny_mono hw (fun fl s' hq => by obtain ⟨rfl, h', tk', t', rfl, F', N'⟩ := hq; exact h h' tk' t' F' N') fun _ _ e => e
theorem IfEnd.intro {h₀ : Heap} {L : Addr} {m : Str → Option Value} {news : List (Addr × Obj)} {W x : Str} {s : Shared} {h' : Heap} {tk' : Nat} {t' : Tok} (F : Fr h₀ L h' (fun y => if y = Str.ofString "word" then some (.str x t') else m y)) (N : News h₀ L h' news) (hx : x = W) :
    IfEnd h₀ L m news W s .next { s with heap := h', toks := tk' } := ⟨rfl, h', tk', t', rfl, by rw [← hx]; exact F, N⟩
theorem hdr_a {o : Nat} {wo x : Str} (h : o = 32) (hx : x = Str.ofString "_") : wo ++ x = wo ++ hdrOf o := by
  subst h; subst hx
  have : Str.ofString "_" = hdrOf 32 := by decide +kernel
  rw [this]
theorem safe_iff (o : Nat) : isSafe o = true ↔ ((48 ≤ o ∧ o ≤ 57) ∨ (65 ≤ o ∧ o ≤ 90) ∨ (97 ≤ o ∧ o ≤ 122) ∨ o = 33 ∨ o = 42 ∨ o = 43 ∨ o = 45 ∨ o = 47) := by
  unfold isSafe
  simp only [Bool.or_eq_true, Bool.and_eq_true, decide_eq_true_eq, beq_iff_eq]
  omega
theorem hdr_b {o : Nat} {wo x : Str} (h : (48 ≤ o ∧ o ≤ 57) ∨ (65 ≤ o ∧ o ≤ 90) ∨ (97 ≤ o ∧ o ≤ 122) ∨ o = 33 ∨ o = 42 ∨ o = 43 ∨ o = 45 ∨ o = 47) (hx : x = ⟨#[o]⟩) : wo ++ x = wo ++ hdrOf o := by
  subst hx
  unfold hdrOf
  have h1 : (o == 32) = false := by rw [beq_eq_false_iff_ne]; omega
  rw [h1, if_neg Bool.false_ne_true, if_pos ((safe_iff o).mpr h)]
theorem hdr_c {o : Nat} {wo x : Str} (h0 : o ≠ 32) (h : ¬ ((48 ≤ o ∧ o ≤ 57) ∨ (65 ≤ o ∧ o ≤ 90) ∨ (97 ≤ o ∧ o ≤ 122) ∨ o = 33 ∨ o = 42 ∨ o = 43 ∨ o = 45 ∨ o = 47)) (hx : x = escOf o) : wo ++ x = wo ++ hdrOf o := by
  subst hx
  unfold hdrOf
  have h1 : (o == 32) = false := by rw [beq_eq_false_iff_ne]; exact h0
  rw [h1, if_neg Bool.false_ne_true, if_neg (fun e => h ((safe_iff o).mp e))]
theorem esc_eq {p q : Nat} (hp : p < 16) (hq : q < 16) : Str.ofString "=" ++ Txt.item FIG ((p : Nat) : Int) ++ Txt.item FIG ((q : Nat) : Int) = escOf (16 * p + q) := by
  rw [item_fig p hp, item_fig q hq]
  have e1 : (16 * p + q) / 16 = p := by omega
  have e2 : (16 * p + q) % 16 = q := by omega
  unfold escOf
  rw [e1, e2]
  have e3 : Str.ofString "=" = ⟨#[61]⟩ := by decide +kernel
  rw [e3]; rfl
theorem chr_eq {p q : Nat} : (⟨#[(16 * ((p : Nat) : Int) + ((q : Nat) : Int)).toNat]⟩ : Str) = ⟨#[16 * p + q]⟩ := by
  have : (16 * ((p : Nat) : Int) + ((q : Nat) : Int)).toNat = 16 * p + q := by omega
  rw [this]
/-- what a turn of the inner loop has at hand -/
theorem turn_facts {a b c d : Nat} {t0 t2 t1 t3 t4 t5 : Tok} {j : Nat} {v : Value} (ha : a < 16) (hb : b < 16) (hc : c < 16) (hd : d < 16) (hv : [Value.int 0 t0, Value.int 2 t2][j]? = some v) :
    ∃ (e : Int) (te : Tok) (p q : Nat) (tp tq : Tok), v = .int e te ∧ 0 ≤ e ∧ e ≤ 2 ∧ p < 16 ∧ q < 16 ∧ #[Value.int ((a : Nat) : Int) t1, .int ((b : Nat) : Int) t3, .int ((c : Nat) : Int) t4, .int ((d : Nat) : Int) t5][e.toNat]? = some (.int ((p : Nat) : Int) tp) ∧
      #[Value.int ((a : Nat) : Int) t1, .int ((b : Nat) : Int) t3, .int ((c : Nat) : Int) t4, .int ((d : Nat) : Int) t5][(e + 1).toNat]? = some (.int ((q : Nat) : Int) tq) ∧ [16 * a + b, 16 * c + d][j]? = some (16 * p + q) := by
  match j, hv with
  | 0, hv => cases hv; exact ⟨0, t0, a, b, t1, t3, rfl, by decide, by decide, ha, hb, rfl, rfl, rfl⟩
  | 1, hv => cases hv; exact ⟨2, t2, c, d, t4, t5, rfl, by decide, by decide, hc, hd, rfl, rfl, rfl⟩
  | j + 2, hv => cases hv
theorem take_snoc {os : List Nat} {j o : Nat} (h : os[j]? = some o) : os.take (j + 1) = os.take j ++ [o] := by rw [List.take_add_one, h]; rfl
theorem arr_app (x : Str) (a b : List Nat) : x ++ (⟨a.toArray⟩ : Str) ++ (⟨b.toArray⟩ : Str) = x ++ ⟨(a ++ b).toArray⟩ := by
  apply str_ext
  rw [app_toList, app_toList, app_toList]
  simp
theorem word_step {os : List Nat} {j o : Nat} {wo : Str} (h : os[j]? = some o) : wo ++ ⟨(hdrs (os.take j)).toArray⟩ ++ hdrOf o = wo ++ ⟨(hdrs (os.take (j + 1))).toArray⟩ := by
  rw [take_snoc h]
  have e : hdrs (os.take j ++ [o]) = hdrs (os.take j) ++ (hdrOf o).cps.toList := by simp [hdrs]
  rw [e, ← arr_app]
theorem text_step {os : List Nat} {j o : Nat} {te : Str} (h : os[j]? = some o) : te ++ ⟨(os.take j).toArray⟩ ++ ⟨#[o]⟩ = te ++ ⟨(os.take (j + 1)).toArray⟩ := by
  rw [take_snoc h]
  exact arr_app te _ [o]
theorem line_step {os : List Nat} {j o : Nat} (h : os[j]? = some o) : (⟨(escs (os.take j)).toArray⟩ : Str) ++ escOf o = ⟨(escs (os.take (j + 1))).toArray⟩ := by
  rw [take_snoc h]
  apply str_ext
  rw [app_toList]
  simp [escs]
theorem hdrs_take_len (a b : Nat) (j : Nat) : (⟨(hdrs ([a, b].take j)).toArray⟩ : Str).length ≤ 6 := by
  show (hdrs ([a, b].take j)).toArray.size ≤ 6
  rw [List.size_toArray]
  have h1 := hdrs_len ([a, b].take j)
  have h2 : ([a, b].take j).length ≤ 2 := by rw [List.length_take]; exact Nat.min_le_right _ _
  omega
theorem take_len2 (a b : Nat) (j : Nat) : (⟨([a, b].take j).toArray⟩ : Str).length ≤ 2 := by
  show (([a, b].take j)).toArray.size ≤ 2
  rw [List.size_toArray, List.length_take]; exact Nat.min_le_right _ _
theorem escs_len : ∀ (os : List Nat), (escs os).length = 3 * os.length
  | [] => rfl
  | o :: r => by show (escs r).length + 3 = _; rw [escs_len r, List.length_cons]; omega
theorem escs_take_len (a b : Nat) (j : Nat) : (⟨(escs ([a, b].take j)).toArray⟩ : Str).length ≤ 6 := by
  show (escs ([a, b].take j)).toArray.size ≤ 6
  rw [List.size_toArray, escs_len]
  have h2 : ([a, b].take j).length ≤ 2 := by rw [List.length_take]; exact Nat.min_le_right _ _
  omega
def wordT (ks : List Nat) : Str := ⟨(hdrs (octs (pairsOf ks))).toArray⟩
def textT (ks : List Nat) : Str := ⟨(octs (pairsOf ks)).toArray⟩
theorem any5 {z : Int} {b : Bool} (h : ([33, 42, 43, 45, 47].any fun x => x == z) = b) : (b = true → z = 33 ∨ z = 42 ∨ z = 43 ∨ z = 45 ∨ z = 47) ∧ (b = false → z ≠ 33 ∧ z ≠ 42 ∧ z ≠ 43 ∧ z ≠ 45 ∧ z ≠ 47) := by
  simp only [List.any_cons, List.any_nil, Bool.or_false] at h
  constructor
  · intro hb
    subst hb
    simp only [Bool.or_eq_true, beq_iff_eq] at h
    omega
  · intro hb
    subst hb
    simp only [Bool.or_eq_false_iff, beq_eq_false_iff_ne] at h
    omega
theorem pairs_get {ks : List Nat} {i k : Nat} (h : ks[i]? = some k) : (pairsOf ks)[i]? = some (oA k, oB k) := by unfold pairsOf; rw [List.getElem?_map, h]; rfl
theorem text_turn {ks : List Nat} {i k : Nat} (h : ks[i]? = some k) : textAt ks i ++ ⟨[oA k, oB k].toArray⟩ = textAt ks (i + 1) := by
  unfold textAt
  rw [octs_snoc (pairs_get h)]
  apply str_ext
  rw [app_toList]
theorem word_turn {ks : List Nat} {i k : Nat} (h : ks[i]? = some k) : wordAt ks i ++ ⟨(hdrs [oA k, oB k]).toArray⟩ = wordAt ks (i + 1) := by
  unfold wordAt
  rw [octs_snoc (pairs_get h)]
  have e : hdrs (octs ((pairsOf ks).take i) ++ [oA k, oB k]) = hdrs (octs ((pairsOf ks).take i)) ++ hdrs [oA k, oB k] := by unfold hdrs; rw [List.flatMap_append]
  rw [e]
  apply str_ext
  rw [app_toList]
theorem line_turn (k : Nat) : (⟨(escs [oA k, oB k]).toArray⟩ : Str) = lineS (oA k, oB k) := rfl
theorem lines_turn {ks : List Nat} {i k : Nat} {lv : List Value} {t : Tok} (h : ks[i]? = some k) (hl : StrsAre lv (((pairsOf ks).take i).map lineS)) : StrsAre (lv ++ [.str (lineS (oA k, oB k)) t]) (((pairsOf ks).take (i + 1)).map lineS) := by
  rw [List.take_add_one, pairs_get h, List.map_append]
  exact strsAre_append hl (.cons _ _ .nil)
end Mine188
end
section
open PySem PySem.W PySem.Spec PySem.Calls PyProof.Rows
set_option maxRecDepth 100000
set_option maxHeartbeats 4000000
namespace Mine188
theorem range_getD (l : List Nat) : (List.range l.toArray.size).map (fun i => ((l.getD i 0 : Nat) : Int)) = l.map (fun (o : Nat) => (o : Int)) := by
  apply List.ext_getElem?
  intro i
  rw [List.size_toArray, List.getElem?_map, List.getElem?_map]
  by_cases hi : i < l.length
  · rw [List.getElem?_range hi, List.getElem?_eq_getElem hi, Option.map_some, Option.map_some, List.getD_eq_getElem?_getD, List.getElem?_eq_getElem hi]; rfl
  · rw [List.getElem?_eq_none (by simp; omega), List.getElem?_eq_none (by omega)]; rfl
theorem range_getE (l : List Nat) : (List.range l.toArray.size).map (fun i => escOf (l.getD i 0)) = l.map escOf := by
  apply List.ext_getElem?
  intro i
  rw [List.size_toArray, List.getElem?_map, List.getElem?_map]
  by_cases hi : i < l.length
  · rw [List.getElem?_range hi, List.getElem?_eq_getElem hi, Option.map_some, Option.map_some, List.getD_eq_getElem?_getD, List.getElem?_eq_getElem hi]; rfl
  · rw [List.getElem?_eq_none (by simp; omega), List.getElem?_eq_none (by omega)]; rfl
theorem ite_ne9 {x y : Str} {P Q : Prop} (h : x = y) (q : Q) : if (x != y) = true then P else Q := by
  subst h
  have : (x != x) = false := by simp
  rw [this, if_neg Bool.false_ne_true]; exact q
def m6 (u : Str → Option Value) (tr : Tok) (te : Str) (R : Addr) : Str → Option Value := fun z => if z = Str.ofString "read" then some (.str te tr) else if z = Str.ofString "rows" then some (.ref R) else u z
theorem m6_of {m : Str → Option Value} {tr : Tok} {te : Str} {R : Addr} (h1 : m (Str.ofString "read") = some (.str te tr)) (h2 : m (Str.ofString "rows") = some (.ref R)) : m = m6 m tr te R := by
  funext z
  unfold m6
  by_cases a1 : z = Str.ofString "read"
  · rw [if_pos a1, a1, h1]
  · rw [if_neg a1]
    by_cases a2 : z = Str.ofString "rows"
    · rw [if_pos a2, a2, h2]
    · rw [if_neg a2]
theorem octs_lt (ks : List Nat) : ∀ o ∈ octs (pairsOf ks), o < 256 := by
  intro o ho
  unfold octs at ho
  obtain ⟨p, hp, ho⟩ := List.mem_flatMap.mp ho
  unfold pairsOf at hp
  obtain ⟨k, _, rfl⟩ := List.mem_map.mp hp
  rcases List.mem_cons.mp ho with rfl | ho
  · exact oA_lt k
  · rw [List.mem_singleton.mp ho]; exact oB_lt k
theorem octs_len2 (ks : List Nat) : (octs (pairsOf ks)).length = 2 * ks.length := by rw [octs_len]; unfold pairsOf; rw [List.length_map]
theorem octs_ne {ks : List Nat} (h : ks ≠ []) : octs (pairsOf ks) ≠ [] := fun e => by
  have := octs_len2 ks
  rw [e] at this
  have h2 : 0 < ks.length := List.length_pos_iff.mpr h
  simp at this
  omega
/-- header_encode at a list of octets -/
theorem henc_os (os : List Nat) (t : Tok) (h0 : os ≠ []) (hb : ∀ o ∈ os, o < 256) (hl : os.length ≤ 1000) : Ctr 1 121 [.bytes ((os.map (fun (o : Nat) => (o : Int))).map fun n => n.toNat.toUInt8).toArray t] (fun _ => True)
    (fun _ r _ => ∃ t, r = .str (Str.ofString "=?iso-8859-1?q?" ++ ⟨(hdrs os).toArray⟩ ++ Str.ofString "?=") t) := by
  have e0 : (os.map (fun (o : Nat) => (o : Int))).map (fun n => n.toNat.toUInt8) = os.map fun (o : Nat) => o.toUInt8 := by
    rw [List.map_map]; exact List.map_congr_left fun o _ => by simp
  rw [e0]
  have e1 : (os.map fun (o : Nat) => o.toUInt8).map (fun (c : UInt8) => c.toNat) = os := by
    rw [List.map_map]
    have : os.map ((fun (c : UInt8) => c.toNat) ∘ fun (o : Nat) => o.toUInt8) = os.map id := List.map_congr_left fun o ho => by
      show (o.toUInt8).toNat = o
      exact Nat.mod_eq_of_lt (hb o ho)
    rw [this, List.map_id]
  cases hc : os.map (fun (o : Nat) => o.toUInt8) with
  | nil => exact absurd (List.map_eq_nil_iff.mp hc) h0
  | cons c cs =>
    have h := henc_ctr c cs t (by rw [← hc, List.length_map]; exact hl)
    rw [← hc, e1] at h
    rw [← hc]
    exact h
theorem map_free (c d : Nat) : ∀ l : List Nat, c ∉ l → l.map (fun k => if k = c then d else k) = l
  | [], _ => rfl
  | k :: r, h => by
    have h1 : ¬ k = c := fun e => h (e ▸ List.mem_cons_self ..)
    rw [List.map_cons, if_neg h1, map_free c d r fun m => h (List.mem_cons_of_mem _ m)]
theorem map_join (c d : Nat) : ∀ parts : List Str, (∀ p ∈ parts, c ∉ p.cps.toList) → (Str.join ⟨#[c]⟩ parts).cps.toList.map (fun k => if k = c then d else k) = (Str.join ⟨#[d]⟩ parts).cps.toList
  | [], _ => rfl
  | [p], h => map_free c d _ (h p (List.mem_singleton.mpr rfl))
  | p :: q :: r, h => by
    have ih := map_join c d (q :: r) fun a ha => h a (List.mem_cons_of_mem _ ha)
    show ((p ++ ⟨#[c]⟩) ++ Str.join ⟨#[c]⟩ (q :: r)).cps.toList.map (fun k => if k = c then d else k) = ((p ++ ⟨#[d]⟩) ++ Str.join ⟨#[d]⟩ (q :: r)).cps.toList
    rw [app_toList, app_toList, app_toList, app_toList, List.map_append, List.map_append, ih, map_free c d _ (h p (List.mem_cons_self ..))]
    simp
/-- a sign put for a sign -/
theorem replace_map (x : Str) (c d : Nat) : (Txt.replace x ⟨#[c]⟩ ⟨#[d]⟩).cps.toList = x.cps.toList.map (fun k => if k = c then d else k) := by
  rw [StrLaws.replace_one, ← map_join c d _ (StrLaws.split_free x c), StrLaws.join_split]
theorem replace_us (x : Str) : Txt.replace x (Str.ofString "_") (Str.ofString " ") = ⟨(x.cps.toList.map (fun k => if k = 95 then 32 else k)).toArray⟩ := by
  have e1 : Str.ofString "_" = ⟨#[95]⟩ := by decide +kernel
  have e2 : Str.ofString " " = ⟨#[32]⟩ := by decide +kernel
  rw [e1, e2]
  apply str_ext
  rw [replace_map]
/-- an octet of the word as the reader takes it -/
def tkOf (o : Nat) : Tk := if o = 32 then .ch 32 else if isSafe o then .ch o else .esc (o / 16) (o % 16)
theorem tk_facts (o : Nat) (h : o < 256) : (tkOf o).ok ∧ (tkOf o).out = o ∧ (hdrOf o).cps.toList.map (fun k => if k = 95 then 32 else k) = (tkOf o).txt true := by
  have hhx : ∀ d : Fin 16, hx true d.1 ≠ 95 := by decide +kernel
  unfold tkOf
  by_cases h1 : o = 32
  · subst h1
    refine ⟨by rw [if_pos rfl]; show 32 ≠ 61; decide, rfl, by decide +kernel⟩
  · rw [if_neg h1]
    have h1' : (o == 32) = false := by rw [beq_eq_false_iff_ne]; exact h1
    cases hs : isSafe o
    · rw [if_neg Bool.false_ne_true]
      refine ⟨⟨by omega, by omega⟩, by show 16 * (o / 16) + o % 16 = o; omega, ?_⟩
      unfold hdrOf
      rw [h1', if_neg Bool.false_ne_true, hs, if_neg Bool.false_ne_true]
      show [61, hx true (o / 16), hx true (o % 16)].map (fun k => if k = 95 then 32 else k) = [61, hx true (o / 16), hx true (o % 16)]
      have q1 := hhx ⟨o / 16, by omega⟩
      have q2 := hhx ⟨o % 16, by omega⟩
      simp only [List.map_cons, List.map_nil]
      rw [if_neg (by decide), if_neg q1, if_neg q2]
    · rw [if_pos rfl]
      have hs' := (safe_iff o).mp hs
      refine ⟨by show o ≠ 61; omega, rfl, ?_⟩
      unfold hdrOf
      rw [h1', if_neg Bool.false_ne_true, hs, if_pos rfl]
      show [o].map (fun k => if k = 95 then 32 else k) = [o]
      simp only [List.map_cons, List.map_nil]
      rw [if_neg (by omega)]
theorem word_replace : ∀ (os : List Nat), (∀ o ∈ os, o < 256) → (hdrs os).map (fun k => if k = 95 then 32 else k) = txtOf true (os.map tkOf)
  | [], _ => rfl
  | o :: r, h => by
    show ((hdrOf o).cps.toList ++ hdrs r).map _ = (tkOf o).txt true ++ txtOf true (r.map tkOf)
    rw [List.map_append, (tk_facts o (h o (.head _))).2.2, word_replace r fun x hx => h x (.tail _ hx)]
theorem outs : ∀ (os : List Nat), (∀ o ∈ os, o < 256) → (os.map tkOf).map Tk.out = os
  | [], _ => rfl
  | o :: r, h => by
    show (tkOf o).out :: (r.map tkOf).map Tk.out = _
    rw [(tk_facts o (h o (.head _))).2.1, outs r fun x hx => h x (.tail _ hx)]
theorem txt_len (up : Bool) : ∀ ts : List Tk, (txtOf up ts).length ≤ 3 * ts.length
  | [] => Nat.le_refl _
  | t :: r => by
    have h1 := txt_len up r
    have h2 : (t.txt up).length ≤ 3 := by cases t <;> simp [Tk.txt]
    show ((t.txt up) ++ txtOf up r).length ≤ _
    rw [List.length_append, List.length_cons]; omega
/-- header_decode reads the octets from the word -/
theorem hdec_word (os : List Nat) (t : Tok) (hb : ∀ o ∈ os, o < 256) (hl : os.length ≤ 1000) : Ctr 5 148 [.str ⟨(hdrs os).toArray⟩ t] (fun _ => True) (fun _ r _ => ∃ t, r = .str ⟨os.toArray⟩ t) := by
  have h := hdec_ctr true (os.map tkOf) ⟨(hdrs os).toArray⟩ t (by
      show (hdrs os).toArray.size ≤ _
      rw [List.size_toArray]; have := hdrs_len os; omega) (fun y hy => by
      obtain ⟨o, ho, rfl⟩ := List.mem_map.mp hy
      exact (tk_facts o (hb o ho)).1) (by rw [replace_us]; rw [← word_replace os hb]) (by
      have := txt_len true (os.map tkOf)
      rw [List.length_map] at this
      omega)
  rw [outs os hb] at h
  exact h
/-- the escapes with small letters -/
def lows (os : List Nat) : List Nat := txtOf false (os.map fun o => Tk.esc (o / 16) (o % 16))
theorem hdec_low (os : List Nat) (t : Tok) (hb : ∀ o ∈ os, o < 256) (hl : os.length ≤ 1000) : Ctr 5 148 [.str ⟨(lows os).toArray⟩ t] (fun _ => True) (fun _ r _ => ∃ t, r = .str ⟨os.toArray⟩ t) := by
  have hlen := txt_len false (os.map fun o => Tk.esc (o / 16) (o % 16))
  rw [List.length_map] at hlen
  have hno : ∀ (os : List Nat), (∀ o ∈ os, o < 256) → 95 ∉ lows os := by
    intro os
    induction os with
    | nil => intro _ h; cases h
    | cons o r ih =>
      intro hb hm
      have hhx : ∀ d : Fin 16, hx false d.1 ≠ 95 := by decide +kernel
      have ho := hb o (.head _)
      have q1 := hhx ⟨o / 16, by omega⟩
      have q2 := hhx ⟨o % 16, by omega⟩
      have hm' : 95 ∈ [61, hx false (o / 16), hx false (o % 16)] ++ lows r := hm
      rcases List.mem_append.mp hm' with h1 | h1
      · simp only [List.mem_cons, List.not_mem_nil, or_false] at h1
        rcases h1 with h1 | h1 | h1
        · cases h1
        · exact q1 h1.symm
        · exact q2 h1.symm
      · exact ih (fun x hx => hb x (.tail _ hx)) h1
  have h := hdec_ctr false (os.map fun o => Tk.esc (o / 16) (o % 16)) ⟨(lows os).toArray⟩ t (by
      show (lows os).toArray.size ≤ _
      rw [List.size_toArray]; unfold lows; omega) (fun y hy => by
      obtain ⟨o, ho, rfl⟩ := List.mem_map.mp hy
      have := hb o ho
      exact ⟨by omega, by omega⟩) (by
      rw [replace_us]
      show (⟨((lows os).map _).toArray⟩ : Str) = _
      rw [map_free 95 32 _ (hno os hb)]
      rfl) (by omega)
  have e : (os.map fun o => Tk.esc (o / 16) (o % 16)).map Tk.out = os := by
    rw [List.map_map]
    have : os.map (Tk.out ∘ fun o => Tk.esc (o / 16) (o % 16)) = os.map id := List.map_congr_left fun o _ => by show 16 * (o / 16) + o % 16 = o; omega
    rw [this, List.map_id]
  rw [e] at h
  exact h
theorem escs_lines (ps : List (Nat × Nat)) : escs (octs ps) = ps.flatMap lineN := by
  induction ps with
  | nil => rfl
  | cons p r ih => show _ = lineN p ++ r.flatMap lineN; rw [← ih]; rfl
/-- the lines joined -/
theorem join_lines (ps : List (Nat × Nat)) : Txt.join (Str.ofString "") (ps.map lineS) = ⟨(escs (octs ps)).toArray⟩ := by
  apply str_ext
  rw [join_flat, escs_lines]
  show (ps.map lineS).flatMap (fun x => x.cps.toList) = ps.flatMap lineN
  rw [List.flatMap_map]
  rfl
theorem escs_low : ∀ (os : List Nat), (∀ o ∈ os, o < 256) → (escs os).map lo1 = lows os ∧ ∀ c ∈ escs os, c < 128
  | [], _ => ⟨rfl, fun c h => by cases h⟩
  | o :: r, h => by
    have ih := escs_low r fun x hx => h x (.tail _ hx)
    have ho := h o (.head _)
    have k1 : ∀ d : Fin 16, lo1 (hx true d.1) = hx false d.1 ∧ hx true d.1 < 128 := by decide +kernel
    have q1 := k1 ⟨o / 16, by omega⟩
    have q2 := k1 ⟨o % 16, by omega⟩
    constructor
    · show ([61, hx true (o / 16), hx true (o % 16)] ++ escs r).map lo1 = [61, hx false (o / 16), hx false (o % 16)] ++ lows r
      rw [List.map_append, ih.1]
      simp only [List.map_cons, List.map_nil]
      rw [q1.1, q2.1]
      rfl
    · intro c hc
      have hc' : c ∈ [61, hx true (o / 16), hx true (o % 16)] ++ escs r := hc
      rcases List.mem_append.mp hc' with h1 | h1
      · simp only [List.mem_cons, List.not_mem_nil, or_false] at h1
        rcases h1 with h1 | h1 | h1
        · rw [h1]; decide
        · rw [h1]; exact q1.2
        · rw [h1]; exact q2.2
      · exact ih.2 c h1
theorem lower_escs (os : List Nat) (hb : ∀ o ∈ os, o < 256) : Txt.lower ⟨(escs os).toArray⟩ = ⟨(lows os).toArray⟩ := by
  have h := escs_low os hb
  rw [lower_ascii (x := ⟨(escs os).toArray⟩) h.2, ← h.1]
  simp
/-- the escapes of quote joined -/
theorem join_quotes (os : List Nat) : Txt.join (Str.ofString "") (os.map escOf) = ⟨(escs os).toArray⟩ := by
  apply str_ext
  rw [join_flat, List.flatMap_map]
  rfl
/-- the lines with soft breaks between -/
theorem join_soft : ∀ (ps : List (Nat × Nat)), (Str.join (Str.ofString "=\n") (ps.map lineS)).cps.toList = joinNl (linesN ps)
  | [] => rfl
  | [p] => rfl
  | p :: q :: r => by
    have ih := join_soft (q :: r)
    show ((lineS p ++ Str.ofString "=\n") ++ Str.join (Str.ofString "=\n") (lineS q :: r.map lineS)).cps.toList = _
    have e1 : (Str.ofString "=\n").cps.toList = [61, 10] := by decide +kernel
    have ih' : (Str.join (Str.ofString "=\n") (lineS q :: r.map lineS)).cps.toList = joinNl (linesN (q :: r)) := ih
    rw [app_toList, app_toList, e1, ih']
    have e2 : linesN (p :: q :: r) = (lineN p ++ [61]) :: linesN (q :: r) := rfl
    rw [e2]
    cases hl : linesN (q :: r) with
    | nil => have := linesN_len (q :: r); rw [hl] at this; cases this
    | cons a b =>
      show lineN p ++ [61, 10] ++ joinNl (a :: b) = (lineN p ++ [61]) ++ 10 :: joinNl (a :: b)
      simp
def softT (ks : List Nat) : Str := Txt.join (Str.ofString "=\n") ((pairsOf ks).map lineS)
theorem soft_list (ks : List Nat) : (softT ks).cps.toList = joinNl (linesN (pairsOf ks)) := by
  show (Builtin.Str.glued (Str.ofString "=\n") ((pairsOf ks).map lineS)).cps.toList = _
  rw [StrLaws.glued_eq_join, join_soft]
theorem pair_lt {ks : List Nat} {p : Nat × Nat} (h : p ∈ pairsOf ks) : p.1 < 256 ∧ p.2 < 256 := by
  unfold pairsOf at h
  obtain ⟨k, _, rfl⟩ := List.mem_map.mp h
  exact ⟨oA_lt k, oB_lt k⟩
theorem line_ok : ∀ {ps : List (Nat × Nat)}, (∀ p ∈ ps, p.1 < 256 ∧ p.2 < 256) → ∀ l ∈ linesN ps, l ≠ [] ∧ ∀ c ∈ l, Unicode.isLineBreak c = false := by
  have hb : ∀ d : Fin 16, Unicode.isLineBreak (hx true d.1) = false := by decide +kernel
  have h61 : Unicode.isLineBreak 61 = false := by decide +kernel
  intro ps h l hl
  obtain ⟨i, hi, rfl⟩ := List.getElem_of_mem hl
  obtain ⟨p, hp, e⟩ := linesN_get ps i _ (List.getElem?_eq_getElem hi)
  have hp' := h p (List.mem_of_getElem? hp)
  rw [e]
  constructor
  · intro q
    have := congrArg List.length q
    simp [lineN] at this
  · intro c hc
    rcases List.mem_append.mp hc with h1 | h1
    · unfold lineN at h1
      simp only [List.mem_cons, List.not_mem_nil, or_false] at h1
      rcases h1 with h1 | h1 | h1 | h1 | h1 | h1
      · rw [h1]; exact h61
      · rw [h1]; exact hb ⟨p.1 / 16, by omega⟩
      · rw [h1]; exact hb ⟨p.1 % 16, by omega⟩
      · rw [h1]; exact h61
      · rw [h1]; exact hb ⟨p.2 / 16, by omega⟩
      · rw [h1]; exact hb ⟨p.2 % 16, by omega⟩
    · split at h1
      · cases h1
      · rw [List.mem_singleton.mp h1]; exact h61
theorem soft_len : ∀ (ps : List (Nat × Nat)), (joinNl (linesN ps)).length ≤ 8 * ps.length
  | [] => Nat.le_refl _
  | [p] => by show (lineN p).length ≤ 8; simp [lineN]
  | p :: q :: r => by
    have ih := soft_len (q :: r)
    have e2 : linesN (p :: q :: r) = (lineN p ++ [61]) :: linesN (q :: r) := rfl
    rw [e2]
    cases hl : linesN (q :: r) with
    | nil => have := linesN_len (q :: r); rw [hl] at this; cases this
    | cons a b =>
      rw [hl] at ih
      show ((lineN p ++ [61]) ++ 10 :: joinNl (a :: b)).length ≤ _
      simp only [List.length_append, List.length_cons, List.length_nil] at ih ⊢
      simp only [lineN, List.length_cons, List.length_nil]
      omega
theorem soft_last : ∀ (ps : List (Nat × Nat)), ps ≠ [] → ∃ a p, p ∈ ps ∧ joinNl (linesN ps) = a ++ [hx true (p.2 % 16)]
  | [], h => absurd rfl h
  | [p], _ => ⟨[61, hx true (p.1 / 16), hx true (p.1 % 16), 61, hx true (p.2 / 16)], p, .head _, rfl⟩
  | p :: q :: r, _ => by
    obtain ⟨a, p', hp, e⟩ := soft_last (q :: r) (by simp)
    have e2 : linesN (p :: q :: r) = (lineN p ++ [61]) :: linesN (q :: r) := rfl
    refine ⟨(lineN p ++ [61]) ++ 10 :: a, p', .tail _ hp, ?_⟩
    rw [e2]
    cases hl : linesN (q :: r) with
    | nil => have := linesN_len (q :: r); rw [hl] at this; cases this
    | cons b c =>
      rw [hl] at e
      show (lineN p ++ [61]) ++ 10 :: joinNl (b :: c) = _
      rw [e]
      simp
/-- decode reads the octets from the soft text -/
theorem dec_soft (ks : List Nat) (t : Tok) (h0 : ks ≠ []) (hl : ks.length ≤ 13) : Ctr 2 134 [.str (softT ks) t] (fun _ => True) (fun _ r _ => ∃ t, r = .str (textT ks) t) := by
  have hpl : (pairsOf ks).length = ks.length := by unfold pairsOf; rw [List.length_map]
  have hp0 : pairsOf ks ≠ [] := fun e => h0 (by unfold pairsOf at e; exact List.map_eq_nil_iff.mp e)
  obtain ⟨a, p, hp, e⟩ := soft_last (pairsOf ks) hp0
  have hxl : (softT ks).length = (joinNl (linesN (pairsOf ks))).length := by
    show (softT ks).cps.size = _
    rw [← Array.length_toList, soft_list]
  have hsl := soft_len (pairsOf ks)
  have hlen : (softT ks).length = a.length + 1 := by rw [hxl, e, List.length_append]; rfl
  refine dec_ctr (pairsOf ks) (softT ks) t hp0 (by omega) (fun p hp => pair_lt hp) (by omega) (by omega) ?_ ⟨p.2 % 16, by omega, ?_⟩
  · refine lines_join _ _ ?_ (line_ok fun p hp => pair_lt hp) (soft_list ks)
    intro q
    have := linesN_len (pairsOf ks)
    rw [q] at this
    exact hp0 (List.eq_nil_of_length_eq_zero this.symm)
  · have es : softT ks = ⟨a.toArray⟩ ++ ⟨#[hx true (p.2 % 16)]⟩ := by
      apply str_ext
      rw [app_toList, soft_list, e]
    rw [es]
    exact item_last_right1 _ _
theorem item_nat {x : Str} {i c : Nat} (h : x.cps[i]? = some c) : Txt.item x ((i : Nat) : Int) = ⟨#[c]⟩ := by
  have hi : i < x.cps.size := (Array.getElem?_eq_some_iff.mp h).1
  have e : Txt.charAt x ((i : Nat) : Int) = some c := by
    unfold Txt.charAt seqIndex?
    have h1 : ¬ ((i : Int) < 0) := by omega
    have h2 : (i : Int) < (x.length : Int) := by show (i : Int) < (x.cps.size : Int); omega
    simp [h1, h2, h]
  show (⟨#[(Txt.charAt x ((i : Nat) : Int)).getD 0]⟩ : Str) = _
  rw [e]; rfl
theorem octs_get : ∀ {ps : List (Nat × Nat)} {i : Nat} {p : Nat × Nat}, ps[i]? = some p → (octs ps)[2 * i]? = some p.1 ∧ (octs ps)[2 * i + 1]? = some p.2
  | [], i, p, h => by cases h
  | q :: r, 0, p, h => by cases h; exact ⟨rfl, rfl⟩
  | q :: r, i + 1, p, h => by
    have ih := octs_get (ps := r) (i := i) (p := p) h
    have e : octs (q :: r) = q.1 :: q.2 :: octs r := rfl
    rw [e, show 2 * (i + 1) = 2 * i + 1 + 1 by omega]
    exact ih
theorem text_items {ks : List Nat} {i k : Nat} (h : ks[i]? = some k) : Txt.item (textT ks) (2 * ((i : Nat) : Int)) = ⟨#[oA k]⟩ ∧ Txt.item (textT ks) (2 * ((i : Nat) : Int) + 1) = ⟨#[oB k]⟩ := by
  have h2 := octs_get (pairs_get h)
  have e1 : (2 * ((i : Nat) : Int)) = ((2 * i : Nat) : Int) := by omega
  have e2 : (2 * ((i : Nat) : Int) + 1) = ((2 * i + 1 : Nat) : Int) := by omega
  rw [e1]
  constructor
  · exact item_nat (by show (octs (pairsOf ks)).toArray[2 * i]? = _; rw [List.getElem?_toArray]; exact h2.1)
  · rw [← e1, e2]
    exact item_nat (by show (octs (pairsOf ks)).toArray[2 * i + 1]? = _; rw [List.getElem?_toArray]; exact h2.2)
theorem join_bound (ks : List Nat) (h : ks.length ≤ 13) : (((pairsOf ks).map lineS).map (·.length)).sum + ((pairsOf ks).map lineS).length * 64 ≤ 16777216 := by
  have key : ∀ ps : List (Nat × Nat), ((ps.map lineS).map (·.length)).sum = 6 * ps.length := by
    intro ps
    induction ps with
    | nil => rfl
    | cons p r ih =>
      rw [List.map_cons, List.map_cons, List.sum_cons, ih, List.length_cons]
      show 6 + _ = _
      omega
  rw [key, List.length_map]
  unfold pairsOf
  rw [List.length_map]
  omega
theorem escs_bound (ks : List Nat) (h : ks.length ≤ 13) : (⟨(escs (octs (pairsOf ks))).toArray⟩ : Str).length ≤ 78 := by
  show (escs (octs (pairsOf ks))).toArray.size ≤ _
  rw [List.size_toArray, escs_len, octs_len2]; omega
theorem quote_bound (ks : List Nat) (h : ks.length ≤ 13) : (((octs (pairsOf ks)).map escOf).map (·.length)).sum + ((octs (pairsOf ks)).map escOf).length * 64 ≤ 16777216 := by
  have key : ∀ os : List Nat, ((os.map escOf).map (·.length)).sum = 3 * os.length := by
    intro os
    induction os with
    | nil => rfl
    | cons p r ih =>
      rw [List.map_cons, List.map_cons, List.sum_cons, ih, List.length_cons]
      show 3 + _ = _
      omega
  rw [key, List.length_map, octs_len2]
  omega
/-- filemode at the two octets of a number -/
theorem fm_row (k : Nat) (t : Tok) : Ctr 3 78 [.int (256 * ((oA k : Nat) : Int) + ((oB k : Nat) : Int)) t] (fun _ => True) (fun _ r _ => ∃ t, r = .str (rowOf ((k : Nat) : Int)) t) := by
  have e : (256 * ((oA k : Nat) : Int) + ((oB k : Nat) : Int)) = ((md k : Nat) : Int) := by unfold md; omega
  have hl := md_lt k
  have h := fm_ctr ((md k : Nat) : Int) t (by omega) (by omega)
  rw [mode_row] at h
  rw [e]
  exact h
theorem textT_len (ks : List Nat) : (textT ks).length = 2 * ks.length := by
  show (octs (pairsOf ks)).toArray.size = _
  rw [List.size_toArray, octs_len2]
end Mine188
end
section
open PySem PySem.W PySem.Spec PySem.Calls PyProof.Rows
set_option maxRecDepth 100000
set_option maxHeartbeats 0
namespace Mine188
local macro_rules | `(tactic| walk_at "pyIter ref") => `(tactic| (with_reducible refine haltLoop ?_))
local macro_rules | `(tactic| walk_at "exec Assign cons ListComp") => `(tactic| (with_reducible refine halt ?_))
local macro_rules | `(tactic| walk_at "subscriptTail Name Name ref int") => `(tactic| (k_dflt (refine item_listK (News.isList (by k_asm) (by k_mem)) (by with_reducible assumption) (by with_reducible assumption) (by assumption) ?_ (by with_unfolding_all rfl))))
local macro_rules | `(tactic| walk_at "subscriptTail Name BinOp ref int") => `(tactic| (k_dflt (refine item_listK (News.isList (by k_asm) (by k_mem)) (by with_reducible assumption) (by with_reducible assumption) (by assumption) ?_ (by with_unfolding_all rfl))))
local macro_rules | `(tactic| walk_at "exec For Name List cons nil") => `(tactic| (k_here; (rename Fr _ _ _ _ => lF'); (with_unfolding_all refine' For_invVF lF' ?k1 ?k2 ?_; (case k1 => exact rfl); (case k2 => exact rfl); k_whole)))
def IfMark : Prop := True
local macro_rules | `(tactic| walk_at "exec If Compare cons cons") => `(tactic| ((fail_if_success (with_reducible rename IfMark => mk9)); with_reducible refine halt ?_))
local macro_rules | `(tactic| walk_at "call builtin:list.append") => `(tactic| (k_here; k_dflt (refine' append_K ?k1 ?k2 (Upd.head ?k3) ?_ ?z; (case k1 => k_asm); (case k2 => k_asm); (case k3 => with_reducible assumption); (case z => with_reducible assumption); k_whole); intro h' F' N'))
def DoneMark : Prop := True
local macro_rules | `(tactic| walk_at "eval ListComp") => `(tactic| ((with_reducible rename DoneMark => mk9); with_reducible refine halt ?_))
local macro_rules | `(tactic| walk_at "ite") => `(tactic| ((with_reducible rename DoneMark => mk9); k_dflt (refine ite_ne9 (by first | with_reducible assumption | with_unfolding_all rfl) ?_)))
theorem law_ctr (l : Addr) (vs : List Value) (ns : List Int) (hI : IntsAre vs ns) (hn : ns.length ≤ 63) : Ctr 10 167 [.ref l] (fun h => h.IsList l vs.toArray) (fun _ r _ => r = .bool true) := by
  unfold Ctr
  k_fill
  intro w mean mg mb dp un fr gd s Q E X T' hp hdp hu hret
  k_dflt (refine' enter1 ?k1 ?k2 ?k6 ?k7 ?k8 ?k9 ?kB ?_ ?c2 ?c3 ?c4 ?c5; (case k1 => exact X); (case k2 => exact T'); (case k6 => k_is); (case k7 => k_is); (case k8 => exact Nat.lt_of_le_of_lt (Nat.le_add_right _ _) hdp); (case k9 => exact BindsTo.of_eq rfl); (case c5 => decide); (case kB => exact locs rfl); (case c2 => exact rfl); (case c3 => exact rfl); (case c4 => exact rfl); k_whole; intro L' h' F' N'; (try dsimp only); (try k_fold))
  refine frGen F' fun m₀ hm₀ F0 => ?_
  have hsc : m₀ (Str.ofString "script") = some (.ref l) := by rw [hm₀]; rfl
  clear F' hm₀
  rw [m1_of hsc] at F0
  unfold m1 at F0
  k_steps
  rename Fr _ _ _ _ => F1
  rename News _ _ _ _ => N1
  rename (Heap.IsList _ _ _) => hl1
  rename CarriedAll _ _ => hc1
  have hi1 := CarriedAll.intsOf hc1
  rw [List.filter_eq_self.mpr (fun _ _ => rfl)] at hi1
  refine add_nums F1 N1 (News.isList N1 (.tail _ (.head _))) hl1 hi1 (by rw [List.length_map, List.length_take]; omega) fun h2 D2 vs2 F2 N2 hi2 => ?_
  clear F1 N1 hl1 hc1 hi1
  k_steps
  refine unhalt ?_
  rename Fr _ _ _ _ => F3
  rename News _ _ _ _ => N3
  refine frGen F3 fun m₂ hm₂ F4 => ?_
  obtain ⟨tf, hf⟩ : ∃ tf, m₂ (Str.ofString "figures") = some (.str FIG tf) := ⟨_, by rw [hm₂]; rfl⟩
  have hnu : m₂ (Str.ofString "numbers") = some (.ref D2) := by rw [hm₂]; rfl
  clear F3 hm₂
  rw [m2_of hf hnu] at F4
  unfold m2 at F4
  obtain ⟨ks, hks, hk0, hk13, hkb⟩ := nums_nat ns
  have hi3 : IntsAre vs2 (ks.map (fun (k : Nat) => (k : Int))) := hks ▸ hi2
  have hvl : vs2.length = ks.length := by rw [hi3.length, List.length_map]
  clear hi2
  refine LCg.Assign_ListComp_U (F₀ := F4) rfl (by with_unfolding_all rfl) (by with_unfolding_all rfl) (by decide) (by rfl) (by decide) (by rfl) (by rfl) (by rfl) ?_
  refine ld F4 rfl ?_
  refine LCg.CompSrc.ledger rfl F4 N3 (.head _) (by rw [List.size_toArray, hvl]; exact Nat.le_trans hk13 (by decide)) fun g => ?_
  refine rest_gen (fun i v => ∃ t, v = .str (rowOf ((ks.getD i 0 : Nat) : Int)) t) (.inr ⟨_, .head _, rfl, _, rfl⟩) ?_ ?_
  · intro i v I oI C oC D m₃ ys h tk E' hi hv hC hx F5 N5 off
    obtain ⟨k, t, e, hk⟩ := IntsAre.at hi3 i v (by simpa using hv)
    subst e
    rw [List.getElem?_map] at hk
    obtain ⟨k', hk1, rfl⟩ := Option.map_eq_some_iff.mp hk
    have hkk : ks.getD i 0 = k' := by rw [List.getD_eq_getElem?_getD, hk1]; rfl
    have hkl : ((k' : Nat) : Int) < 65536 := by have := hkb k' (List.mem_of_getElem? hk1); omega
    k_steps
    refine Ctr.useS (row_ctr _ _ (by omega) hkl) X T' F5 N5 trivial (by show dp + 1 + 1 < recursionLimit; omega) (by show un + 3 + 20 * 1 < cLine; omega) fun t9 h9 tk9 F9 N9 => ?_
    exact CEnd.intro ⟨t9, by rw [hkk]⟩ F9 N9
  · intro ys hl hy D3 h3 tk3 F5 N5 o1
    have hrw := strs_of ys _ hy
    rw [hl, List.size_toArray, hvl] at hrw
    have hrl : ys.length = ks.length := by rw [hl, List.size_toArray, hvl]
    have hne : D2 ≠ D3 := o1.1
    replace F5 : Fr s.heap L' h3 (m3 m₂ tf D2 D3) := F5
    clear hy hl F4 N3 o1 hf hnu hsc hks hI hn hp
    unfold m3 at F5
    dsimp only
    k_steps
    rename Fr _ _ _ _ => F6
    rename News _ _ _ _ => N6
    refine len_strsA (News.isList N6 (.tail _ (.head _))) hrw (by simp only [List.length_map, List.length_range]; omega) ?_
    k_steps
    refine unhalt ?_
    rename IsRange _ _ _ _ _ _ _ _ => hR7
    rename Fr _ _ _ _ => F7
    rename News _ _ _ _ => N7
    rename IntsAre vs2 _ => hi3
    have ew : wordAt ks 0 = Str.ofString "" := by unfold wordAt; rw [List.take_zero]; decide +kernel
    have et : textAt ks 0 = Str.ofString "" := by unfold textAt; rw [List.take_zero]; decide +kernel
    refine rng_iter (n := ks.length) (LJ ks tf D2 D3 _ (LCg.lst ys) (W.listOf vs2.toArray 0)) rfl hR7 (by rw [List.length_map, List.length_range]) (by omega) F7 N7 ⟨[], 0, _, _, rfl, .nil, m4_of (by rw [ew]; rfl) (by rw [et]; rfl) rfl rfl rfl rfl⟩ ?_ ?_
    · rintro i ti m₅ nx h5 tk5 own5 hi hoff ⟨lv, ep, tw, tt, rfl, hlv, hm5⟩ F8 N8
      rw [hm5] at F8
      clear hm5 F7 N7 hR7
      unfold m4 at F8
      rw [List.cons_append, List.cons_append, List.cons_append, List.nil_append] at N8
      obtain ⟨k, hk⟩ : ∃ k, ks[i]? = some k := ⟨_, List.getElem?_eq_getElem hi⟩
      obtain ⟨tk1, hIt1⟩ := ints_get hi3 hk
      obtain ⟨tk2, hIt2⟩ := rows_get hrw hk
      replace hIt1 : vs2.toArray[((i : Nat) : Int).toNat]? = some (.int (k : Int) tk1) := by rw [Int.toNat_natCast]; simpa using hIt1
      replace hIt2 : ys.toArray[((i : Nat) : Int).toNat]? = some (.str (rowOf (k : Int)) tk2) := by rw [Int.toNat_natCast]; simpa using hIt2
      have hwl := word_len ks i hk13
      have htl := text_len ks i hk13
      have hi63 : ((i : Nat) : Int) < 2 ^ 63 := by omega
      have hi00 : (0 : Int) ≤ ((i : Nat) : Int) := Int.natCast_nonneg i
      have hi13 : i < 13 := by omega
      replace F8 : Fr s.heap L' h5 _ := F8
      replace N8 : News s.heap L' h5 _ := N8
      clear hi3 hrw hrl hvl hkb hk0
      k_steps
      refine four_use X T' (by k_asm) (by k_asm) (by show dp + 1 + 1 < recursionLimit; omega) (by show un + 3 + 20 * 1 < cLine; omega) fun lf a b c d t1 t2 t3 t4 h9 tk9 ha hb hc hd hA hB F9 N9 hof9 => ?_
      clear hIt1 hIt2 hof9 hi13 hi63 hi00
      k_steps
      refine unhalt ?_
      rename Fr _ _ _ _ => F10
      rename News _ _ _ _ => N10
      refine kdl_iter (vs := [.int 0 _, .int 2 _]) (nn := 0) (IJ _ [16 * a + b, 16 * c + d] tf D2 D3 _ lf (wordAt ks i) (textAt ks i)) rfl (.head _) F10 N10 ⟨_, _, _, rfl, m5_of (by with_unfolding_all rfl) (by with_unfolding_all rfl) rfl rfl rfl rfl (by with_unfolding_all rfl) rfl⟩ ?_ ?_
      · rintro j v m₇ nx7 h7 tk7 own7 hv7 hoff7 _ ⟨tw7, tt7, tl7, rfl, hm7⟩ F11 N11
        obtain ⟨e, te, p, q, tp, tq, rfl, he0, he2, hp, hq, hI1, hI2, ho⟩ := turn_facts (t1 := t1) (t3 := t2) (t4 := t3) (t5 := t4) ha hb hc hd hv7
        rw [hm7] at F11
        unfold m5 at F11
        replace F11 : Fr s.heap L' h7 _ := F11
        replace N11 : News s.heap L' h7 _ := N11
        rw [List.cons_append, List.cons_append, List.cons_append, List.cons_append, List.cons_append] at N11
        have l1 := hdrs_take_len (16 * a + b) (16 * c + d) j
        have l2 := take_len2 (16 * a + b) (16 * c + d) j
        have l3 := escs_take_len (16 * a + b) (16 * c + d) j
        have he63 : e < 2 ^ 63 := by omega
        have he64 : e + 1 < 2 ^ 63 := by omega
        have he01 : 0 ≤ e + 1 := by omega
        clear hm7 F10 N10 hv7
        k_steps
        refine unhalt ?_
        rename Fr _ _ _ _ => F12
        rename News _ _ _ _ => N12
        rw [esc_eq hp hq] at F12
        have hel : (escOf (16 * p + q)).length = 3 := rfl
        refine if_cut F12 N12 (wordAt ks i ++ ⟨(hdrs ([16 * a + b, 16 * c + d].take j)).toArray⟩ ++ hdrOf (16 * p + q)) ?_ ?_
        · have hMk : IfMark := trivial
          k_steps
          all_goals (
            rename Fr _ _ _ _ => F15
            rename News _ _ _ _ => N15
            (try (rename ((List.any _ _) = true) => ha9; have hb9 := (any5 ha9).1 rfl))
            (try (rename ((List.any _ _) = false) => ha9; have hb9 := (any5 ha9).2 rfl))
            first | refine IfEnd.intro F15 N15 ?_ | refine IfEnd.intro F15 (fun p hp => N15 p (.tail _ hp)) ?_
            first | exact hdr_a (by omega) rfl | exact hdr_b (by omega) chr_eq | exact hdr_c (by omega) (by omega) rfl)
        · intro h13 tk13 tw13 F13 N13
          k_steps
          rename Fr _ _ _ _ => F14
          rename News _ _ _ _ => N14
          refine InvEndG.intro F14 N14 ⟨.head _, _, _, _, rfl, m5_of (by rw [← word_step ho]; rfl) (by rw [← text_step ho, ← chr_eq]; rfl) rfl rfl rfl rfl (by rw [← line_step ho]; rfl) rfl⟩ hoff7 (fun p hp => List.mem_append_left own7 hp) (fun p hp => List.mem_append_right (_ :: _ :: _ :: _ :: _ :: own5) hp)
      · rintro m₇ nx7 h7 tk7 ⟨tw7, tt7, tl7, rfl, hm7⟩ F11 N11
        rename (_ ∧ D2 < _) => hSl
        have hofS : ∀ p ∈ (D3, LCg.lst ys) :: (D2, W.listOf vs2.toArray 0) :: own5, p.1 ≠ _ := fun p hp => by
          rcases List.mem_cons.mp hp with rfl | hp
          · exact neN (Nat.ne_of_lt hSl.1)
          · rcases List.mem_cons.mp hp with rfl | hp
            · exact neN (Nat.ne_of_lt hSl.2)
            · exact hoff p hp _ (.head _)
        have hszS : lv.toArray.size ≤ sizeLine := by
          rw [List.size_toArray, StrsAre.length hlv, List.length_map, List.length_take, pairsOf, List.length_map]
          have : (13 : Nat) ≤ sizeLine := by decide
          omega
        have N16 : News s.heap L' h7 ((_, W.listOf lv.toArray ep) :: (D3, LCg.lst ys) :: (D2, W.listOf vs2.toArray 0) :: own5) := fun p hp => N11 p (.tail _ (.tail _ hp))
        rw [hm7] at F11
        unfold m5 at F11
        replace F11 : Fr s.heap L' h7 _ := F11
        clear N11 hm7 F10 N10
        dsimp only
        k_steps
        rename Fr _ _ _ _ => F17
        rename News _ _ _ _ => N17
        rw [list_push] at N17
        have hS' := lines_turn (t := tl7) hk hlv
        have hw' := word_turn hk
        have ht' := text_turn hk
        rw [← hA, ← hB] at hS' hw' ht'
        exact InvEndG.intro (nx := [_, _, _]) F17 N17 ⟨_, _, _, _, rfl, hS', m4_of (by rw [← hw']; rfl) (by rw [← ht']; rfl) rfl rfl rfl rfl⟩ hoff (fun p hp => List.mem_append_left own5 hp) (fun p hp => List.mem_append_right [_, _, _] hp)
    · rintro m₅ nx h5 tk5 ⟨lv, ep, tw, tt, rfl, hlv, hm5⟩ F8 N8
      have eW : wordAt ks ks.length = wordT ks := by unfold wordAt wordT; rw [List.take_of_length_le (by unfold pairsOf; rw [List.length_map]; exact Nat.le_refl _)]
      have eT : textAt ks ks.length = textT ks := by unfold textAt textT; rw [List.take_of_length_le (by unfold pairsOf; rw [List.length_map]; exact Nat.le_refl _)]
      have hwl := word_len ks ks.length hk13
      have htl := text_len ks ks.length hk13
      rw [List.take_of_length_le (by unfold pairsOf; rw [List.length_map]; exact Nat.le_refl _)] at hlv
      rw [hm5] at F8
      rw [eW, eT] at F8
      rw [eW] at hwl
      rw [eT] at htl
      unfold m4 at F8
      replace F8 : Fr s.heap L' h5 _ := F8
      replace N8 : News s.heap L' h5 _ := N8
      clear hm5 eW eT F7 N7 hR7 ew et
      have hDone : DoneMark := trivial
      dsimp only
      have hob := octs_lt ks
      have hol := octs_len2 ks
      have hone := octs_ne hk0
      k_steps
      refine unhalt ?_
      refine ListComp_str (R := fun i v => ∃ t, v = .int (((octs (pairsOf ks)).getD i 0 : Nat) : Int) t) rfl (by with_unfolding_all rfl) (by decide) (by rfl) (by decide) (by rfl) (fun Q' hq => ld F8 rfl hq) (Nat.le_trans htl (by decide)) F8 N8 ?_ ?_
      · intro i c u I oI C oC D m₃ zs h tk E' hc hC hx F9 N9 off
        have hcg : (octs (pairsOf ks)).getD i 0 = c := by
          have : (octs (pairsOf ks))[i]? = some c := by rw [← List.getElem?_toArray]; exact hc
          rw [List.getD_eq_getElem?_getD, this]; rfl
        have hc1 : (⟨#[c]⟩ : Str).length = 1 := rfl
        k_steps
        exact CEnd.intro ⟨_, by rw [hcg]; rfl⟩ F9 N9
      · intro D9 h9 tk9 zs F9 N9 o9 hzl hz
        have hzi := ints_of zs _ hz
        rw [hzl] at hzi
        have ezi : (List.range (textT ks).cps.size).map (fun i => (((octs (pairsOf ks)).getD i 0 : Nat) : Int)) = (octs (pairsOf ks)).map (fun (o : Nat) => (o : Int)) := range_getD _
        rw [ezi] at hzi
        clear F8 N8 hz
        have N9' : News s.heap L' h9 [(_, W.listOf lv.toArray ep), (D3, LCg.lst ys), (D2, W.listOf vs2.toArray 0)] := fun p hp => N9 p (.tail _ hp)
        k_steps
        refine bytes_K F9 N9' (News.isList N9 (.head _)) hzi (fun n hn => by
          obtain ⟨o, ho, rfl⟩ := List.mem_map.mp hn
          have := hob o ho
          omega) (by
          rw [hzl]
          exact Nat.le_trans htl (by decide)) rfl fun h10 t10 k10 F10 N10 _ => ?_
        clear F9 N9 N9' hzi ezi hzl o9
        k_steps
        refine Ctr.useS (henc_os (octs (pairsOf ks)) _ hone hob (by omega)) X T' F10 N10 trivial (by show dp + 1 + 1 < recursionLimit; omega) (by show un + 3 + 20 * 1 < cLine; omega) fun t11 h11 tk11 F11 N11 => ?_
        clear F10 N10
        k_steps
        refine Ctr.useS (hdec_word (octs (pairsOf ks)) _ hob (by omega)) X T' F11 N11 trivial (by show dp + 1 + 5 < recursionLimit; omega) (by show un + 3 + 20 * 5 < cLine; omega) fun t12 h12 tk12 F12 N12 => ?_
        clear F11 N11
        k_steps
        refine join_listC (News.isList N12 (.head _)) hlv (by decide) (join_bound ks hk13) fun t13 k13 => ?_
        rw [join_lines]
        have hel : (⟨(escs (octs (pairsOf ks))).toArray⟩ : Str).length ≤ 78 := escs_bound ks hk13
        k_steps
        rw [lower_escs _ hob]
        refine Ctr.useS (hdec_low (octs (pairsOf ks)) _ hob (by omega)) X T' F12 N12 trivial (by show dp + 1 + 5 < recursionLimit; omega) (by show un + 3 + 20 * 5 < cLine; omega) fun t14 h14 tk14 F14 N14 => ?_
        clear F12 N12
        k_steps
        refine unhalt ?_
        refine ListComp_str (R := fun i v => ∃ t, v = .str (escOf ((octs (pairsOf ks)).getD i 0)) t) rfl (by with_unfolding_all rfl) (by decide) (by rfl) (by decide) (by rfl) (fun Q' hq => ld F14 rfl hq) (Nat.le_trans htl (by decide)) F14 N14 ?_ ?_
        · intro i c u I oI C oC D m₃ zs h tk E' hc hC hx F15 N15 off
          have hcg : (octs (pairsOf ks))[i]? = some c := by rw [← List.getElem?_toArray]; exact hc
          have hcd : (octs (pairsOf ks)).getD i 0 = c := by rw [List.getD_eq_getElem?_getD, hcg]; rfl
          have hcl := hob c (List.mem_of_getElem? hcg)
          k_steps
          refine Ctr.useS (quote_ctr c _ hcl) X T' F15 N15 trivial (by show dp + 1 + 1 < recursionLimit; omega) (by show un + 3 + 20 * 1 < cLine; omega) fun t16 h16 tk16 F16 N16 => ?_
          exact CEnd.intro ⟨t16, by rw [hcd]⟩ F16 N16
        · intro D15 h15 tk15 zs F15 N15 o15 hzl hz
          have hzs := strs_of zs _ hz
          rw [hzl] at hzs
          have ezs : (List.range (textT ks).cps.size).map (fun i => escOf ((octs (pairsOf ks)).getD i 0)) = (octs (pairsOf ks)).map escOf := range_getE _
          rw [ezs] at hzs
          have N15' : News s.heap L' h15 [(_, W.listOf lv.toArray ep), (D3, LCg.lst ys), (D2, W.listOf vs2.toArray 0)] := fun p hp => N15 p (.tail _ hp)
          clear F14 N14 hz
          k_steps
          refine join_listC (News.isList N15 (.head _)) hzs (by decide) (quote_bound ks hk13) fun t16 k16 => ?_
          rw [join_quotes]
          clear hzs ezs hzl o15 N15
          k_steps
          refine join_listC (News.isList N15' (.head _)) hlv (by decide) (join_bound ks hk13) fun t17 k17 => ?_
          rw [join_lines]
          k_steps
          refine join_listC (News.isList N15' (.head _)) hlv (by decide) (join_bound ks hk13) fun t18 k18 => ?_
          k_steps
          refine Ctr.useS (dec_soft ks _ hk0 hk13) X T' F15 N15' trivial (by show dp + 1 + 2 < recursionLimit; omega) (by show un + 3 + 20 * 2 < cLine; omega) fun t19 h19 tk19 F19 N19 => ?_
          clear F15 N15'
          k_steps
          rename Fr _ _ _ _ => F20
          rename News _ _ _ _ => N20
          refine len_strsA (News.isList N20 (.tail _ (.head _))) hrw (by simp only [List.length_map, List.length_range]; omega) ?_
          k_steps
          refine unhalt ?_
          rename IsRange _ _ _ _ _ _ _ _ => hR21
          rename Fr _ _ _ _ => F21
          rename News _ _ _ _ => N21
          refine rng_iter (n := ks.length) (fun i m nx => nx = [(_, W.listOf lv.toArray ep), (D3, LCg.lst ys), (D2, W.listOf vs2.toArray 0)] ∧ ∃ tr, m = m6 m tr (textT ks) D3) rfl hR21 (by rw [List.length_map, List.length_range]) (by omega) F21 N21 ⟨rfl, _, m6_of rfl rfl⟩ ?_ ?_
          · rintro i ti m₅ nx h22 tk22 own22 hi hoff ⟨rfl, tr, hm⟩ F22 N22
            rw [hm] at F22
            unfold m6 at F22
            replace F22 : Fr s.heap L' h22 _ := F22
            replace N22 : News s.heap L' h22 _ := N22
            rw [List.cons_append, List.cons_append, List.cons_append, List.nil_append] at N22
            obtain ⟨k, hk⟩ : ∃ k, ks[i]? = some k := ⟨_, List.getElem?_eq_getElem hi⟩
            obtain ⟨tk2, hIt2⟩ := rows_get hrw hk
            replace hIt2 : ys.toArray[((i : Nat) : Int).toNat]? = some (.str (rowOf (k : Int)) tk2) := by rw [Int.toNat_natCast]; simpa using hIt2
            have hi63 : ((i : Nat) : Int) < 2 ^ 63 := by omega
            have hi00 : (0 : Int) ≤ ((i : Nat) : Int) := Int.natCast_nonneg i
            have htx := text_items hk
            have htn := textT_len ks
            have hoA := oA_lt k
            have hoB := oB_lt k
            clear hm F21 N21 hR21 hrw hlv hkb
            k_steps
            have e1 : (⟨#[oA k]⟩ : Str).cps.getD 0 0 = oA k := rfl
            have e2 : (⟨#[oB k]⟩ : Str).cps.getD 0 0 = oB k := rfl
            rw [htx.1, htx.2, e1, e2]
            refine Ctr.useS (fm_row k _) X T' F22 N22 trivial (by show dp + 1 + 3 < recursionLimit; omega) (by show un + 3 + 20 * 3 < cLine; omega) fun t23 h23 tk23 F23 N23 => ?_
            clear F22 N22
            k_steps
            refine InvEndG.intro (nx := [_, _, _]) F23 N23 ⟨rfl, _, m6_of rfl rfl⟩ hoff (fun p hp => List.mem_append_left own22 hp) (fun p hp => List.mem_append_right [_, _, _] hp)
          · rintro m₅ nx h22 tk22 ⟨rfl, tr, hm⟩ F22 N22
            dsimp only
            k_steps
            dsimp only
            exact hret _ _ _ F22.keep rfl
end Mine188
end
section
open PySem PySem.W PySem.Spec PySem.Calls PyProof.Rows
set_option maxRecDepth 100000
set_option maxHeartbeats 0
namespace Mine188
theorem lo_eq : looseW hd.view_39 looseH = looseN := by kernel_rfl
end Mine188
open Mine188
theorem PySem.Challenge.cw_ny0188_01_holds : PySem.Challenge.rw_ny0188_01.Holds := by
  w_on
  o_law
  refine holds_open (q := hd.view_39) (loose := looseH) (Xt := xtH) (XP := XL hd.view_39 []) (Yf := Hook.obs hkH) (Ya := Hook.val hkH) (YP := Hook.says hkH) (N := 36156) left_all (Hook.of hkH) (Hook.keeps hkH) (fun s e => xl_of s (Bool.and_eq_true_iff.mp e).1) XL.keeps (by rfl) (by rfl) (by rfl) (fun s e => recFacts_of (Bool.and_eq_true_iff.mp e).2) (by rfl) (by assumption) (by decide +kernel) ⟨rfl, rfl, rfl, rfl, rfl, by decide +kernel⟩ ?hw ?hc
  case hw => w_witness2
  case hc =>
    intro w s₀ s₁ mg mb G Y fa o pm cd doc dV kV ho hd hcd hD hmg hg args vals as hpre hlay hrd hwl hlo
    have KX := kIn_of Y
    refine Ground.open G ?_
    intro T B D TE TW
    have h167 : mg (Str.ofString "law") = some (.ref 167) := mg_of KX T.g (by kernel_rfl)
    have hfa : fa = 167 := by
      have e : some (Value.ref fa) = some (Value.ref 167) := hmg.symm.trans h167
      exact Value.ref.inj (Option.some.inj e)
    clear hd hcd hD hmg h167 G TE TW B D ho
    subst hfa
    wrow_args hpre hlay hrd hwl hlo
    rename List Int => ns
    rename IntsAre _ _ => hI
    rename (Heap.IsList _ _ _) => hl
    rename ¬ ((63 : Int) < _) => hlen
    rw [lo_eq] at T
    refine law_ctr _ _ _ hI (by omega) w _ mg mb _ _ _ _ s₁ _ _ KX T hl (by show 1 + claimMargin + 10 < recursionLimit; decide +kernel) (by show 4 + 20 * 10 < cLine; decide +kernel) fun r h' tk k hr => ?_
    subst hr
    exact ⟨.inl ⟨.bool true, .bool true, [], rfl, (fun _ => rfl), .bool _, (by kernel_rfl), fun _ => ⟨List.nodup_nil, fun _ h => by cases h⟩⟩, .of_keep k, rfl, .of_eq hg⟩
end
