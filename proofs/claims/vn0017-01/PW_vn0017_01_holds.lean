import PyProof.Rows.All
import Wide.All
import OpenK.AllK
import Wide.FinOn
import PySem.Challenge.RW_vn0017_01
set_option Elab.async false
set_option maxRecDepth 100000
set_option linter.unusedVariables false
set_option linter.unusedSectionVars false
section
open PySem PySem.W PyProof.Rows
set_option maxHeartbeats 0 in
theorem Mine.lawT (H : PySem.Challenge.rw_vn0017_01.row.wellSaid = true → PySem.Challenge.rw_vn0017_01.row.Holds) : PySem.Challenge.rw_vn0017_01.Holds := by
  o_law
  exact H (by assumption)
set_option maxHeartbeats 0 in
theorem Mine.bareT : PySem.Challenge.rw_vn0017_01.row.prog.bare := ⟨rfl, rfl, rfl, rfl, rfl, by decide +kernel⟩
end
section
open PySem PySem.W PySem.Calls PyProof.Rows
set_option maxHeartbeats 0
namespace HD
noncomputable section
abbrev prg : Program := PySem.Challenge.pw_vn0017_01
abbrev n (x : String) : Str := Str.ofString x
abbrev r : Nat → Value := Value.ref
abbrev i : Int → Nat → Value := Value.int
abbrev s (x : String) (k : Nat) : Value := Value.str (Str.ofString x) k
abbrev y (x : List UInt8) (k : Nat) : Value := Value.bytes x.toArray k
abbrev t : String → Value := Value.type
abbrev b : String → Value := Value.builtin
abbrev e (P : Params) (x : String) (k : Nat) (v : Value) : DictEntry := DictEntry.mk (PyData.keyHash P (Str.ofString x)) (Value.str (Str.ofString x) k) v
abbrev er (P : Params) (x : Str) (k : Nat) (v : Value) : DictEntry := DictEntry.mk (PyData.keyHash P x) (Value.str x k) v
abbrev en (h : Int) (k v : Value) : DictEntry := DictEntry.mk h k v
abbrev o (c : Value) (d : Data) : Obj := Obj.mk c none d #[]
abbrev oo (c : Value) (dd : Option Nat) (d : Data) (sl : Array (Option Value)) : Obj := Obj.mk c dd d sl
def d (k : Nat) : Stmt := prg.main.body.getD k (.Pass ⟨0, 0, 0, 0⟩)
def m : Stmt → Nat → Stmt
  | .ClassDef _ _ _ body _ _ _ _ _ _ _, k => body.getD k (.Pass ⟨0, 0, 0, 0⟩)
  | st, _ => st
def fA : Stmt → Arguments
  | .FunctionDef _ a _ _ _ _ _ _ _ _ => a
  | _ => default
def fB : Stmt → List Stmt
  | .FunctionDef _ _ x _ _ _ _ _ _ _ => x
  | _ => []
def fS : Stmt → Scope
  | .FunctionDef _ _ _ _ _ _ x _ _ _ => x
  | _ => default
abbrev fx (ps : Arguments) (bd : FuncBody) (sc : Scope) (nm ql : String) (gl : Nat) (clo : List (Str × Nat)) (dv kv doc pm : Value) (an : Option Nat) (cd ct : Value) (bs : Nat) : Data :=
  .func ⟨Str.ofString nm, Str.ofString ql, ps, bd, sc, gl, clo, dv, kv, doc, pm, an, cd, ct, bs⟩
abbrev fn (st : Stmt) (nm ql : String) (gl : Nat) (clo : List (Str × Nat)) (dv kv doc pm : Value) (an : Option Nat) (cd ct : Value) (bs : Nat) : Data :=
  fx (fA st) (.stmts (fB st)) (fS st) nm ql gl clo dv kv doc pm an cd ct bs
def lamOf : Stmt → Nat → Expr
  | .Assign _ (.Dict _ vs _) _, j => vs.getD j (.Constant .none 0 ⟨0, 0, 0, 0⟩)
  | _, _ => .Constant .none 0 ⟨0, 0, 0, 0⟩
def lA : Expr → Arguments
  | .Lambda a _ _ _ => a
  | _ => default
def lB : Expr → Expr
  | .Lambda _ x _ _ => x
  | x => x
def lS : Expr → Scope
  | .Lambda _ _ x _ => x
  | _ => default
abbrev fl (ex : Expr) (nm ql : String) (gl : Nat) (clo : List (Str × Nat)) (dv kv doc pm : Value) (an : Option Nat) (cd ct : Value) (bs : Nat) : Data :=
  fx (lA ex) (.expr (lB ex)) (lS ex) nm ql gl clo dv kv doc pm an cd ct bs
def evens {α : Type} : List α → List α
  | [] => []
  | [x] => [x]
  | x :: _ :: l => x :: evens l
def odds {α : Type} : List α → List α
  | [] => []
  | [_] => []
  | _ :: y :: l => y :: odds l
def bt : Nat → List Obj → BT
  | 0, _ => .nil
  | _ + 1, [] => .nil
  | f + 1, x :: l => .node x (bt f (evens l)) (bt f (odds l))
def put : List Obj → Nat → Obj → List Obj
  | [], _, _ => []
  | _ :: l, 0, x => x :: l
  | y :: l, k + 1, x => y :: put l k x
def envT : Env := { scope := prg.main.scope, locals := mainNs, globals := mainNs, cells := [], code := .ref 41, frame := some 42 }
def cT : Code := .body (behindTheImports prg) envT
abbrev B0 : List Frame := [topFrame ⟨0, 0, 0, 0⟩]
def runF : Program → World → Nat → Option Value → Nat → Nat → SharedT → Thread → Option (Flow × SharedT × Code × Pos) := PySem.W.Fast.tw10110043849684766642 PySem.W.Fast.tw14364793385576792824
def goF : Program → World → Nat → Option Value → Nat → Nat → SharedT → Thread → Option (SharedT × Thread) := PySem.W.Fast.tw10295753902157049106 PySem.W.Fast.tw14364793385576792824
abbrev ann0 : Option Value := some (.ref 6)
def sts (a k : Nat) : List Stmt := ((behindTheImports prg).drop a).take k
def restJ (a : Nat) : List Stmt := (behindTheImports prg).drop a
def KH (P : Params) : Frag :=
  (nat_lit 2, (o .none (.dict #[(er P ⟨#[105, 109, 112, 111, 114, 116, 46, 108, 111, 97, 100, 101, 100, 46, 95, 115, 116, 114, 117, 99, 116]⟩ 185 (.bool true)), (er P ⟨#[99, 108, 97, 115, 115, 46, 95, 102, 114, 111, 122, 101, 110, 95, 105, 109, 112, 111, 114, 116, 108, 105, 98, 95, 101, 120, 116, 101, 114, 110, 97, 108, 46, 95, 76, 111, 97, 100, 101, 114, 66, 97, 115, 105, 99, 115]⟩ 190 (r 16)), (er P ⟨#[119, 97, 116, 99, 104, 101, 100, 46, 105, 109, 112, 111, 114, 116]⟩ 206 (r 20)), (er P ⟨#[99, 108, 97, 115, 115, 46, 95, 102, 114, 111, 122, 101, 110, 95, 105, 109, 112, 111, 114, 116, 108, 105, 98, 95, 101, 120, 116, 101, 114, 110, 97, 108, 46, 70, 105, 108, 101, 76, 111, 97, 100, 101, 114]⟩ 207 (r 22)), (er P ⟨#[99, 108, 97, 115, 115, 46, 95, 102, 114, 111, 122, 101, 110, 95, 105, 109, 112, 111, 114, 116, 108, 105, 98, 95, 101, 120, 116, 101, 114, 110, 97, 108, 46, 69, 120, 116, 101, 110, 115, 105, 111, 110, 70, 105, 108, 101, 76, 111, 97, 100, 101, 114]⟩ 228 (r 27)), (er P ⟨#[99, 108, 97, 115, 115, 46, 95, 102, 114, 111, 122, 101, 110, 95, 105, 109, 112, 111, 114, 116, 108, 105, 98, 46, 77, 111, 100, 117, 108, 101, 83, 112, 101, 99]⟩ 256 (r 33)), (er P ⟨#[115, 121, 115, 46, 109, 111, 100, 117, 108, 101, 115, 46, 98, 111, 111, 107, 101, 100, 45, 101, 112, 111, 99, 104]⟩ 285 (i 3 0)), (er P ⟨#[99, 108, 97, 115, 115, 46, 115, 116, 114, 117, 99, 116, 46, 101, 114, 114, 111, 114]⟩ 302 (t "struct.error")), (er P ⟨#[105, 109, 112, 111, 114, 116, 46, 108, 97, 116, 101, 114, 45, 108, 97, 105, 100, 46, 95, 115, 116, 114, 117, 99, 116]⟩ 304 (.bool true)), (er P ⟨#[119, 97, 116, 99, 104, 101, 100, 46, 108, 105, 98, 114, 97, 114, 121]⟩ 306 (r 38)), (er P ⟨#[119, 97, 116, 99, 104, 101, 100, 46, 108, 105, 98, 114, 97, 114, 121, 45, 111, 98, 106, 101, 99, 116, 115]⟩ 0 (.str ⟨#[13]⟩ 0)), (e P "type.__subclasses__.Exception.0" 344 (i 59 0)), (e P "type.__subclasses__.Exception.n" 345 (i 3 0)), (e P "type.__subclasses__.Exception.1" 1347 (i 723 0)), (e P "type.__subclasses__.Exception.2" 2796 (i 1673 0))] 15))) ::
  (nat_lit 3, (o (t "dict") (.dict #[(er P ⟨#[95, 95, 110, 97, 109, 101, 95, 95]⟩ 165 (s "law_vn0017_01" 3985)), (er P ⟨#[95, 95, 100, 111, 99, 95, 95]⟩ 166 .none), (er P ⟨#[95, 95, 112, 97, 99, 107, 97, 103, 101, 95, 95]⟩ 167 .none), (er P ⟨#[95, 95, 108, 111, 97, 100, 101, 114, 95, 95]⟩ 168 (b "__main__.__loader__#opaque")), (er P ⟨#[95, 95, 115, 112, 101, 99, 95, 95]⟩ 169 .none), (er P ⟨#[95, 95, 97, 110, 110, 111, 116, 97, 116, 105, 111, 110, 115, 95, 95]⟩ 170 (r 6)), (er P ⟨#[95, 95, 98, 117, 105, 108, 116, 105, 110, 115, 95, 95]⟩ 171 (r 4)), (er P ⟨#[95, 95, 102, 105, 108, 101, 95, 95]⟩ 173 (.str ⟨#[47, 99, 108, 97, 105, 109, 47, 99, 117, 116, 46, 112, 121]⟩ 172)), (er P ⟨#[95, 95, 99, 97, 99, 104, 101, 100, 95, 95]⟩ 174 .none), (er P ⟨#[112, 97, 99, 107]⟩ 312 (b "_struct.pack")), (e P "_wall" 325 (r 49)), (e P "Error" 347 (r 59)), (e P "DecodeError" 363 (r 72)), (e P "EncodeError" 379 (r 84)), (e P "TAG_TYPE_BITS" 381 (i 3 380)), (e P "_WIRETYPE_MAX" 383 (i 5 382)), (e P "PackTag" 391 (r 93)), (e P "_VarintDecoder" 402 (r 100)), (e P "_DecodeVarint" 410 (r 107)), (e P "ReadTag" 420 (r 114)), (e P "byte_cls" 423 (t "bytes")), (e P "chr_cls" 430 (r 121)), (e P "type_name" 437 (r 128)), (e P "int_to_bytes" 449 (r 136)), (e P "int_from_bytes" 457 (r 144)), (e P "_PY2" 460 (.bool false)), (e P "_INSUFFICIENT_DATA_MESSAGE" 462 (s "Insufficient data - %s bytes requested but only %s available" 461)), (e P "_MAX_DEPTH" 464 (i 10 463)), (e P "emit" 474 (r 151)), (e P "parse" 485 (r 159)), (e P "peek" 494 (r 166)), (e P "_parse" 517 (r 174)), (e P "_dump_header" 532 (r 181)), (e P "UUID" 575 (r 206)), (e P "_turned" 582 (r 217)), (e P "BINARY_SUBTYPE" 586 (i 0 585)), (e P "OLD_UUID_SUBTYPE" 588 (i 3 587)), (e P "UUID_SUBTYPE" 590 (i 4 589)), (e P "UuidRepresentation" 623 (r 227)), (e P "STANDARD" 625 (i 4 589)), (e P "ALL_UUID_SUBTYPES" 626 (r 232)), (e P "ALL_UUID_REPRESENTATIONS" 632 (r 233)), (e P "UUID_REPRESENTATION_NAMES" 648 (r 234)), (e P "Binary" 770 (r 312)), (e P "Code" 831 (r 356)), (e P "TypeRegistry" 880 (r 394)), (e P "CodecOptions" 915 (r 416)), (e P "DEFAULT_CODEC_OPTIONS" 935 (r 422)), (e P "DatetimeMS" 1024 (r 494)), (e P "DBRef" 1107 (r 554)), (e P "Decimal" 1184 (r 617)), (e P "_PACK_64" 1193 (r 628)), (e P "_UNPACK_64" 1200 (r 635)), (e P "_EXPONENT_MASK" 1204 (i 6917529027641081856 1203)), (e P "_EXPONENT_BIAS" 1206 (i 6176 1205)), (e P "_MAX_DIGITS" 1208 (i 34 1207)), (e P "_INF" 1210 (i 8646911284551352320 1209)), (e P "_NAN" 1212 (i 8935141660703064064 1211)), (e P "_SNAN" 1214 (i 9079256848778919936 1213)), (e P "_SIGN" 1216 (i 9223372036854775808 1215)), (e P "_NINF" 1219 (r 636)), (e P "_PINF" 1221 (r 637)), (e P "_NNAN" 1224 (r 638)), (e P "_PNAN" 1226 (r 639)), (e P "_NSNAN" 1229 (r 640)), (e P "_PSNAN" 1231 (r 641)), (e P "_check_fits" 1238 (r 648)), (e P "_decimal_to_128" 1244 (r 653)), (e P "Decimal128" 1328 (r 709)), (e P "BSONError" 1350 (r 723)), (e P "InvalidBSON" 1366 (r 736)), (e P "InvalidStringData" 1382 (r 748)), (e P "InvalidDocument" 1418 (r 778)), (e P "InvalidId" 1434 (r 790)), (e P "Int64" 1476 (r 816)), (e P "MaxKey" 1556 (r 879)), (e P "MinKey" 1636 (r 942)), (e P "_HEX_DIGITS" 1640 (s "0123456789abcdefABCDEF" 1639)), (e P "_from_hex" 1646 (r 951)), (e P "_raise_invalid_id" 1653 (r 958)), (e P "ObjectId" 1783 (r 1058)), (e P "_IGNORECASE" 1787 (i 2 1786)), (e P "_LOCALE" 1789 (i 4 1788)), (e P "_MULTILINE" 1791 (i 8 1790)), (e P "_DOTALL" 1793 (i 16 1792)), (e P "_UNICODE" 1795 (i 32 1794)), (e P "_VERBOSE" 1797 (i 64 1796)), (e P "str_flags_to_int" 1805 (r 1069)), (e P "Regex" 1856 (r 1101)), (e P "UPPERBOUND" 1860 (i 4294967296 1859)), (e P "Timestamp" 1958 (r 1180)), (e P "BSONSTR" 1962 (y [2] 1961)), (e P "BSONOBJ" 1964 (y [3] 1963)), (e P "BSONARR" 1966 (y [4] 1965)), (e P "BSONBIN" 1968 (y [5] 1967)), (e P "BSONUND" 1970 (y [6] 1969)), (e P "BSONOID" 1972 (y [7] 1971)), (e P "BSONBOO" 1974 (y [8] 1973)), (e P "BSONDAT" 1976 (y [9] 1975)), (e P "BSONNUL" 1978 (y [10] 1977)), (e P "BSONRGX" 1980 (y [11] 1979)), (e P "BSONREF" 1982 (y [12] 1981)), (e P "BSONCOD" 1984 (y [13] 1983)), (e P "BSONSYM" 1986 (y [14] 1985)), (e P "BSONCWS" 1988 (y [15] 1987)), (e P "BSONINT" 1990 (y [16] 1989)), (e P "BSONTIM" 1992 (y [17] 1991)), (e P "BSONLON" 1994 (y [18] 1993)), (e P "BSONDEC" 1996 (y [19] 1995)), (e P "BSONMIN" 1998 (y [255] 1997)), (e P "BSONMAX" 2000 (y [127] 1999)), (e P "_unpack" 2010 (r 1191)), (e P "_UNPACK_INT_FROM" 2018 (r 1198)), (e P "_UNPACK_LENGTH_SUBTYPE_FROM" 2026 (r 1205)), (e P "_UNPACK_LONG_FROM" 2034 (r 1212)), (e P "_UNPACK_TIMESTAMP_FROM" 2042 (r 1219)), (e P "_utf_8_decode" 2051 (r 1226)), (e P "_utf_8_encode" 2058 (r 1233)), (e P "_index_nul" 2067 (r 1240)), (e P "get_data_and_view" 2074 (r 1247)), (e P "_raise_unknown_type" 2082 (r 1254)), (e P "_get_int" 2094 (r 1261)), (e P "_get_c_string" 2105 (r 1268)), (e P "_get_string" 2119 (r 1275)), (e P "_get_object_size" 2131 (r 1282)), (e P "_get_object" 2146 (r 1289)), (e P "_get_array" 2164 (r 1296)), (e P "_get_binary" 2183 (r 1303)), (e P "_get_oid" 2196 (r 1310)), (e P "_get_boolean" 2210 (r 1317)), (e P "_get_date" 2222 (r 1324)), (e P "_get_code" 2235 (r 1331)), (e P "_get_code_w_scope" 2250 (r 1338)), (e P "_get_regex" 2265 (r 1345)), (e P "_get_ref" 2279 (r 1352)), (e P "_get_timestamp" 2293 (r 1359)), (e P "_get_int64" 2305 (r 1366)), (e P "_get_decimal128" 2318 (r 1373)), (e P "_ELEMENT_GETTER" 2403 (r 1374)), (e P "_element_to_dict" 2417 (r 1410)), (e P "_elements_to_dict" 2432 (r 1417)), (e P "_bson_to_dict" 2444 (r 1424)), (e P "_PACK_INT" 2451 (r 1431)), (e P "_PACK_LENGTH_SUBTYPE" 2459 (r 1438)), (e P "_PACK_LONG" 2466 (r 1445)), (e P "_PACK_TIMESTAMP" 2474 (r 1452)), (e P "_make_c_string_check" 2481 (r 1459)), (e P "_make_c_string" 2488 (r 1466)), (e P "_make_name" 2495 (r 1473)), (e P "_encode_bytes" 2505 (r 1480)), (e P "_encode_mapping" 2511 (r 1485)), (e P "_encode_dbref" 2525 (r 1492)), (e P "_encode_list" 2531 (r 1497)), (e P "_encode_text" 2542 (r 1504)), (e P "_encode_binary" 2553 (r 1511)), (e P "_encode_uuid" 2565 (r 1518)), (e P "_encode_objectid" 2575 (r 1525)), (e P "_encode_bool" 2585 (r 1532)), (e P "_encode_datetime_ms" 2596 (r 1539)), (e P "_encode_none" 2606 (r 1546)), (e P "_encode_regex" 2618 (r 1553)), (e P "_encode_code" 2632 (r 1560)), (e P "_encode_int" 2642 (r 1567)), (e P "_encode_timestamp" 2652 (r 1574)), (e P "_encode_long" 2662 (r 1581)), (e P "_encode_decimal128" 2672 (r 1588)), (e P "_encode_minkey" 2682 (r 1595)), (e P "_encode_maxkey" 2692 (r 1602)), (e P "_name_value_to_bson" 2705 (r 1610)), (e P "_element_to_bson" 2716 (r 1617)), (e P "_dict_to_bson" 2731 (r 1625)), (e P "encode" 2740 (r 1633)), (e P "decode" 2749 (r 1641)), (e P "_EncodeVarint" 2761 (r 1649)), (e P "_VarintBytes" 2769 (r 1656)), (e P "TagBytes" 2777 (r 1663)), (e P "RLPException" 2799 (r 1673)), (e P "EncodingError" 2827 (r 1695)), (e P "DecodingError" 2855 (r 1716)), (e P "ALL_BYTES" 3893 (r 1731)), (e P "Atomic" 3894 (r 1732)), (e P "big_endian_to_int" 3901 (r 1739)), (e P "int_to_big_endian" 3908 (r 1746)), (e P "encode_raw" 3921 (r 1753)), (e P "LONG_LENGTH" 3925 (i 18446744073709551616 3924)), (e P "length_prefix" 3934 (r 1760)), (e P "SHORT_STRING" 3938 (i 184 3937)), (e P "consume_length_prefix" 3950 (r 1767)), (e P "consume_payload" 3972 (r 1774)), (e P "consume_item" 3984 (r 1781)), (e P "_law_at" 3995 (r 1788)), (e P "_law_piece" 4003 (r 1795)), (e P "_law_ends" 4015 (r 1802)), (e P "_law_inside" 4027 (r 1809)), (e P "law" 4033 (r 1814))] 195))) ::
  (nat_lit 87, (o (t "tuple") (.seq #[] 0))) ::
  (nat_lit 89, (o (t "tuple") (.seq #[(s "field_number" 387), (s "wire_type" 388)] 0))) ::
  (nat_lit 90, (o (t "tuple") (.seq #[] 0))) ::
  (nat_lit 92, (o (t "code") (.fields #[(s "PackTag" 384), (s "PackTag" 385), (s "/claim/cut.py" 386), (i 14 0), (i 2 0), (i 0 0), (i 0 0), (i 3 0), (r 87), (.bool true), (i 313 0), (r 88), .none, (r 89), (r 90), (r 91), (i 389 0), (i 14 0), (s "/claim/cut.py" 390)]))) ::
  (nat_lit 93, (o (t "function") (fn (d 8) "PackTag" "PackTag" 3 [] .none .none .none (s "google.protobuf.internal.wire_format" 326) none (r 92) .none 0))) ::
  (nat_lit 94, (o (t "tuple") (.seq #[] 0))) ::
  (nat_lit 96, (o (t "tuple") (.seq #[(s "mask" 397), (s "DecodeVarint" 398)] 0))) ::
  (nat_lit 97, (o (t "tuple") (.seq #[(s "mask" 399)] 0))) ::
  (nat_lit 99, (o (t "code") (.fields #[(s "_VarintDecoder" 394), (s "_VarintDecoder" 395), (s "/claim/cut.py" 396), (i 19 0), (i 1 0), (i 0 0), (i 0 0), (i 3 0), (r 94), (.bool true), (i 313 0), (r 95), .none, (r 96), (r 97), (r 98), (i 400 0), (i 19 0), (s "/claim/cut.py" 401)]))) ::
  (nat_lit 100, (o (t "function") (fn (d 10) "_VarintDecoder" "_VarintDecoder" 3 [] .none .none .none (s "google.protobuf.internal.decoder" 392) none (r 99) .none 0))) ::
  (nat_lit 101, (o (t "tuple") (.seq #[] 0))) ::
  (nat_lit 103, (o (t "tuple") (.seq #[(s "buffer" 406), (s "pos" 407)] 0))) ::
  (nat_lit 104, (o (t "tuple") (.seq #[] 0))) ::
  (nat_lit 106, (o (t "code") (.fields #[(s "_DecodeVarint" 403), (s "_DecodeVarint" 404), (s "/claim/cut.py" 405), (i 35 0), (i 2 0), (i 0 0), (i 0 0), (i 3 0), (r 101), (.bool true), (i 313 0), (r 102), .none, (r 103), (r 104), (r 105), (i 408 0), (i 35 0), (s "/claim/cut.py" 409)]))) ::
  (nat_lit 107, (o (t "function") (fn (d 11) "_DecodeVarint" "_DecodeVarint" 3 [] .none .none .none (s "google.protobuf.internal.decoder" 392) none (r 106) .none 0))) ::
  (nat_lit 108, (o (t "tuple") (.seq #[] 0))) ::
  (nat_lit 110, (o (t "tuple") (.seq #[(s "buffer" 414), (s "pos" 415), (s "start" 416), (s "tag_bytes" 417)] 0))) ::
  (nat_lit 111, (o (t "tuple") (.seq #[] 0))) ::
  (nat_lit 113, (o (t "code") (.fields #[(s "ReadTag" 411), (s "ReadTag" 412), (s "/claim/cut.py" 413), (i 37 0), (i 2 0), (i 0 0), (i 0 0), (i 3 0), (r 108), (.bool true), (i 313 0), (r 109), .none, (r 110), (r 111), (r 112), (i 418 0), (i 37 0), (s "/claim/cut.py" 419)]))) ::
  (nat_lit 114, (o (t "function") (fn (d 12) "ReadTag" "ReadTag" 3 [] .none .none .none (s "google.protobuf.internal.decoder" 392) none (r 113) .none 0))) ::
  (nat_lit 115, (o (t "tuple") (.seq #[] 0))) ::
  (nat_lit 117, (o (t "tuple") (.seq #[(s "num" 427)] 0))) ::
  (nat_lit 118, (o (t "tuple") (.seq #[] 0))) ::
  (nat_lit 120, (o (t "code") (.fields #[(s "chr_cls" 424), (s "chr_cls" 425), (s "/claim/cut.py" 426), (i 46 0), (i 1 0), (i 0 0), (i 0 0), (i 3 0), (r 115), (.bool true), (i 313 0), (r 116), .none, (r 117), (r 118), (r 119), (i 428 0), (i 46 0), (s "/claim/cut.py" 429)]))) ::
  (nat_lit 121, (o (t "function") (fn (d 15) "chr_cls" "chr_cls" 3 [] .none .none .none (s "asn1crypto._types" 421) none (r 120) .none 0))) ::
  (nat_lit 137, (o (t "tuple") (.seq #[(.bool false)] 0))) ::
  (nat_lit 138, (o (t "tuple") (.seq #[] 0))) ::
  (nat_lit 140, (o (t "tuple") (.seq #[(s "value" 453), (s "signed" 454)] 0))) ::
  (nat_lit 141, (o (t "tuple") (.seq #[] 0))) ::
  (nat_lit 143, (o (t "code") (.fields #[(s "int_from_bytes" 450), (s "int_from_bytes" 451), (s "/claim/cut.py" 452), (i 64 0), (i 2 0), (i 0 0), (i 0 0), (i 3 0), (r 138), (.bool true), (i 313 0), (r 139), .none, (r 140), (r 141), (r 142), (i 455 0), (i 64 0), (s "/claim/cut.py" 456)]))) ::
  (nat_lit 144, (o (t "function") (fn (d 19) "int_from_bytes" "int_from_bytes" 3 [] (r 137) .none .none (s "asn1crypto.util" 438) none (r 143) .none 0))) ::
  (nat_lit 145, (o (t "tuple") (.seq #[] 0))) ::
  (nat_lit 147, (o (t "tuple") (.seq #[(s "class_" 468), (s "method" 469), (s "tag" 470), (s "contents" 471)] 0))) ::
  (nat_lit 148, (o (t "tuple") (.seq #[] 0))) ::
  (nat_lit 150, (o (t "code") (.fields #[(s "emit" 465), (s "emit" 466), (s "/claim/cut.py" 467), (i 70 0), (i 4 0), (i 0 0), (i 0 0), (i 3 0), (r 145), (.bool true), (i 313 0), (r 146), .none, (r 147), (r 148), (r 149), (i 472 0), (i 70 0), (s "/claim/cut.py" 473)]))) ::
  (nat_lit 151, (o (t "function") (fn (d 24) "emit" "emit" 3 [] .none .none .none (s "asn1crypto.parser" 458) none (r 150) .none 0))) ::
  (nat_lit 152, (o (t "tuple") (.seq #[(.bool false)] 0))) ::
  (nat_lit 153, (o (t "tuple") (.seq #[] 0))) ::
  (nat_lit 155, (o (t "tuple") (.seq #[(s "contents" 478), (s "strict" 479), (s "contents_len" 480), (s "info" 481), (s "consumed" 482)] 0))) ::
  (nat_lit 156, (o (t "tuple") (.seq #[] 0))) ::
  (nat_lit 158, (o (t "code") (.fields #[(s "parse" 475), (s "parse" 476), (s "/claim/cut.py" 477), (i 86 0), (i 2 0), (i 0 0), (i 0 0), (i 3 0), (r 153), (.bool true), (i 313 0), (r 154), .none, (r 155), (r 156), (r 157), (i 483 0), (i 86 0), (s "/claim/cut.py" 484)]))) ::
  (nat_lit 159, (o (t "function") (fn (d 25) "parse" "parse" 3 [] (r 152) .none .none (s "asn1crypto.parser" 458) none (r 158) .none 0))) ::
  (nat_lit 160, (o (t "tuple") (.seq #[] 0))) ::
  (nat_lit 162, (o (t "tuple") (.seq #[(s "contents" 489), (s "info" 490), (s "consumed" 491)] 0))) ::
  (nat_lit 163, (o (t "tuple") (.seq #[] 0))) ::
  (nat_lit 165, (o (t "code") (.fields #[(s "peek" 486), (s "peek" 487), (s "/claim/cut.py" 488), (i 94 0), (i 1 0), (i 0 0), (i 0 0), (i 3 0), (r 160), (.bool true), (i 313 0), (r 161), .none, (r 162), (r 163), (r 164), (i 492 0), (i 94 0), (s "/claim/cut.py" 493)]))) ::
  (nat_lit 166, (o (t "function") (fn (d 26) "peek" "peek" 3 [] .none .none .none (s "asn1crypto.parser" 458) none (r 165) .none 0))) ::
  (nat_lit 167, (o (t "tuple") (.seq #[(i 0 495), (.bool false), (i 0 496)] 0))) ::
  (nat_lit 168, (o (t "tuple") (.seq #[] 0))) ::
  (nat_lit 170, (o (t "tuple") (.seq #[(s "encoded_data" 500), (s "data_len" 501), (s "pointer" 502), (s "lengths_only" 503), (s "depth" 504), (s "start" 505), (s "first_octet" 506), (s "tag" 507), (s "constructed" 508), (s "num" 509), (s "length_octet" 510), (s "trailer" 511), (s "contents_end" 512), (s "length_octets" 513), (s "_" 514)] 0))) ::
  (nat_lit 171, (o (t "tuple") (.seq #[] 0))) ::
  (nat_lit 173, (o (t "code") (.fields #[(s "_parse" 497), (s "_parse" 498), (s "/claim/cut.py" 499), (i 99 0), (i 5 0), (i 0 0), (i 0 0), (i 3 0), (r 168), (.bool true), (i 313 0), (r 169), .none, (r 170), (r 171), (r 172), (i 515 0), (i 99 0), (s "/claim/cut.py" 516)]))) ::
  (nat_lit 174, (o (t "function") (fn (d 27) "_parse" "_parse" 3 [] (r 167) .none .none (s "asn1crypto.parser" 458) none (r 173) .none 0))) ::
  (nat_lit 175, (o (t "tuple") (.seq #[] 0))) ::
  (nat_lit 177, (o (t "tuple") (.seq #[(s "class_" 521), (s "method" 522), (s "tag" 523), (s "contents" 524), (s "header" 525), (s "id_num" 526), (s "cont_bit" 527), (s "length" 528), (s "length_bytes" 529)] 0))) ::
  (nat_lit 178, (o (t "tuple") (.seq #[] 0))) ::
  (nat_lit 180, (o (t "code") (.fields #[(s "_dump_header" 518), (s "_dump_header" 519), (s "/claim/cut.py" 520), (i 151 0), (i 4 0), (i 0 0), (i 0 0), (i 3 0), (r 175), (.bool true), (i 313 0), (r 176), .none, (r 177), (r 178), (r 179), (i 530 0), (i 151 0), (s "/claim/cut.py" 531)]))) ::
  (nat_lit 181, (o (t "function") (fn (d 28) "_dump_header" "_dump_header" 3 [] .none .none .none (s "asn1crypto.parser" 458) none (r 180) .none 0))) ::
  (nat_lit 232, (o (t "tuple") (.seq #[(i 3 587), (i 4 589)] 0))) ::
  (nat_lit 368, (o (t "tuple") (.seq #[.none, .none] 0))) ::
  (nat_lit 369, (o (t "tuple") (.seq #[] 0))) ::
  (nat_lit 371, (o (t "tuple") (.seq #[(s "self" 849), (s "type_codecs" 850), (s "fallback_encoder" 851)] 0))) ::
  (nat_lit 372, (o (t "tuple") (.seq #[] 0))) ::
  (nat_lit 374, (o (t "code") (.fields #[(s "__init__" 846), (s "TypeRegistry.__init__" 847), (s "/claim/cut.py" 848), (i 317 0), (i 3 0), (i 0 0), (i 0 0), (i 3 0), (r 369), (.bool true), (i 313 0), (r 370), .none, (r 371), (r 372), (r 373), (i 852 0), (i 317 0), (s "/claim/cut.py" 853)]))) ::
  (nat_lit 375, (o (t "function") (fn (m (d 45) 0) "__init__" "TypeRegistry.__init__" 3 [] (r 368) .none .none (s "bson.codec_options" 832) none (r 374) .none 0))) ::
  (nat_lit 376, (o (t "tuple") (.seq #[] 0))) ::
  (nat_lit 378, (o (t "tuple") (.seq #[(s "self" 858)] 0))) ::
  (nat_lit 379, (o (t "tuple") (.seq #[] 0))) ::
  (nat_lit 381, (o (t "code") (.fields #[(s "codecs" 855), (s "TypeRegistry.codecs" 856), (s "/claim/cut.py" 857), (i 324 0), (i 1 0), (i 0 0), (i 0 0), (i 3 0), (r 376), (.bool true), (i 313 0), (r 377), .none, (r 378), (r 379), (r 380), (i 859 0), (i 324 0), (s "/claim/cut.py" 860)]))) ::
  (nat_lit 382, (o (t "function") (fn (m (d 45) 1) "codecs" "TypeRegistry.codecs" 3 [] .none .none .none (s "bson.codec_options" 832) none (r 381) .none 0))) ::
  (nat_lit 383, (o (t "property") (.fields #[(r 382), .none, .none, .none, (s "codecs" 862), (.bool false)]))) ::
  (nat_lit 384, (o (t "tuple") (.seq #[] 0))) ::
  (nat_lit 386, (o (t "tuple") (.seq #[(s "self" 866)] 0))) ::
  (nat_lit 387, (o (t "tuple") (.seq #[] 0))) ::
  (nat_lit 389, (o (t "code") (.fields #[(s "fallback_encoder" 863), (s "TypeRegistry.fallback_encoder" 864), (s "/claim/cut.py" 865), (i 328 0), (i 1 0), (i 0 0), (i 0 0), (i 3 0), (r 384), (.bool true), (i 313 0), (r 385), .none, (r 386), (r 387), (r 388), (i 867 0), (i 328 0), (s "/claim/cut.py" 868)]))) ::
  (nat_lit 390, (o (t "function") (fn (m (d 45) 2) "fallback_encoder" "TypeRegistry.fallback_encoder" 3 [] .none .none .none (s "bson.codec_options" 832) none (r 389) .none 0))) ::
  (nat_lit 391, (o (t "property") (.fields #[(r 390), .none, .none, .none, (s "fallback_encoder" 870), (.bool false)]))) ::
  (nat_lit 392, (o (t "tuple") (.seq #[(s "_fallback_encoder" 871), (s "_type_codecs" 872)] 0))) ::
  (nat_lit 393, (o (t "dict") (.dict #[(er P ⟨#[95, 95, 109, 111, 100, 117, 108, 101, 95, 95]⟩ 841 (s "bson.codec_options" 832)), (er P ⟨#[95, 95, 102, 105, 114, 115, 116, 108, 105, 110, 101, 110, 111, 95, 95]⟩ 845 (i 315 844)), (e P "__init__" 854 (r 375)), (e P "codecs" 862 (r 383)), (e P "fallback_encoder" 870 (r 391)), (er P ⟨#[95, 95, 115, 116, 97, 116, 105, 99, 95, 97, 116, 116, 114, 105, 98, 117, 116, 101, 115, 95, 95]⟩ 873 (r 392)), (er P ⟨#[95, 95, 100, 105, 99, 116, 95, 95]⟩ 875 (r 395)), (er P ⟨#[95, 95, 119, 101, 97, 107, 114, 101, 102, 95, 95]⟩ 877 (r 396)), (er P ⟨#[95, 95, 100, 111, 99, 95, 95]⟩ 878 .none)] 4))) ::
  (nat_lit 394, (oo (t "type") none (.cls ⟨n "TypeRegistry", [(t "object")], [(r 394), (t "object")], 393, n "TypeRegistry", true, [], [], false, none, false⟩) #[none, none, (some (s "TypeRegistry" 834)), (some (s "TypeRegistry" 842)), (some (b "object.__new__")), (some (.bool true))])) ::
  (nat_lit 395, (o (t "getset_descriptor") (.fields #[(.str ⟨#[95, 95, 100, 105, 99, 116, 95, 95]⟩ 874), (r 394), (b "function.__dict__"), (b "function.__dict__#set")]))) ::
  (nat_lit 396, (o (t "getset_descriptor") (.fields #[(.str ⟨#[95, 95, 119, 101, 97, 107, 114, 101, 102, 95, 95]⟩ 876), (r 394), (b "ExceptionGroup.__weakref__"), .none]))) ::
  (nat_lit 406, (o (t "tuple") (.seq #[(i 0 603), (s "strict" 894), .none] 0))) ::
  (nat_lit 407, (o (t "tuple") (.seq #[] 0))) ::
  (nat_lit 409, (o (t "tuple") (.seq #[(s "self" 898), (s "uuid_representation" 899), (s "unicode_decode_error_handler" 900), (s "type_registry" 901)] 0))) ::
  (nat_lit 410, (o (t "tuple") (.seq #[] 0))) ::
  (nat_lit 412, (o (t "code") (.fields #[(s "__init__" 895), (s "CodecOptions.__init__" 896), (s "/claim/cut.py" 897), (i 333 0), (i 4 0), (i 0 0), (i 0 0), (i 3 0), (r 407), (.bool true), (i 313 0), (r 408), .none, (r 409), (r 410), (r 411), (i 902 0), (i 333 0), (s "/claim/cut.py" 903)]))) ::
  (nat_lit 413, (o (t "function") (fn (m (d 46) 0) "__init__" "CodecOptions.__init__" 3 [] (r 406) .none .none (s "bson.codec_options" 832) none (r 412) .none 0))) ::
  (nat_lit 414, (o (t "tuple") (.seq #[(s "type_registry" 905), (s "unicode_decode_error_handler" 906), (s "uuid_representation" 907)] 0))) ::
  (nat_lit 415, (o (t "dict") (.dict #[(er P ⟨#[95, 95, 109, 111, 100, 117, 108, 101, 95, 95]⟩ 888 (s "bson.codec_options" 832)), (er P ⟨#[95, 95, 102, 105, 114, 115, 116, 108, 105, 110, 101, 110, 111, 95, 95]⟩ 892 (i 331 891)), (e P "__init__" 904 (r 413)), (er P ⟨#[95, 95, 115, 116, 97, 116, 105, 99, 95, 97, 116, 116, 114, 105, 98, 117, 116, 101, 115, 95, 95]⟩ 908 (r 414)), (er P ⟨#[95, 95, 100, 105, 99, 116, 95, 95]⟩ 910 (r 417)), (er P ⟨#[95, 95, 119, 101, 97, 107, 114, 101, 102, 95, 95]⟩ 912 (r 418)), (er P ⟨#[95, 95, 100, 111, 99, 95, 95]⟩ 913 .none)] 4))) ::
  (nat_lit 416, (oo (t "type") none (.cls ⟨n "CodecOptions", [(t "object")], [(r 416), (t "object")], 415, n "CodecOptions", true, [], [], false, none, false⟩) #[none, none, (some (s "CodecOptions" 881)), (some (s "CodecOptions" 889)), (some (b "object.__new__")), (some (.bool true))])) ::
  (nat_lit 417, (o (t "getset_descriptor") (.fields #[(.str ⟨#[95, 95, 100, 105, 99, 116, 95, 95]⟩ 909), (r 416), (b "function.__dict__"), (b "function.__dict__#set")]))) ::
  (nat_lit 418, (o (t "getset_descriptor") (.fields #[(.str ⟨#[95, 95, 119, 101, 97, 107, 114, 101, 102, 95, 95]⟩ 911), (r 416), (b "ExceptionGroup.__weakref__"), .none]))) ::
  (nat_lit 421, (o (t "dict") (.dict #[(e P "uuid_representation" 930 (i 0 603)), (e P "unicode_decode_error_handler" 932 (s "strict" 894)), (e P "type_registry" 934 (r 425))] 3))) ::
  (nat_lit 422, (oo (r 416) (some 421) .plain #[])) ::
  (nat_lit 424, (o (t "dict") (.dict #[(e P "_type_codecs" 924 (r 428)), (e P "_fallback_encoder" 926 .none)] 2))) ::
  (nat_lit 425, (oo (r 394) (some 424) .plain #[])) ::
  (nat_lit 428, (o (t "list") (.seq #[] 0))) ::
  (nat_lit 714, (o (t "tuple") (.seq #[(t "Exception")] 0))) ::
  (nat_lit 721, (o (t "tuple") (.seq #[] 0))) ::
  (nat_lit 722, (o (t "dict") (.dict #[(er P ⟨#[95, 95, 109, 111, 100, 117, 108, 101, 95, 95]⟩ 1338 (s "bson.errors" 1329)), (er P ⟨#[95, 95, 102, 105, 114, 115, 116, 108, 105, 110, 101, 110, 111, 95, 95]⟩ 1342 (i 531 1341)), (er P ⟨#[95, 95, 115, 116, 97, 116, 105, 99, 95, 97, 116, 116, 114, 105, 98, 117, 116, 101, 115, 95, 95]⟩ 1343 (r 721)), (er P ⟨#[95, 95, 119, 101, 97, 107, 114, 101, 102, 95, 95]⟩ 1345 (r 724)), (er P ⟨#[95, 95, 100, 111, 99, 95, 95]⟩ 1346 .none)] 3))) ::
  (nat_lit 723, (oo (t "type") none (.cls ⟨n "BSONError", [(t "Exception")], [(r 723), (t "Exception"), (t "BaseException"), (t "object")], 722, n "BSONError", true, [], [(r 736), (r 748), (r 778), (r 790)], false, none, false⟩) #[(some (r 714)), none, (some (s "BSONError" 1331)), (some (s "BSONError" 1339)), (some (b "Exception.__new__")), (some (.bool true))])) ::
  (nat_lit 724, (o (t "getset_descriptor") (.fields #[(.str ⟨#[95, 95, 119, 101, 97, 107, 114, 101, 102, 95, 95]⟩ 1344), (r 723), (b "ExceptionGroup.__weakref__"), .none]))) ::
  (nat_lit 727, (o (t "tuple") (.seq #[(r 723)] 0))) ::
  (nat_lit 734, (o (t "tuple") (.seq #[] 0))) ::
  (nat_lit 735, (o (t "dict") (.dict #[(er P ⟨#[95, 95, 109, 111, 100, 117, 108, 101, 95, 95]⟩ 1358 (s "bson.errors" 1329)), (er P ⟨#[95, 95, 102, 105, 114, 115, 116, 108, 105, 110, 101, 110, 111, 95, 95]⟩ 1362 (i 533 1361)), (er P ⟨#[95, 95, 115, 116, 97, 116, 105, 99, 95, 97, 116, 116, 114, 105, 98, 117, 116, 101, 115, 95, 95]⟩ 1363 (r 734)), (er P ⟨#[95, 95, 100, 111, 99, 95, 95]⟩ 1364 .none)] 2))) ::
  (nat_lit 736, (oo (t "type") none (.cls ⟨n "InvalidBSON", [(r 723)], [(r 736), (r 723), (t "Exception"), (t "BaseException"), (t "object")], 735, n "InvalidBSON", true, [], [], false, none, false⟩) #[(some (r 727)), none, (some (s "InvalidBSON" 1351)), (some (s "InvalidBSON" 1359)), (some (b "Exception.__new__")), (some (.bool true))])) ::
  (nat_lit 1185, (o (t "tuple") (.seq #[] 0))) ::
  (nat_lit 1187, (o (t "tuple") (.seq #[(s "data" 2004), (s "position" 2005), (s "size" 2006), (s "signed" 2007)] 0))) ::
  (nat_lit 1188, (o (t "tuple") (.seq #[] 0))) ::
  (nat_lit 1190, (o (t "code") (.fields #[(s "_unpack" 2001), (s "_unpack" 2002), (s "/claim/cut.py" 2003), (i 802 0), (i 4 0), (i 0 0), (i 0 0), (i 3 0), (r 1185), (.bool true), (i 313 0), (r 1186), .none, (r 1187), (r 1188), (r 1189), (i 2008 0), (i 802 0), (s "/claim/cut.py" 2009)]))) ::
  (nat_lit 1191, (o (t "function") (fn (d 123) "_unpack" "_unpack" 3 [] .none .none .none (s "bson" 1959) none (r 1190) .none 0))) ::
  (nat_lit 1192, (o (t "tuple") (.seq #[] 0))) ::
  (nat_lit 1194, (o (t "tuple") (.seq #[(s "data" 2014), (s "position" 2015)] 0))) ::
  (nat_lit 1195, (o (t "tuple") (.seq #[] 0))) ::
  (nat_lit 1197, (o (t "code") (.fields #[(s "_UNPACK_INT_FROM" 2011), (s "_UNPACK_INT_FROM" 2012), (s "/claim/cut.py" 2013), (i 806 0), (i 2 0), (i 0 0), (i 0 0), (i 3 0), (r 1192), (.bool true), (i 313 0), (r 1193), .none, (r 1194), (r 1195), (r 1196), (i 2016 0), (i 806 0), (s "/claim/cut.py" 2017)]))) ::
  (nat_lit 1198, (o (t "function") (fn (d 124) "_UNPACK_INT_FROM" "_UNPACK_INT_FROM" 3 [] .none .none .none (s "bson" 1959) none (r 1197) .none 0))) ::
  (nat_lit 1199, (o (t "tuple") (.seq #[] 0))) ::
  (nat_lit 1201, (o (t "tuple") (.seq #[(s "data" 2022), (s "position" 2023)] 0))) ::
  (nat_lit 1202, (o (t "tuple") (.seq #[] 0))) ::
  (nat_lit 1204, (o (t "code") (.fields #[(s "_UNPACK_LENGTH_SUBTYPE_FROM" 2019), (s "_UNPACK_LENGTH_SUBTYPE_FROM" 2020), (s "/claim/cut.py" 2021), (i 808 0), (i 2 0), (i 0 0), (i 0 0), (i 3 0), (r 1199), (.bool true), (i 313 0), (r 1200), .none, (r 1201), (r 1202), (r 1203), (i 2024 0), (i 808 0), (s "/claim/cut.py" 2025)]))) ::
  (nat_lit 1205, (o (t "function") (fn (d 125) "_UNPACK_LENGTH_SUBTYPE_FROM" "_UNPACK_LENGTH_SUBTYPE_FROM" 3 [] .none .none .none (s "bson" 1959) none (r 1204) .none 0))) ::
  (nat_lit 1220, (o (t "tuple") (.seq #[] 0))) ::
  (nat_lit 1222, (o (t "tuple") (.seq #[(s "octets" 2046), (s "errors" 2047), (s "final" 2048)] 0))) ::
  (nat_lit 1223, (o (t "tuple") (.seq #[] 0))) ::
  (nat_lit 1225, (o (t "code") (.fields #[(s "_utf_8_decode" 2043), (s "_utf_8_decode" 2044), (s "/claim/cut.py" 2045), (i 814 0), (i 3 0), (i 0 0), (i 0 0), (i 3 0), (r 1220), (.bool true), (i 313 0), (r 1221), .none, (r 1222), (r 1223), (r 1224), (i 2049 0), (i 814 0), (s "/claim/cut.py" 2050)]))) ::
  (nat_lit 1226, (o (t "function") (fn (d 128) "_utf_8_decode" "_utf_8_decode" 3 [] .none .none .none (s "bson" 1959) none (r 1225) .none 0))) ::
  (nat_lit 1227, (o (t "tuple") (.seq #[] 0))) ::
  (nat_lit 1229, (o (t "tuple") (.seq #[(s "string" 2055)] 0))) ::
  (nat_lit 1230, (o (t "tuple") (.seq #[] 0))) ::
  (nat_lit 1232, (o (t "code") (.fields #[(s "_utf_8_encode" 2052), (s "_utf_8_encode" 2053), (s "/claim/cut.py" 2054), (i 816 0), (i 1 0), (i 0 0), (i 0 0), (i 3 0), (r 1227), (.bool true), (i 313 0), (r 1228), .none, (r 1229), (r 1230), (r 1231), (i 2056 0), (i 816 0), (s "/claim/cut.py" 2057)]))) ::
  (nat_lit 1233, (o (t "function") (fn (d 129) "_utf_8_encode" "_utf_8_encode" 3 [] .none .none .none (s "bson" 1959) none (r 1232) .none 0))) ::
  (nat_lit 1234, (o (t "tuple") (.seq #[] 0))) ::
  (nat_lit 1236, (o (t "tuple") (.seq #[(s "data" 2062), (s "position" 2063), (s "k" 2064)] 0))) ::
  (nat_lit 1237, (o (t "tuple") (.seq #[] 0))) ::
  (nat_lit 1239, (o (t "code") (.fields #[(s "_index_nul" 2059), (s "_index_nul" 2060), (s "/claim/cut.py" 2061), (i 818 0), (i 2 0), (i 0 0), (i 0 0), (i 3 0), (r 1234), (.bool true), (i 313 0), (r 1235), .none, (r 1236), (r 1237), (r 1238), (i 2065 0), (i 818 0), (s "/claim/cut.py" 2066)]))) ::
  (nat_lit 1240, (o (t "function") (fn (d 130) "_index_nul" "_index_nul" 3 [] .none .none .none (s "bson" 1959) none (r 1239) .none 0))) ::
  (nat_lit 1241, (o (t "tuple") (.seq #[] 0))) ::
  (nat_lit 1243, (o (t "tuple") (.seq #[(s "data" 2071)] 0))) ::
  (nat_lit 1244, (o (t "tuple") (.seq #[] 0))) ::
  (nat_lit 1246, (o (t "code") (.fields #[(s "get_data_and_view" 2068), (s "get_data_and_view" 2069), (s "/claim/cut.py" 2070), (i 823 0), (i 1 0), (i 0 0), (i 0 0), (i 3 0), (r 1241), (.bool true), (i 313 0), (r 1242), .none, (r 1243), (r 1244), (r 1245), (i 2072 0), (i 823 0), (s "/claim/cut.py" 2073)]))) ::
  (nat_lit 1247, (o (t "function") (fn (d 131) "get_data_and_view" "get_data_and_view" 3 [] .none .none .none (s "bson" 1959) none (r 1246) .none 0))) ::
  (nat_lit 1262, (o (t "tuple") (.seq #[] 0))) ::
  (nat_lit 1264, (o (t "tuple") (.seq #[(s "data" 2098), (s "view" 2099), (s "position" 2100), (s "opts" 2101), (s "end" 2102)] 0))) ::
  (nat_lit 1265, (o (t "tuple") (.seq #[] 0))) ::
  (nat_lit 1267, (o (t "code") (.fields #[(s "_get_c_string" 2095), (s "_get_c_string" 2096), (s "/claim/cut.py" 2097), (i 829 0), (i 4 0), (i 0 0), (i 0 0), (i 3 0), (r 1262), (.bool true), (i 313 0), (r 1263), .none, (r 1264), (r 1265), (r 1266), (i 2103 0), (i 829 0), (s "/claim/cut.py" 2104)]))) ::
  (nat_lit 1268, (o (t "function") (fn (d 134) "_get_c_string" "_get_c_string" 3 [] .none .none .none (s "bson" 1959) none (r 1267) .none 0))) ::
  (nat_lit 1276, (o (t "tuple") (.seq #[] 0))) ::
  (nat_lit 1278, (o (t "tuple") (.seq #[(s "data" 2123), (s "position" 2124), (s "obj_end" 2125), (s "obj_size" 2126), (s "exc" 2127), (s "end" 2128)] 0))) ::
  (nat_lit 1279, (o (t "tuple") (.seq #[] 0))) ::
  (nat_lit 1281, (o (t "code") (.fields #[(s "_get_object_size" 2120), (s "_get_object_size" 2121), (s "/claim/cut.py" 2122), (i 841 0), (i 3 0), (i 0 0), (i 0 0), (i 3 0), (r 1276), (.bool true), (i 313 0), (r 1277), .none, (r 1278), (r 1279), (r 1280), (i 2129 0), (i 841 0), (s "/claim/cut.py" 2130)]))) ::
  (nat_lit 1282, (o (t "function") (fn (d 136) "_get_object_size" "_get_object_size" 3 [] .none .none .none (s "bson" 1959) none (r 1281) .none 0))) ::
  (nat_lit 1297, (o (t "tuple") (.seq #[] 0))) ::
  (nat_lit 1299, (o (t "tuple") (.seq #[(s "data" 2168), (s "_view" 2169), (s "position" 2170), (s "obj_end" 2171), (s "opts" 2172), (s "dummy1" 2173), (s "length" 2174), (s "subtype" 2175), (s "length2" 2176), (s "end" 2177), (s "uuid_rep" 2178), (s "binary_value" 2179), (s "value" 2180)] 0))) ::
  (nat_lit 1300, (o (t "tuple") (.seq #[] 0))) ::
  (nat_lit 1302, (o (t "code") (.fields #[(s "_get_binary" 2165), (s "_get_binary" 2166), (s "/claim/cut.py" 2167), (i 881 0), (i 6 0), (i 0 0), (i 0 0), (i 3 0), (r 1297), (.bool true), (i 313 0), (r 1298), .none, (r 1299), (r 1300), (r 1301), (i 2181 0), (i 881 0), (s "/claim/cut.py" 2182)]))) ::
  (nat_lit 1303, (o (t "function") (fn (d 139) "_get_binary" "_get_binary" 3 [] .none .none .none (s "bson" 1959) none (r 1302) .none 0))) ::
  (nat_lit 1374, (o (t "dict") (.dict #[(en 2 (i 2 2319) (r 1275)), (en 3 (i 3 2321) (r 1289)), (en 4 (i 4 2323) (r 1296)), (en 5 (i 5 2325) (r 1303)), (en 6 (i 6 2327) (r 1381)), (en 7 (i 7 2340) (r 1310)), (en 8 (i 8 2342) (r 1317)), (en 9 (i 9 2344) (r 1324)), (en 10 (i 10 2346) (r 1388)), (en 11 (i 11 2359) (r 1345)), (en 12 (i 12 2361) (r 1352)), (en 13 (i 13 2363) (r 1331)), (en 14 (i 14 2365) (r 1275)), (en 15 (i 15 2367) (r 1338)), (en 16 (i 16 2369) (r 1261)), (en 17 (i 17 2371) (r 1359)), (en 18 (i 18 2373) (r 1366)), (en 19 (i 19 2375) (r 1373)), (en 255 (i 255 2376) (r 1396)), (en 127 (i 127 2388) (r 1403))] 20))) ::
  (nat_lit 1404, (o (t "tuple") (.seq #[] 0))) ::
  (nat_lit 1406, (o (t "tuple") (.seq #[(s "data" 2407), (s "view" 2408), (s "position" 2409), (s "obj_end" 2410), (s "opts" 2411), (s "element_type" 2412), (s "element_name" 2413), (s "value" 2414)] 0))) ::
  (nat_lit 1407, (o (t "tuple") (.seq #[] 0))) ::
  (nat_lit 1409, (o (t "code") (.fields #[(s "_element_to_dict" 2404), (s "_element_to_dict" 2405), (s "/claim/cut.py" 2406), (i 949 0), (i 5 0), (i 0 0), (i 0 0), (i 3 0), (r 1404), (.bool true), (i 313 0), (r 1405), .none, (r 1406), (r 1407), (r 1408), (i 2415 0), (i 949 0), (s "/claim/cut.py" 2416)]))) ::
  (nat_lit 1410, (o (t "function") (fn (d 151) "_element_to_dict" "_element_to_dict" 3 [] .none .none .none (s "bson" 1959) none (r 1409) .none 0))) ::
  (nat_lit 1411, (o (t "tuple") (.seq #[] 0))) ::
  (nat_lit 1413, (o (t "tuple") (.seq #[(s "data" 2421), (s "view" 2422), (s "position" 2423), (s "obj_end" 2424), (s "opts" 2425), (s "result" 2426), (s "end" 2427), (s "key" 2428), (s "value" 2429)] 0))) ::
  (nat_lit 1414, (o (t "tuple") (.seq #[] 0))) ::
  (nat_lit 1416, (o (t "code") (.fields #[(s "_elements_to_dict" 2418), (s "_elements_to_dict" 2419), (s "/claim/cut.py" 2420), (i 958 0), (i 5 0), (i 0 0), (i 0 0), (i 3 0), (r 1411), (.bool true), (i 313 0), (r 1412), .none, (r 1413), (r 1414), (r 1415), (i 2430 0), (i 958 0), (s "/claim/cut.py" 2431)]))) ::
  (nat_lit 1417, (o (t "function") (fn (d 152) "_elements_to_dict" "_elements_to_dict" 3 [] .none .none .none (s "bson" 1959) none (r 1416) .none 0))) ::
  (nat_lit 1418, (o (t "tuple") (.seq #[] 0))) ::
  (nat_lit 1420, (o (t "tuple") (.seq #[(s "data" 2436), (s "opts" 2437), (s "view" 2438), (s "_" 2439), (s "end" 2440), (s "exc" 2441)] 0))) ::
  (nat_lit 1421, (o (t "tuple") (.seq #[] 0))) ::
  (nat_lit 1423, (o (t "code") (.fields #[(s "_bson_to_dict" 2433), (s "_bson_to_dict" 2434), (s "/claim/cut.py" 2435), (i 967 0), (i 2 0), (i 0 0), (i 0 0), (i 3 0), (r 1418), (.bool true), (i 313 0), (r 1419), .none, (r 1420), (r 1421), (r 1422), (i 2442 0), (i 967 0), (s "/claim/cut.py" 2443)]))) ::
  (nat_lit 1424, (o (t "function") (fn (d 153) "_bson_to_dict" "_bson_to_dict" 3 [] .none .none .none (s "bson" 1959) none (r 1423) .none 0))) ::
  (nat_lit 1425, (o (t "tuple") (.seq #[] 0))) ::
  (nat_lit 1427, (o (t "tuple") (.seq #[(s "value" 2448)] 0))) ::
  (nat_lit 1428, (o (t "tuple") (.seq #[] 0))) ::
  (nat_lit 1430, (o (t "code") (.fields #[(s "_PACK_INT" 2445), (s "_PACK_INT" 2446), (s "/claim/cut.py" 2447), (i 976 0), (i 1 0), (i 0 0), (i 0 0), (i 3 0), (r 1425), (.bool true), (i 313 0), (r 1426), .none, (r 1427), (r 1428), (r 1429), (i 2449 0), (i 976 0), (s "/claim/cut.py" 2450)]))) ::
  (nat_lit 1431, (o (t "function") (fn (d 154) "_PACK_INT" "_PACK_INT" 3 [] .none .none .none (s "bson" 1959) none (r 1430) .none 0))) ::
  (nat_lit 1467, (o (t "tuple") (.seq #[] 0))) ::
  (nat_lit 1469, (o (t "tuple") (.seq #[(s "string" 2492)] 0))) ::
  (nat_lit 1470, (o (t "tuple") (.seq #[] 0))) ::
  (nat_lit 1472, (o (t "code") (.fields #[(s "_make_name" 2489), (s "_make_name" 2490), (s "/claim/cut.py" 2491), (i 1008 0), (i 1 0), (i 0 0), (i 0 0), (i 3 0), (r 1467), (.bool true), (i 313 0), (r 1468), .none, (r 1469), (r 1470), (r 1471), (i 2493 0), (i 1008 0), (s "/claim/cut.py" 2494)]))) ::
  (nat_lit 1473, (o (t "function") (fn (d 160) "_make_name" "_make_name" 3 [] .none .none .none (s "bson" 1959) none (r 1472) .none 0))) ::
  (nat_lit 1474, (o (t "tuple") (.seq #[] 0))) ::
  (nat_lit 1476, (o (t "tuple") (.seq #[(s "name" 2499), (s "value" 2500), (s "dummy0" 2501), (s "dummy1" 2502)] 0))) ::
  (nat_lit 1477, (o (t "tuple") (.seq #[] 0))) ::
  (nat_lit 1479, (o (t "code") (.fields #[(s "_encode_bytes" 2496), (s "_encode_bytes" 2497), (s "/claim/cut.py" 2498), (i 1012 0), (i 4 0), (i 0 0), (i 0 0), (i 3 0), (r 1474), (.bool true), (i 313 0), (r 1475), .none, (r 1476), (r 1477), (r 1478), (i 2503 0), (i 1012 0), (s "/claim/cut.py" 2504)]))) ::
  (nat_lit 1480, (o (t "function") (fn (d 161) "_encode_bytes" "_encode_bytes" 3 [] .none .none .none (s "bson" 1959) none (r 1479) .none 0))) ::
  (nat_lit 1603, (o (t "tuple") (.seq #[(.bool false)] 0))) ::
  (nat_lit 1604, (o (t "tuple") (.seq #[] 0))) ::
  (nat_lit 1606, (o (t "tuple") (.seq #[(s "name" 2696), (s "value" 2697), (s "check_keys" 2698), (s "opts" 2699), (s "in_fallback_call" 2700), (s "was_integer_overflow" 2701), (s "fallback_encoder" 2702)] 0))) ::
  (nat_lit 1607, (o (t "tuple") (.seq #[] 0))) ::
  (nat_lit 1609, (o (t "code") (.fields #[(s "_name_value_to_bson" 2693), (s "_name_value_to_bson" 2694), (s "/claim/cut.py" 2695), (i 1105 0), (i 5 0), (i 0 0), (i 0 0), (i 3 0), (r 1604), (.bool true), (i 313 0), (r 1605), .none, (r 1606), (r 1607), (r 1608), (i 2703 0), (i 1105 0), (s "/claim/cut.py" 2704)]))) ::
  (nat_lit 1610, (o (t "function") (fn (d 180) "_name_value_to_bson" "_name_value_to_bson" 3 [] (r 1603) .none .none (s "bson" 1959) none (r 1609) .none 0))) ::
  (nat_lit 1611, (o (t "tuple") (.seq #[] 0))) ::
  (nat_lit 1613, (o (t "tuple") (.seq #[(s "key" 2709), (s "value" 2710), (s "check_keys" 2711), (s "opts" 2712), (s "name" 2713)] 0))) ::
  (nat_lit 1614, (o (t "tuple") (.seq #[] 0))) ::
  (nat_lit 1616, (o (t "code") (.fields #[(s "_element_to_bson" 2706), (s "_element_to_bson" 2707), (s "/claim/cut.py" 2708), (i 1154 0), (i 4 0), (i 0 0), (i 0 0), (i 3 0), (r 1611), (.bool true), (i 313 0), (r 1612), .none, (r 1613), (r 1614), (r 1615), (i 2714 0), (i 1154 0), (s "/claim/cut.py" 2715)]))) ::
  (nat_lit 1617, (o (t "function") (fn (d 181) "_element_to_bson" "_element_to_bson" 3 [] .none .none .none (s "bson" 1959) none (r 1616) .none 0))) ::
  (nat_lit 1618, (o (t "tuple") (.seq #[(.bool true)] 0))) ::
  (nat_lit 1619, (o (t "tuple") (.seq #[] 0))) ::
  (nat_lit 1621, (o (t "tuple") (.seq #[(s "doc" 2720), (s "check_keys" 2721), (s "opts" 2722), (s "top_level" 2723), (s "elements" 2724), (s "key" 2725), (s "value" 2726), (s "err" 2727), (s "encoded" 2728)] 0))) ::
  (nat_lit 1622, (o (t "tuple") (.seq #[] 0))) ::
  (nat_lit 1624, (o (t "code") (.fields #[(s "_dict_to_bson" 2717), (s "_dict_to_bson" 2718), (s "/claim/cut.py" 2719), (i 1164 0), (i 4 0), (i 0 0), (i 0 0), (i 3 0), (r 1619), (.bool true), (i 313 0), (r 1620), .none, (r 1621), (r 1622), (r 1623), (i 2729 0), (i 1164 0), (s "/claim/cut.py" 2730)]))) ::
  (nat_lit 1625, (o (t "function") (fn (d 182) "_dict_to_bson" "_dict_to_bson" 3 [] (r 1618) .none .none (s "bson" 1959) none (r 1624) .none 0))) ::
  (nat_lit 1626, (o (t "tuple") (.seq #[(.bool false), (r 422)] 0))) ::
  (nat_lit 1627, (o (t "tuple") (.seq #[] 0))) ::
  (nat_lit 1629, (o (t "tuple") (.seq #[(s "document" 2735), (s "check_keys" 2736), (s "codec_options" 2737)] 0))) ::
  (nat_lit 1630, (o (t "tuple") (.seq #[] 0))) ::
  (nat_lit 1632, (o (t "code") (.fields #[(s "encode" 2732), (s "encode" 2733), (s "/claim/cut.py" 2734), (i 1178 0), (i 3 0), (i 0 0), (i 0 0), (i 3 0), (r 1627), (.bool true), (i 313 0), (r 1628), .none, (r 1629), (r 1630), (r 1631), (i 2738 0), (i 1178 0), (s "/claim/cut.py" 2739)]))) ::
  (nat_lit 1633, (o (t "function") (fn (d 183) "encode" "encode" 3 [] (r 1626) .none .none (s "bson" 1959) none (r 1632) .none 0))) ::
  (nat_lit 1634, (o (t "tuple") (.seq #[.none] 0))) ::
  (nat_lit 1635, (o (t "tuple") (.seq #[] 0))) ::
  (nat_lit 1637, (o (t "tuple") (.seq #[(s "data" 2744), (s "codec_options" 2745), (s "opts" 2746)] 0))) ::
  (nat_lit 1638, (o (t "tuple") (.seq #[] 0))) ::
  (nat_lit 1640, (o (t "code") (.fields #[(s "decode" 2741), (s "decode" 2742), (s "/claim/cut.py" 2743), (i 1182 0), (i 2 0), (i 0 0), (i 0 0), (i 3 0), (r 1635), (.bool true), (i 313 0), (r 1636), .none, (r 1637), (r 1638), (r 1639), (i 2747 0), (i 1182 0), (s "/claim/cut.py" 2748)]))) ::
  (nat_lit 1641, (o (t "function") (fn (d 184) "decode" "decode" 3 [] (r 1634) .none .none (s "bson" 1959) none (r 1640) .none 0))) ::
  (nat_lit 1642, (o (t "tuple") (.seq #[.none] 0))) ::
  (nat_lit 1643, (o (t "tuple") (.seq #[] 0))) ::
  (nat_lit 1645, (o (t "tuple") (.seq #[(s "write" 2755), (s "value" 2756), (s "unused_deterministic" 2757), (s "bits" 2758)] 0))) ::
  (nat_lit 1646, (o (t "tuple") (.seq #[] 0))) ::
  (nat_lit 1648, (o (t "code") (.fields #[(s "_EncodeVarint" 2752), (s "_EncodeVarint" 2753), (s "/claim/cut.py" 2754), (i 1188 0), (i 3 0), (i 0 0), (i 0 0), (i 3 0), (r 1643), (.bool true), (i 313 0), (r 1644), .none, (r 1645), (r 1646), (r 1647), (i 2759 0), (i 1188 0), (s "/claim/cut.py" 2760)]))) ::
  (nat_lit 1649, (o (t "function") (fn (d 186) "_EncodeVarint" "_EncodeVarint" 3 [] (r 1642) .none .none (s "google.protobuf.internal.encoder" 2750) none (r 1648) .none 0))) ::
  (nat_lit 1650, (o (t "tuple") (.seq #[] 0))) ::
  (nat_lit 1652, (o (t "tuple") (.seq #[(s "value" 2765)] 0))) ::
  (nat_lit 1653, (o (t "tuple") (.seq #[(s "pieces" 2766)] 0))) ::
  (nat_lit 1655, (o (t "code") (.fields #[(s "_VarintBytes" 2762), (s "_VarintBytes" 2763), (s "/claim/cut.py" 2764), (i 1196 0), (i 1 0), (i 0 0), (i 0 0), (i 3 0), (r 1650), (.bool true), (i 313 0), (r 1651), .none, (r 1652), (r 1653), (r 1654), (i 2767 0), (i 1196 0), (s "/claim/cut.py" 2768)]))) ::
  (nat_lit 1656, (o (t "function") (fn (d 187) "_VarintBytes" "_VarintBytes" 3 [] .none .none .none (s "google.protobuf.internal.encoder" 2750) none (r 1655) .none 0))) ::
  (nat_lit 1657, (o (t "tuple") (.seq #[] 0))) ::
  (nat_lit 1659, (o (t "tuple") (.seq #[(s "field_number" 2773), (s "wire_type" 2774)] 0))) ::
  (nat_lit 1660, (o (t "tuple") (.seq #[] 0))) ::
  (nat_lit 1662, (o (t "code") (.fields #[(s "TagBytes" 2770), (s "TagBytes" 2771), (s "/claim/cut.py" 2772), (i 1200 0), (i 2 0), (i 0 0), (i 0 0), (i 3 0), (r 1657), (.bool true), (i 313 0), (r 1658), .none, (r 1659), (r 1660), (r 1661), (i 2775 0), (i 1200 0), (s "/claim/cut.py" 2776)]))) ::
  (nat_lit 1663, (o (t "function") (fn (d 188) "TagBytes" "TagBytes" 3 [] .none .none .none (s "google.protobuf.internal.encoder" 2750) none (r 1662) .none 0))) ::
  (nat_lit 1664, (o (t "tuple") (.seq #[(t "Exception")] 0))) ::
  (nat_lit 1671, (o (t "tuple") (.seq #[] 0))) ::
  (nat_lit 1672, (o (t "dict") (.dict #[(er P ⟨#[95, 95, 109, 111, 100, 117, 108, 101, 95, 95]⟩ 2787 (s "rlp.exceptions" 2778)), (er P ⟨#[95, 95, 102, 105, 114, 115, 116, 108, 105, 110, 101, 110, 111, 95, 95]⟩ 2791 (i 1203 2790)), (er P ⟨#[95, 95, 115, 116, 97, 116, 105, 99, 95, 97, 116, 116, 114, 105, 98, 117, 116, 101, 115, 95, 95]⟩ 2792 (r 1671)), (er P ⟨#[95, 95, 119, 101, 97, 107, 114, 101, 102, 95, 95]⟩ 2794 (r 1674)), (er P ⟨#[95, 95, 100, 111, 99, 95, 95]⟩ 2795 .none)] 3))) ::
  (nat_lit 1673, (oo (t "type") none (.cls ⟨n "RLPException", [(t "Exception")], [(r 1673), (t "Exception"), (t "BaseException"), (t "object")], 1672, n "RLPException", true, [], [(r 1695), (r 1716)], false, none, false⟩) #[(some (r 1664)), none, (some (s "RLPException" 2780)), (some (s "RLPException" 2788)), (some (b "Exception.__new__")), (some (.bool true))])) ::
  (nat_lit 1674, (o (t "getset_descriptor") (.fields #[(.str ⟨#[95, 95, 119, 101, 97, 107, 114, 101, 102, 95, 95]⟩ 2793), (r 1673), (b "ExceptionGroup.__weakref__"), .none]))) ::
  (nat_lit 1698, (o (t "tuple") (.seq #[(r 1673)] 0))) ::
  (nat_lit 1701, (o (t "cell") (.cell (some (r 1716))))) ::
  (nat_lit 1706, (o (t "tuple") (.seq #[(r 1701)] 0))) ::
  (nat_lit 1707, (o (t "tuple") (.seq #[(s "__class__" 2843)] 0))) ::
  (nat_lit 1709, (o (t "tuple") (.seq #[(s "self" 2844), (s "message" 2845), (s "rlp" 2846)] 0))) ::
  (nat_lit 1710, (o (t "tuple") (.seq #[] 0))) ::
  (nat_lit 1712, (o (t "code") (.fields #[(s "__init__" 2840), (s "DecodingError.__init__" 2841), (s "/claim/cut.py" 2842), (i 1212 0), (i 3 0), (i 0 0), (i 0 0), (i 3 0), (r 1707), (.bool true), (i 313 0), (r 1708), .none, (r 1709), (r 1710), (r 1711), (i 2847 0), (i 1212 0), (s "/claim/cut.py" 2848)]))) ::
  (nat_lit 1713, (o (t "function") (fn (m (d 192) 0) "__init__" "DecodingError.__init__" 3 [(n "__class__", 1701)] .none .none .none (s "rlp.exceptions" 2778) none (r 1712) (r 1706) 0))) ::
  (nat_lit 1714, (o (t "tuple") (.seq #[(s "rlp" 2850)] 0))) ::
  (nat_lit 1715, (o (t "dict") (.dict #[(er P ⟨#[95, 95, 109, 111, 100, 117, 108, 101, 95, 95]⟩ 2835 (s "rlp.exceptions" 2778)), (er P ⟨#[95, 95, 102, 105, 114, 115, 116, 108, 105, 110, 101, 110, 111, 95, 95]⟩ 2839 (i 1210 2838)), (e P "__init__" 2849 (r 1713)), (er P ⟨#[95, 95, 115, 116, 97, 116, 105, 99, 95, 97, 116, 116, 114, 105, 98, 117, 116, 101, 115, 95, 95]⟩ 2851 (r 1714)), (er P ⟨#[95, 95, 100, 111, 99, 95, 95]⟩ 2853 .none)] 3))) ::
  (nat_lit 1716, (oo (t "type") none (.cls ⟨n "DecodingError", [(r 1673)], [(r 1716), (r 1673), (t "Exception"), (t "BaseException"), (t "object")], 1715, n "DecodingError", true, [], [], false, none, false⟩) #[(some (r 1698)), none, (some (s "DecodingError" 2828)), (some (s "DecodingError" 2836)), (some (b "Exception.__new__")), (some (.bool true))])) ::
  (nat_lit 1731, (o (t "tuple") (.seq #[(y [0] 2872), (y [1] 2876), (y [2] 2880), (y [3] 2884), (y [4] 2888), (y [5] 2892), (y [6] 2896), (y [7] 2900), (y [8] 2904), (y [9] 2908), (y [10] 2912), (y [11] 2916), (y [12] 2920), (y [13] 2924), (y [14] 2928), (y [15] 2932), (y [16] 2936), (y [17] 2940), (y [18] 2944), (y [19] 2948), (y [20] 2952), (y [21] 2956), (y [22] 2960), (y [23] 2964), (y [24] 2968), (y [25] 2972), (y [26] 2976), (y [27] 2980), (y [28] 2984), (y [29] 2988), (y [30] 2992), (y [31] 2996), (y [32] 3000), (y [33] 3004), (y [34] 3008), (y [35] 3012), (y [36] 3016), (y [37] 3020), (y [38] 3024), (y [39] 3028), (y [40] 3032), (y [41] 3036), (y [42] 3040), (y [43] 3044), (y [44] 3048), (y [45] 3052), (y [46] 3056), (y [47] 3060), (y [48] 3064), (y [49] 3068), (y [50] 3072), (y [51] 3076), (y [52] 3080), (y [53] 3084), (y [54] 3088), (y [55] 3092), (y [56] 3096), (y [57] 3100), (y [58] 3104), (y [59] 3108), (y [60] 3112), (y [61] 3116), (y [62] 3120), (y [63] 3124), (y [64] 3128), (y [65] 3132), (y [66] 3136), (y [67] 3140), (y [68] 3144), (y [69] 3148), (y [70] 3152), (y [71] 3156), (y [72] 3160), (y [73] 3164), (y [74] 3168), (y [75] 3172), (y [76] 3176), (y [77] 3180), (y [78] 3184), (y [79] 3188), (y [80] 3192), (y [81] 3196), (y [82] 3200), (y [83] 3204), (y [84] 3208), (y [85] 3212), (y [86] 3216), (y [87] 3220), (y [88] 3224), (y [89] 3228), (y [90] 3232), (y [91] 3236), (y [92] 3240), (y [93] 3244), (y [94] 3248), (y [95] 3252), (y [96] 3256), (y [97] 3260), (y [98] 3264), (y [99] 3268), (y [100] 3272), (y [101] 3276), (y [102] 3280), (y [103] 3284), (y [104] 3288), (y [105] 3292), (y [106] 3296), (y [107] 3300), (y [108] 3304), (y [109] 3308), (y [110] 3312), (y [111] 3316), (y [112] 3320), (y [113] 3324), (y [114] 3328), (y [115] 3332), (y [116] 3336), (y [117] 3340), (y [118] 3344), (y [119] 3348), (y [120] 3352), (y [121] 3356), (y [122] 3360), (y [123] 3364), (y [124] 3368), (y [125] 3372), (y [126] 3376), (y [127] 3380), (y [128] 3384), (y [129] 3388), (y [130] 3392), (y [131] 3396), (y [132] 3400), (y [133] 3404), (y [134] 3408), (y [135] 3412), (y [136] 3416), (y [137] 3420), (y [138] 3424), (y [139] 3428), (y [140] 3432), (y [141] 3436), (y [142] 3440), (y [143] 3444), (y [144] 3448), (y [145] 3452), (y [146] 3456), (y [147] 3460), (y [148] 3464), (y [149] 3468), (y [150] 3472), (y [151] 3476), (y [152] 3480), (y [153] 3484), (y [154] 3488), (y [155] 3492), (y [156] 3496), (y [157] 3500), (y [158] 3504), (y [159] 3508), (y [160] 3512), (y [161] 3516), (y [162] 3520), (y [163] 3524), (y [164] 3528), (y [165] 3532), (y [166] 3536), (y [167] 3540), (y [168] 3544), (y [169] 3548), (y [170] 3552), (y [171] 3556), (y [172] 3560), (y [173] 3564), (y [174] 3568), (y [175] 3572), (y [176] 3576), (y [177] 3580), (y [178] 3584), (y [179] 3588), (y [180] 3592), (y [181] 3596), (y [182] 3600), (y [183] 3604), (y [184] 3608), (y [185] 3612), (y [186] 3616), (y [187] 3620), (y [188] 3624), (y [189] 3628), (y [190] 3632), (y [191] 3636), (y [192] 3640), (y [193] 3644), (y [194] 3648), (y [195] 3652), (y [196] 3656), (y [197] 3660), (y [198] 3664), (y [199] 3668), (y [200] 3672), (y [201] 3676), (y [202] 3680), (y [203] 3684), (y [204] 3688), (y [205] 3692), (y [206] 3696), (y [207] 3700), (y [208] 3704), (y [209] 3708), (y [210] 3712), (y [211] 3716), (y [212] 3720), (y [213] 3724), (y [214] 3728), (y [215] 3732), (y [216] 3736), (y [217] 3740), (y [218] 3744), (y [219] 3748), (y [220] 3752), (y [221] 3756), (y [222] 3760), (y [223] 3764), (y [224] 3768), (y [225] 3772), (y [226] 3776), (y [227] 3780), (y [228] 3784), (y [229] 3788), (y [230] 3792), (y [231] 3796), (y [232] 3800), (y [233] 3804), (y [234] 3808), (y [235] 3812), (y [236] 3816), (y [237] 3820), (y [238] 3824), (y [239] 3828), (y [240] 3832), (y [241] 3836), (y [242] 3840), (y [243] 3844), (y [244] 3848), (y [245] 3852), (y [246] 3856), (y [247] 3860), (y [248] 3864), (y [249] 3868), (y [250] 3872), (y [251] 3876), (y [252] 3880), (y [253] 3884), (y [254] 3888), (y [255] 3892)] 0))) ::
  (nat_lit 1732, (o (t "tuple") (.seq #[(t "bytes"), (t "bytearray")] 0))) ::
  (nat_lit 1747, (o (t "tuple") (.seq #[] 0))) ::
  (nat_lit 1749, (o (t "tuple") (.seq #[(s "item" 3914), (s "payload" 3915), (s "prefix_offset" 3916), (s "msg" 3917), (s "prefix" 3918)] 0))) ::
  (nat_lit 1750, (o (t "tuple") (.seq #[] 0))) ::
  (nat_lit 1752, (o (t "code") (.fields #[(s "encode_raw" 3911), (s "encode_raw" 3912), (s "/claim/cut.py" 3913), (i 1223 0), (i 1 0), (i 0 0), (i 0 0), (i 3 0), (r 1747), (.bool true), (i 313 0), (r 1748), .none, (r 1749), (r 1750), (r 1751), (i 3919 0), (i 1223 0), (s "/claim/cut.py" 3920)]))) ::
  (nat_lit 1753, (o (t "function") (fn (d 199) "encode_raw" "encode_raw" 3 [] .none .none .none (s "rlp.codec" 3909) none (r 1752) .none 0))) ::
  (nat_lit 1754, (o (t "tuple") (.seq #[] 0))) ::
  (nat_lit 1756, (o (t "tuple") (.seq #[(s "length" 3929), (s "offset" 3930), (s "length_string" 3931)] 0))) ::
  (nat_lit 1757, (o (t "tuple") (.seq #[] 0))) ::
  (nat_lit 1759, (o (t "code") (.fields #[(s "length_prefix" 3926), (s "length_prefix" 3927), (s "/claim/cut.py" 3928), (i 1241 0), (i 2 0), (i 0 0), (i 0 0), (i 3 0), (r 1754), (.bool true), (i 313 0), (r 1755), .none, (r 1756), (r 1757), (r 1758), (i 3932 0), (i 1241 0), (s "/claim/cut.py" 3933)]))) ::
  (nat_lit 1760, (o (t "function") (fn (d 201) "length_prefix" "length_prefix" 3 [] .none .none .none (s "rlp.codec" 3909) none (r 1759) .none 0))) ::
  (nat_lit 1761, (o (t "tuple") (.seq #[] 0))) ::
  (nat_lit 1763, (o (t "tuple") (.seq #[(s "rlp" 3942), (s "start" 3943), (s "b0" 3944), (s "ll" 3945), (s "len_prefix" 3946), (s "l" 3947)] 0))) ::
  (nat_lit 1764, (o (t "tuple") (.seq #[] 0))) ::
  (nat_lit 1766, (o (t "code") (.fields #[(s "consume_length_prefix" 3939), (s "consume_length_prefix" 3940), (s "/claim/cut.py" 3941), (i 1250 0), (i 2 0), (i 0 0), (i 0 0), (i 3 0), (r 1761), (.bool true), (i 313 0), (r 1762), .none, (r 1763), (r 1764), (r 1765), (i 3948 0), (i 1250 0), (s "/claim/cut.py" 3949)]))) ::
  (nat_lit 1767, (o (t "function") (fn (d 203) "consume_length_prefix" "consume_length_prefix" 3 [] .none .none .none (s "rlp.codec" 3909) none (r 1766) .none 0))) ::
  (nat_lit 1768, (o (t "tuple") (.seq #[] 0))) ::
  (nat_lit 1770, (o (t "tuple") (.seq #[(s "rlp" 3954), (s "prefix" 3955), (s "start" 3956), (s "type_" 3957), (s "length" 3958), (s "item" 3959), (s "items" 3960), (s "per_item_rlp" 3961), (s "list_rlp" 3962), (s "next_item_start" 3963), (s "end" 3964), (s "p" 3965), (s "t" 3966), (s "l" 3967), (s "s" 3968), (s "item_rlp" 3969)] 0))) ::
  (nat_lit 1771, (o (t "tuple") (.seq #[] 0))) ::
  (nat_lit 1773, (o (t "code") (.fields #[(s "consume_payload" 3951), (s "consume_payload" 3952), (s "/claim/cut.py" 3953), (i 1278 0), (i 5 0), (i 0 0), (i 0 0), (i 3 0), (r 1768), (.bool true), (i 313 0), (r 1769), .none, (r 1770), (r 1771), (r 1772), (i 3970 0), (i 1278 0), (s "/claim/cut.py" 3971)]))) ::
  (nat_lit 1774, (o (t "function") (fn (d 204) "consume_payload" "consume_payload" 3 [] .none .none .none (s "rlp.codec" 3909) none (r 1773) .none 0))) ::
  (nat_lit 1775, (o (t "tuple") (.seq #[] 0))) ::
  (nat_lit 1777, (o (t "tuple") (.seq #[(s "rlp" 3976), (s "start" 3977), (s "p" 3978), (s "t" 3979), (s "l" 3980), (s "s" 3981)] 0))) ::
  (nat_lit 1778, (o (t "tuple") (.seq #[] 0))) ::
  (nat_lit 1780, (o (t "code") (.fields #[(s "consume_item" 3973), (s "consume_item" 3974), (s "/claim/cut.py" 3975), (i 1300 0), (i 2 0), (i 0 0), (i 0 0), (i 3 0), (r 1775), (.bool true), (i 313 0), (r 1776), .none, (r 1777), (r 1778), (r 1779), (i 3982 0), (i 1300 0), (s "/claim/cut.py" 3983)]))) ::
  (nat_lit 1781, (o (t "function") (fn (d 205) "consume_item" "consume_item" 3 [] .none .none .none (s "rlp.codec" 3909) none (r 1780) .none 0))) ::
  (nat_lit 1782, (o (t "tuple") (.seq #[] 0))) ::
  (nat_lit 1784, (o (t "tuple") (.seq #[(s "script" 3990), (s "k" 3991), (s "other" 3992)] 0))) ::
  (nat_lit 1785, (o (t "tuple") (.seq #[] 0))) ::
  (nat_lit 1787, (o (t "code") (.fields #[(s "_law_at" 3987), (s "_law_at" 3988), (s "/claim/cut.py" 3989), (i 1304 0), (i 3 0), (i 0 0), (i 0 0), (i 3 0), (r 1782), (.bool true), (i 313 0), (r 1783), .none, (r 1784), (r 1785), (r 1786), (i 3993 0), (i 1304 0), (s "/claim/cut.py" 3994)]))) ::
  (nat_lit 1788, (o (t "function") (fn (d 207) "_law_at" "_law_at" 3 [] .none .none .none (s "law_vn0017_01" 3985) none (r 1787) .none 0))) ::
  (nat_lit 1789, (o (t "tuple") (.seq #[] 0))) ::
  (nat_lit 1791, (o (t "tuple") (.seq #[(s "maker" 3999), (s "octets" 4000)] 0))) ::
  (nat_lit 1792, (o (t "tuple") (.seq #[] 0))) ::
  (nat_lit 1794, (o (t "code") (.fields #[(s "_law_piece" 3996), (s "_law_piece" 3997), (s "/claim/cut.py" 3998), (i 1306 0), (i 2 0), (i 0 0), (i 0 0), (i 3 0), (r 1789), (.bool true), (i 313 0), (r 1790), .none, (r 1791), (r 1792), (r 1793), (i 4001 0), (i 1306 0), (s "/claim/cut.py" 4002)]))) ::
  (nat_lit 1795, (o (t "function") (fn (d 208) "_law_piece" "_law_piece" 3 [] .none .none .none (s "law_vn0017_01" 3985) none (r 1794) .none 0))) ::
  (nat_lit 1796, (o (t "tuple") (.seq #[] 0))) ::
  (nat_lit 1798, (o (t "tuple") (.seq #[(s "maker" 4007), (s "octets" 4008), (s "place" 4009), (s "told" 4010), (s "tag" 4011), (s "size" 4012)] 0))) ::
  (nat_lit 1799, (o (t "tuple") (.seq #[] 0))) ::
  (nat_lit 1801, (o (t "code") (.fields #[(s "_law_ends" 4004), (s "_law_ends" 4005), (s "/claim/cut.py" 4006), (i 1314 0), (i 3 0), (i 0 0), (i 0 0), (i 3 0), (r 1796), (.bool true), (i 313 0), (r 1797), .none, (r 1798), (r 1799), (r 1800), (i 4013 0), (i 1314 0), (s "/claim/cut.py" 4014)]))) ::
  (nat_lit 1802, (o (t "function") (fn (d 209) "_law_ends" "_law_ends" 3 [] .none .none .none (s "law_vn0017_01" 3985) none (r 1801) .none 0))) ::
  (nat_lit 1803, (o (t "tuple") (.seq #[] 0))) ::
  (nat_lit 1805, (o (t "tuple") (.seq #[(s "maker" 4019), (s "octets" 4020), (s "told" 4021), (s "tag" 4022), (s "place" 4023), (s "size" 4024)] 0))) ::
  (nat_lit 1806, (o (t "tuple") (.seq #[] 0))) ::
  (nat_lit 1808, (o (t "code") (.fields #[(s "_law_inside" 4016), (s "_law_inside" 4017), (s "/claim/cut.py" 4018), (i 1325 0), (i 2 0), (i 0 0), (i 0 0), (i 3 0), (r 1803), (.bool true), (i 313 0), (r 1804), .none, (r 1805), (r 1806), (r 1807), (i 4025 0), (i 1325 0), (s "/claim/cut.py" 4026)]))) ::
  (nat_lit 1809, (o (t "function") (fn (d 210) "_law_inside" "_law_inside" 3 [] .none .none .none (s "law_vn0017_01" 3985) none (r 1808) .none 0))) ::
  (nat_lit 1810, (o (t "tuple") (.seq #[] 0))) ::
  (nat_lit 1813, (o (t "code") (.fields #[(s "law" 4028), (s "law" 4029), (s "/claim/cut.py" 4030), (i 1339 0), (i 1 0), (i 0 0), (i 0 0), (i 3 0), (r 1810), (.bool true), (i 313 0), (r 1811), .none, .none, .none, (r 1812), (i 4031 0), (i 1339 0), (s "/claim/cut.py" 4032)]))) ::
  (nat_lit 1814, (o (t "function") (fn (d 211) "law" "law" 3 [] .none .none .none (s "law_vn0017_01" 3985) none (r 1813) .none 0))) :: []
end
end HD
end
section
open PySem PySem.W PySem.Calls PyProof.Rows PyProof.V PySem.Spec
namespace Mine
theorem bInts_one (c : Int) (h0 : 0 ≤ c) (h1 : c < 256) : KBw.bInts (byteArr [c]) = [c] :=
  KBa.ints_make (fun n hn => by rw [List.mem_singleton.mp hn]; exact ⟨h0, h1⟩)
theorem maps_inj : ∀ {a b : List UInt8}, (a.map fun c => ((c.toNat : Nat) : Int)) = (b.map fun c => ((c.toNat : Nat) : Int)) → a = b
  | [], [], _ => rfl
  | [], _ :: _, h => by cases h
  | _ :: _, [], h => by cases h
  | x :: a, y :: b, h => by
    rw [List.map_cons, List.map_cons, List.cons.injEq] at h
    rw [maps_inj h.2, UInt8.toNat_inj.mp (Int.ofNat_inj.mp h.1)]
theorem bInts_inj {a b : Array UInt8} (h : KBw.bInts a = KBw.bInts b) : a = b := by
  unfold KBw.bInts at h
  apply Array.toList_inj.mp
  exact maps_inj h
section
variable {prog : Program} {w : World} {A : Around} {E : Value → Shared → Prop} {s : Shared} {h₀ : Heap} {L D : Addr} {m : PySem.Str → Option Value} {news : List (Addr × Obj)}
theorem bytes_one {x c : Int} {t : Tok} {n : Nat} {Q : Value → Shared → Prop} (F : Fr h₀ L s.heap m) (N : News h₀ L s.heap news) (hm : (D, PySem.W.listOf #[Value.int x t] n) ∈ news) (hh : A.handled = none)
    (e : x = c) (h0 : 0 ≤ c) (h1 : c < 256)
    (h : ∀ (b : Array UInt8) h' t' k, Fr h₀ L h' m → News h₀ L h' news → KBw.bInts b = [c] → Q (.bytes b t') { s with heap := h', toks := k }) : wpAny (model prog w) A (call (.type "bytes") [.ref D]) Q E s := by
  subst e
  refine KBa.make_K (ns := [x]) F N hh (vs := [Value.int x t]) (News.isList N hm) (IntsAre.cons x t IntsAre.nil) (fun n hn => by rw [List.mem_singleton.mp hn]; exact ⟨h0, h1⟩) (by simp) (fun h' t' k F' N' _ => h _ h' t' k F' N' (bInts_one x h0 h1))
theorem noI_bytes_add : typeLookup (.type "bytes") (dunderI "add") = pure none := by rw [typeLookup_type, builtinLookup_eq_fast]; kernel_rfl
theorem iadd_bytes {b c : Array UInt8} {t u : Tok} {Q : Value → Shared → Prop} (hsz : b.size + c.size ≤ 16777216) (h : ∀ t' k, Q (.bytes (b ++ c) t') { s with toks := k }) : wpAny (model prog w) A (inplaceOp .Add (.bytes b t) (.bytes c u)) Q E s := by
  refine iconcat_gives (typeIs_bytes s b t) (typeIs_bytes s c u) noI_bytes_add KBy.noFill_bytes_add KBy.seq_bytes_add FB.slot_bytes_add FB.entry_bytes_add (FB.args_bytes_add_2 _ _) (KBy.gives_bytes_add (KBy.tooLong_not hsz)) ?_
  by_cases hb : b.isEmpty = true
  · rw [if_pos hb]
    have e : b = #[] := Array.isEmpty_iff.1 hb
    have h' := h u s.toks
    rw [e, Array.empty_append] at h'
    exact h'
  · rw [if_neg hb]
    by_cases hc : c.isEmpty = true
    · rw [if_pos hc]
      have e : c = #[] := Array.isEmpty_iff.1 hc
      have h' := h t s.toks
      rw [e, Array.append_empty] at h'
      exact h'
    · rw [if_neg hc]
      exact ⟨by rw [Array.size_append, sizeLine_eq]; exact hsz, h s.toks (s.toks + 1)⟩
theorem iadd_K {b c : Array UInt8} {t u : Tok} {ks ls : List Int} {Q : Value → Shared → Prop} (hb : KBw.bInts b = ks) (hc : KBw.bInts c = ls) (hsz : ks.length + ls.length ≤ 16777216) (h : ∀ t' k, KBw.bInts (b ++ c) = ks ++ ls → Q (.bytes (b ++ c) t') { s with toks := k }) : wpAny (model prog w) A (inplaceOp .Add (.bytes b t) (.bytes c u)) Q E s :=
  iadd_bytes (by rw [← KBw.ints_length b, ← KBw.ints_length c, hb, hc]; exact hsz) fun t' k => h t' k (KBw.ints_app hb hc)
theorem bInts_nil : KBw.bInts #[] = [] := rfl
end
end Mine
end
section
open PySem PySem.W PySem.Calls PyProof.Rows
namespace Mine
/-- ALL_BYTES as it stands: the octet at each place -/
def bytesAt (l : List Value) : Bool := (List.range 256).all fun i => match l[i]? with
  | some (.bytes b _) => KBw.bInts b == [(i : Int)]
  | _ => false
theorem bytesAt_get {l : List Value} (h : bytesAt l = true) {i : Nat} (hi : i < 256) : ∃ b t, l[i]? = some (.bytes b t) ∧ KBw.bInts b = [(i : Int)] := by
  have := List.all_eq_true.mp h i (List.mem_range.mpr hi)
  split at this
  · rename_i b t e
    exact ⟨b, t, e, by simpa using this⟩
  · cases this
def itemsAt (K : Frag) (a : Addr) : Option (List Value) := match K.lookup a with
  | some ⟨.type "tuple", _, .seq l _, _⟩ => some l.toList
  | _ => none
theorem itemsAt_get {K : Frag} {a : Addr} {l : List Value} (e : itemsAt K a = some l) : ∃ dd n sl, K.lookup a = some ⟨.type "tuple", dd, .seq l.toArray n, sl⟩ := by
  unfold itemsAt at e
  split at e
  · rename_i dd l' n sl h
    cases e
    exact ⟨dd, n, sl, by simpa using h⟩
  · cases e
def allOk (K : Frag) : Bool := match itemsAt K 1731 with
  | some l => l.length == 256 && bytesAt l
  | none => false
theorem all_ok (P : Params) : allOk (HD.KH P) = true := by kernel_rfl
section
variable {prog : Program} {w : World} {A : Around} {E : Value → Shared → Prop} {s : Shared} {h₀ : Heap} {L : Addr} {m : PySem.Str → Option Value} {value slice : PySem.Expr}
theorem allBytes {k : Int} {u : Tok} {Q : Value → Shared → Prop} (F : Fr h₀ L s.heap m) (X₀ : (HD.KH w.params).In h₀) (h0 : 0 ≤ k) (h1 : k < 256)
    (h : ∀ b t, KBw.bInts b = [k] → Q (.bytes b t) s)
    (hs : subscripted slice false (.ref 1731) (.int k u) = operate [.ref 1731, .int k u] (getItem (.ref 1731) (.int k u)) := by with_unfolding_all rfl) :
    wpAny (model prog w) A (subscriptTail value slice (.ref 1731) (.int k u)) Q E s := by
  have ok := all_ok w.params
  unfold allOk at ok
  split at ok
  · rename_i l hl
    simp only [Bool.and_eq_true, beq_iff_eq] at ok
    obtain ⟨dd, n, sl, hk⟩ := itemsAt_get hl
    obtain ⟨b, t, e, hb⟩ := bytesAt_get ok.2 (i := k.toNat) (by omega)
    have hk0 : ((k.toNat : Nat) : Int) = k := Int.toNat_of_nonneg h0
    rw [hk0] at hb
    refine topTup_K F X₀ hk (by omega) (by omega) (j := k.toNat) ?_ e (h b t hb) hs
    have e1 : ¬ (k < 0) := by omega
    have : k < ((256 : Nat) : Int) := by omega
    unfold seqIndex?
    simp only [e1, if_false, ok.1]
    simp [h0, h1]
  · cases ok
end
end Mine
end
section
open PySem PySem.W PySem.Calls PyProof.Rows PyProof.V PySem.Spec
namespace Mine
open Builtin._codecs in
theorem enc_narrow (t : Tok) : encodeNarrow "str.encode" utf8Codec none (.str (Str.ofString "p") t) (Str.ofString "p") = pure #[112] := by
  first | kernel_rfl | with_unfolding_all rfl
open Builtin._codecs Builtin in
theorem enc_p (t : Tok) : Gives («str.encode» ⟨[.str (Str.ofString "p") t], []⟩) (.bytes #[112]) := by
  rw [show «str.encode» ⟨[.str (Str.ofString "p") t], []⟩ = (do ret (← encodeRoad "str.encode" (.str (Str.ofString "p") t) (Str.ofString "p") (Str.ofString "utf-8") none)) from rfl]
  rw [encodeRoad_utf8, enc_narrow]
  exact .of_eq rfl
end Mine
namespace Mine
open Builtin
theorem run_p (id : String) : _codecs.runDecoder id _codecs.utf8Decoder none true ([112] : List UInt8).toArray 0 [] = pure ((Str.ofString "p").cps, 1) := by kernel_rfl
theorem dec_entry (t u : Tok) : «bytes.decode» ⟨[.bytes ([112] : List UInt8).toArray t, .str (Str.ofString "utf-8") u], []⟩ = (mkStr (PySem.Str.ofString "utf-8") >>= fun _ => mkStr (PySem.Str.ofString "utf-8") >>= fun e => mkStr (PySem.Str.ofString "bytes.decode") >>= fun d => call (.builtin "_codecs.decode.text") [.bytes ([112] : List UInt8).toArray t, e, .none, d] >>= fun v => ret v) := by kernel_rfl
theorem meets_dec_p (t u : Tok) : Meets («bytes.decode» ⟨[.bytes ([112] : List UInt8).toArray t, .str (Str.ofString "utf-8") u], []⟩) (fun _ R s => ∀ t' k, R (.ok (.ret (.str (Str.ofString "p") t'))) { s with toks := k }) := by
  refine .of_wp fun prog w A R s h => ?_
  rw [dec_entry]
  refine wpAny_bind (wpAny_mkStr ?_ (by decide))
  refine wpAny_bind (wpAny_mkStr ?_ (by decide))
  refine wpAny_bind (wpAny_mkStr ?_ (by decide))
  exact wpAny_bind (call_function_meets KBd.kind_text KBd.plain_text KBd.entry_text (KBd.args_text _ _ _ _) (KBd.meets_text run_p) ⟨by decide, wpAny_pure ⟨_, rfl, h _ _⟩⟩)
section
variable {prog : Program} {w : World} {A : Around} {E : Value → Shared → Prop} {s : Shared}
theorem args_bytes_decode_2 (a b : Value) : argsOk "bytes.decode" ⟨[a, b], []⟩ := by
  unfold argsOk; rw [signature?_of (id := "bytes.decode") (n := ['e', 'd', 'o', 'c', 'e', 'd']) (o := ['s', 'e', 't', 'y', 'b']) (by kernel_rfl) FB.owner_bytes]; kernel_rfl
theorem dec_p {b : Array UInt8} {t u : Tok} {Q : Value → Shared → Prop} (hb : KBw.bInts b = [112]) (h : ∀ t' k, Q (.str (Str.ofString "p") t') { s with toks := k }) :
    wpAny (model prog w) A (call (.builtin "bytes.decode") [.bytes b t, .str (Str.ofString "utf-8") u]) Q E s := by
  have e : b = ([112] : List UInt8).toArray := by
    unfold KBw.bInts at hb
    rcases hl : b.toList with _ | ⟨x, _ | ⟨y, l⟩⟩
    · rw [hl] at hb; cases hb
    · rw [hl] at hb
      simp only [List.map_cons, List.map_nil, List.cons.injEq, and_true] at hb
      apply Array.toList_inj.mp
      rw [hl]
      have : x = 112 := by
        apply UInt8.toNat_inj.mp
        have h2 : x.toNat = 112 := by omega
        rw [h2]; rfl
      rw [this]
    · rw [hl] at hb; simp at hb
  subst e
  exact call_meets FB.slot_bytes_decode (typeIs_bytes _ _ _) FB.entry_bytes_decode (args_bytes_decode_2 _ _) (meets_dec_p _ _) h
theorem enc_method {M : Model} {t : Tok} {pl : Sem Bool} {Q : Value × List Value → Shared → Prop} (x : Str) (h : Q (.builtin "str.encode", [.str x t]) s) : wpAny M A (getMethod (.str x t) "encode" pl) Q E s :=
  getMethod_builtin (v := .str x t) rfl F.plainAttrs_str F.slot_str_encode F.type_str_encode (fun _ e => nomatch e) h
theorem enc_call {t u : Tok} {Q : Value → Shared → Prop} (h : ∀ t' k, Q (.bytes #[112] t') { s with toks := k }) : wpAny (model prog w) A (call (.builtin "str.encode") [.str (Str.ofString "p") t]) Q E s := by
  exact call_gives F.slot_str_encode rfl F.entry_str_encode (F.args_str_encode_1 _) (enc_p t) ⟨by decide, h _ _⟩
theorem enc_p2 (t u : Tok) : Gives («str.encode» ⟨[.str (Str.ofString "p") t, .str (Str.ofString "utf-8") u], []⟩) (.bytes #[112]) := by
  rw [show «str.encode» ⟨[.str (Str.ofString "p") t, .str (Str.ofString "utf-8") u], []⟩ = (do ret (← Builtin._codecs.encodeRoad "str.encode" (.str (Str.ofString "p") t) (Str.ofString "p") (Str.ofString "utf-8") none)) by kernel_rfl]
  rw [encodeRoad_utf8, enc_narrow]
  exact .of_eq rfl
theorem enc_call2 {t u : Tok} {Q : Value → Shared → Prop} (h : ∀ t' k, Q (.bytes #[112] t') { s with toks := k }) : wpAny (model prog w) A (call (.builtin "str.encode") [.str (Str.ofString "p") t, .str (Str.ofString "utf-8") u]) Q E s := by
  exact call_gives F.slot_str_encode rfl F.entry_str_encode (F.args_str_encode_2 _ _) (enc_p2 t u) ⟨by decide, h _ _⟩
theorem nul_in_p {t u : Tok} {Q : Value → Shared → Prop} (h : Q (.bool false) s) : wpAny (model prog w) A (compareOp .In (.str (Str.ofString "\x00") u) (.str (Str.ofString "p") t)) Q E s := by
  refine P.in_str ?_
  rw [show (!(Builtin.Str.occurrences (Str.ofString "p") (Str.ofString "\x00") 0 (Str.ofString "p").length 1).isEmpty) = false by decide +kernel]
  exact h
end
end Mine
end
section
open PySem PySem.W PySem.Calls PyProof.Rows PyProof.V PySem.Spec
namespace Mine
section
variable {M : Model} {A : Around} {E : Value → Shared → Prop} {s : Shared} {env : Env}
theorem callWith_kwM {pos : Pos} {id : String} {first : List Value} {e : PySem.Expr} {rest : List PySem.Expr} {kws : List Keyword} {Q : Value → Shared → Prop}
    (h : wpAny M A (spliced (backTo pos (starEach (e :: rest) env))) (fun vs s₁ => wpAny M A (evalAll ((backToKw pos (keywordEach kws env)).map (·.2)))
      (fun kvs s₂ => wpAny M A (call (.builtin id) (first ++ vs) (((backToKw pos (keywordEach kws env)).filterMap (·.1)).zip kvs)) Q E s₂) E s₁) E s)
    (he : backTo pos (starEach (e :: rest) env) = (false, eval e env) :: backTo pos (starEach rest env) := by rfl)
    (hplain : (backTo pos (starEach (e :: rest) env)).any (·.1) = false := by rfl)
    (hall : (backToKw pos (keywordEach kws env)).all (·.1.isSome) = true := by rfl)
    (hkw : (backToKw pos (keywordEach kws env)).any (·.1.isNone) = false := by rfl) :
    wpAny M A (callWith pos (.builtin id) first (backTo pos (starEach (e :: rest) env)) (backToKw pos (keywordEach kws env))) Q E s := by
  refine callWith_builtin_kwB hplain hkw ?_
  rw [he] at h ⊢
  exact evalArgs_kwB hall h
end
section
open PySem.Builtin.Int (intBits)
variable {prog : Program} {w : World} {A : Around} {E : Value → Shared → Prop} {s : Shared} {x : Int} {t u v : Tok}
theorem args_to_kw (a b c d : Value) : argsOk "int.to_bytes" ⟨[a, b, c], [(Str.ofString "signed", d)]⟩ := by unfold argsOk; kernel_rfl
theorem to_signed {Q : Value → Shared → Prop} (h0 : 0 ≤ x) (h1 : x < 2147483648) (h : ∀ (b : Array UInt8) t' k', KBw.bInts b = [x % 256, x / 256 % 256, x / 256 / 256 % 256, x / 256 / 256 / 256 % 256] → Q (.bytes b t') { s with toks := k' }) :
    wpAny (model prog w) A (call (.builtin "int.to_bytes") [.int x t, .int 4 u, .str (PySem.Str.ofString "little") v] [(Str.ofString "signed", .bool true)]) Q E s := by
  refine wpAny_call_entry_kw KTBy.slot (typeIs_int s x t) KTBy.entry ?_ (args_to_kw _ _ _ _)
  have hb : intBits x ≤ 31 := by
    refine intBits_le_iff.mpr ?_
    omega
  have h1' : x < 256 ^ 4 := by omega
  show wpAny _ _ (Builtin.Int.intOfSelf (.int x t) >>= fun y => _) _ _ s
  refine wpAny_bind (wpAny_of_eq (a := x) rfl ?_)
  show wpAny _ _ (Builtin.Int.intBindNamed "to_bytes" ["length", "byteorder", "signed"] 0 2 [.int 4 u, .str (PySem.Str.ofString "little") v] [(Str.ofString "signed", .bool true)] >>= fun l => _) _ _ s
  refine wpAny_bind (wpAny_of_eq (a := [some (.int 4 u), some (.str (PySem.Str.ofString "little") v), some (.bool true)]) (by kernel_rfl) ?_)
  show wpAny _ _ (Builtin.Int.intIndex "int.to_bytes" (.int 4 u) >>= fun n => _) _ _ s
  refine wpAny_bind (wpAny_of_eq (a := 4) rfl ?_)
  refine KTBy.if_not (by decide) ?_
  refine wpAny_bind (wpAny_of_eq (a := PySem.Str.ofString "little") (by kernel_rfl) ?_)
  refine wpAny_bind (wpAny_of_eq (a := true) rfl ?_)
  refine wpAny_bind (wpAny_of_eq (a := true) (by kernel_rfl) ?_)
  refine wpAny_ite_false (by decide) ?_
  refine wpAny_ite_false (by decide) ?_
  refine wpAny_ite_false (decide_eq_false (show ¬ ((4 : Int) > (sizeLine : Int)) by rw [sizeLine_eq]; omega)) ?_
  refine KTBy.if_not (by show (decide (x < 0) && !true) = false; rw [Bool.not_true, Bool.and_false]) ?_
  refine KTBy.if_not (by
    show (_ && decide ((if true = true then ((intBits (if x < 0 then -x - 1 else x) : Nat) : Int) + 1 else intBits x) > 8 * (4 : Int))) = false
    rw [if_pos rfl, if_neg (by omega : ¬ x < 0), decide_eq_false (by omega), Bool.and_false]) ?_
  refine wpAny_bind (wpAny_mkBytes (wpAny_pure ⟨_, rfl, h _ _ _ ?_⟩) (by show (KTBy.low x (Int.toNat (4 : Int))).length ≤ sizeLine; rw [KTBy.low_length, sizeLine_eq]; decide))
  show (List.map (fun c : UInt8 => ((c.toNat : Nat) : Int)) (KTBy.low x 4)) = _
  rw [KTBy.low_ints h0 h1', ← KTBy.little_eq]
  rfl
theorem to_small {Q : Value → Shared → Prop} (h0 : 0 ≤ x) (h1 : x < 128) (h : ∀ (b : Array UInt8) t' k', KBw.bInts b = [x, 0, 0, 0] → Q (.bytes b t') { s with toks := k' }) :
    wpAny (model prog w) A (call (.builtin "int.to_bytes") [.int x t, .int 4 u, .str (PySem.Str.ofString "little") v] [(Str.ofString "signed", .bool true)]) Q E s :=
  to_signed h0 (by omega) fun b t' k' e => h b t' k' (by
    rw [e, show x % 256 = x by omega, show x / 256 = 0 by omega]; rfl)
end
end Mine
end
section
open PySem PySem.W PySem.Calls PyProof.Rows PyProof.V PySem.Spec
namespace Mine
section
variable {prog : Program} {w : World} {M : Model} {A : Around} {E : Value → Shared → Prop} {s : Shared} {h₀ : Heap} {L : Addr} {m : PySem.Str → Option Value} {news : List (Addr × Obj)}
theorem callWith_boundkw {pos : Pos} {u : Addr} {first : List Value} {env : Env} {e : PySem.Expr} {rest : List PySem.Expr} {kws : List Keyword} {Q : Value → Shared → Prop}
    (h : wpAny M A (spliced (backTo pos (starEach (e :: rest) env))) (fun vs s₁ => wpAny M A (evalAll ((backToKw pos (keywordEach kws env)).map (·.2)))
      (fun kvs s₂ => KFB.StandsAt u s₂.heap ∧ wpAny M A (call (.ref u) (first ++ vs) (((backToKw pos (keywordEach kws env)).filterMap (·.1)).zip kvs)) Q E s₂) E s₁) E s)
    (he : backTo pos (starEach (e :: rest) env) = (false, eval e env) :: backTo pos (starEach rest env) := by rfl)
    (hplain : (backTo pos (starEach (e :: rest) env)).any (·.1) = false := by rfl)
    (hall : (backToKw pos (keywordEach kws env)).all (·.1.isSome) = true := by rfl)
    (hkw : (backToKw pos (keywordEach kws env)).any (·.1.isNone) = false := by rfl) :
    wpAny M A (callWith pos (.ref u) first (backTo pos (starEach (e :: rest) env)) (backToKw pos (keywordEach kws env))) Q E s := by
  have H : wpAny M A (evalArgs (.ref u) true (backTo pos (starEach (e :: rest) env)) (backToKw pos (keywordEach kws env))) (fun x s₁ => KFB.StandsAt u s₁.heap ∧ wpAny M A (call (.ref u) (first ++ x.pos) x.kw) Q E s₁) E s := by
    rw [he] at h ⊢
    exact evalArgs_kwB hall h
  unfold callWith
  refine wpAny_bind (wpAny_holding (wpAny_mono H (fun x s₁ h₁ => wpAny_bind (wpAny_standAt ?_)) fun _ _ x => x))
  obtain ⟨ho, hcall⟩ := h₁
  simp only [hplain, hkw, Bool.or_false]
  refine wpAny_bind (m := keeperOf (.ref u)) ?_
  unfold keeperOf
  refine wpAny_bind (wpAny_load ho ?_)
  simp only [KFB.bound, show (Value.type "builtin_function_or_method" != Value.type "method") = true by decide, show (Value.type "builtin_function_or_method" == Value.type "builtin_function_or_method" || Value.type "builtin_function_or_method" == Value.type "method-wrapper") = true by decide, if_true]
  refine wpAny_pure ?_
  exact wpAny_bind (wpAny_mono hcall (fun r s₂ hr => wpAny_bind (wpAny_holding (wpAny_point (wpAny_pure hr)))) fun _ _ x => x)
theorem tree_signed {b : Array UInt8} {t u : Tok} {sg : Bool} {P : Fin → Shared → Prop} (hl : b.size ≤ 8) (hz : sg = true → (b.toList.reverse.head?.any (· ≥ 128)) = false) (h : P (.done (.ret (.int (KFB.value (KBw.bInts b).reverse) s.toks))) { s with toks := s.toks + 1 }) :
    wpAny M A (Builtin.«int.from_bytes» ⟨[.type "int", .bytes b t, .str (PySem.Str.ofString "little") u], [(Str.ofString "signed", .bool sg)]⟩) P E s := by
  have hv : ((b.toList.reverse.foldl (fun (acc : Nat) (b : UInt8) => acc * 256 + b.toNat) 0 : Nat) : Int) = KFB.value (KBw.bInts b).reverse := by
    rw [KFB.fold_cast, List.map_reverse]
    rfl
  have hn : b.toList.reverse.foldl (fun (acc : Nat) (b : UInt8) => acc * 256 + b.toNat) 0 < 2 ^ 64 := by
    have h1 := KFB.fold_lt b.toList.reverse 0
    rw [Nat.zero_add, Nat.one_mul, List.length_reverse, Array.length_toList] at h1
    have h2 : 256 ^ b.size ≤ 256 ^ 8 := Nat.pow_le_pow_right (by decide) hl
    omega
  unfold Builtin.«int.from_bytes»
  refine wpAny_bind (wpAny_of_eq (a := true) KFB.type_int ?_)
  refine KFB.if_not rfl ?_
  refine wpAny_bind (wpAny_of_eq (a := true) F.conv_sub_int ?_)
  refine KFB.if_not rfl ?_
  refine wpAny_bind (wpAny_of_eq (a := [some (.bytes b t), some (.str (PySem.Str.ofString "little") u), some (.bool sg)]) (by cases sg <;> kernel_rfl) ?_)
  refine wpAny_bind (wpAny_of_eq (a := PySem.Str.ofString "little") (by kernel_rfl) ?_)
  refine wpAny_bind (wpAny_of_eq (a := sg) (by cases sg <;> rfl) ?_)
  refine wpAny_bind (wpAny_of_eq (a := true) (by kernel_rfl) ?_)
  refine wpAny_bind (wpAny_of_eq (a := b) rfl ?_)
  have hneg : (sg && (b.toList.reverse.head?.any (· ≥ 128))) = false := by
    cases sg with
    | false => rfl
    | true => exact hz rfl
  show wpAny _ _ (mkIntGrown (if (sg && (b.toList.reverse.head?.any (· ≥ 128))) = true then b.toList.reverse.foldl (fun (acc : Int) (b : UInt8) => acc * 256 + (b.toNat : Int)) ((0 : Nat) : Int) - 256 ^ b.toList.reverse.length else b.toList.reverse.foldl (fun (acc : Int) (b : UInt8) => acc * 256 + (b.toNat : Int)) ((0 : Nat) : Int)) >>= fun v => _) _ _ _
  rw [if_neg (by rw [hneg]; decide), KFB.foldI_eq]
  refine wpAny_bind (KFB.grown hn ?_)
  rw [hv]
  refine KFB.if_so (by decide +kernel) ?_
  exact wpAny_bind (wpAny_pure (wpAny_pure h))
theorem check_fbk {b : Array UInt8} {t u : Tok} {o : PySem.Str} {v : Value} : checkBoundCall "int.from_bytes" ⟨[.type "int", .bytes b t, .str o u], [(Str.ofString "signed", v)]⟩ = pure () := by first | kernel_rfl | rfl
theorem call_signed {x : Addr} {b : Array UInt8} {t u : Tok} {sg : Bool} {ks : List Int} {Q : Value → Shared → Prop} (N : News h₀ L s.heap news) (hm : (x, KFB.bound) ∈ news) (hb : KBw.bInts b = ks) (hl : ks.length ≤ 8)
    (hz : sg = true → (ks.reverse.head?.any (· ≥ 128)) = false) (h : ∀ t' k, Q (.int (KFB.value ks.reverse) t') { s with toks := k }) : wpAny (model prog w) A (call (.ref x) [.bytes b t, .str (PySem.Str.ofString "little") u] [(Str.ofString "signed", .bool sg)]) Q E s := by
  subst hb
  have ho := KFB.at_of N hm
  refine wpAny_call (codeAny_of_tree ?_)
  show wpAny _ A.in1 (callAny (.ref x) ⟨[.bytes b t, .str _ u], [(Str.ofString "signed", .bool sg)]⟩) _ _ s
  simp only [callAny]
  refine wpAny_bind (wpAny_load ho ?_)
  simp only [KFB.bound, show (Value.type "builtin_function_or_method" == Value.type "method" || Value.type "builtin_function_or_method" == Value.type "builtin_function_or_method" || Value.type "builtin_function_or_method" == Value.type "method-wrapper") = true by decide, if_true]
  refine KFB.if_so (by decide) ?_
  refine wpAny_bind (wpAny_of_eq (a := ()) check_fbk ?_)
  refine wpAny_bind (wpAny_pure (wpAny_pure ?_))
  refine ⟨KFB.quiet_fb, codeAny_builtin KFB.entry_fb (tree_signed (by rw [← KBw.ints_length]; exact hl) (fun e => ?_) (h _ _))⟩
  have := hz e
  unfold KBw.bInts at this
  rw [← List.map_reverse] at this
  cases hr : b.toList.reverse with
  | nil => rfl
  | cons y l =>
    rw [hr] at this
    simp only [List.map_cons, List.head?_cons, Option.any_some, ge_iff_le, decide_eq_false_iff_not] at this ⊢
    intro q
    apply this
    have : (128 : UInt8).toNat ≤ y.toNat := q
    have e : (128 : UInt8).toNat = 128 := rfl
    omega
theorem value4 (a : Int) : KFB.value [a, 0, 0, 0].reverse = a := by
  show ((((0 : Int) * 256 + 0) * 256 + 0) * 256 + 0) * 256 + a = a
  omega
theorem value1 (a : Int) : KFB.value [a].reverse = a := by
  show (0 : Int) * 256 + a = a
  omega
theorem call_signed4 {x : Addr} {b : Array UInt8} {t u : Tok} {sg : Bool} {a : Int} {Q : Value → Shared → Prop} (N : News h₀ L s.heap news) (hm : (x, KFB.bound) ∈ news) (hb : KBw.bInts b = [a, 0, 0, 0])
    (h : ∀ t' k, Q (.int a t') { s with toks := k }) : wpAny (model prog w) A (call (.ref x) [.bytes b t, .str (PySem.Str.ofString "little") u] [(Str.ofString "signed", .bool sg)]) Q E s :=
  call_signed N hm hb (by show 4 ≤ 8; decide) (fun _ => rfl) (by rw [value4]; exact h)
theorem call_signed1 {x : Addr} {b : Array UInt8} {t u : Tok} {a : Int} {Q : Value → Shared → Prop} (N : News h₀ L s.heap news) (hm : (x, KFB.bound) ∈ news) (hb : KBw.bInts b = [a])
    (h : ∀ t' k, Q (.int a t') { s with toks := k }) : wpAny (model prog w) A (call (.ref x) [.bytes b t, .str (PySem.Str.ofString "little") u] [(Str.ofString "signed", .bool false)]) Q E s :=
  call_signed N hm hb (by show 1 ≤ 8; decide) (fun z => nomatch z) (by rw [value1]; exact h)
end
end Mine
end
section
open PySem PySem.W PySem.Calls PyProof.Rows PyProof.V PySem.Spec
namespace Mine
open Builtin
theorem slot_join : Slot "bytes" "join" "bytes.join" :=
  .of (owner := "bytes") (n := "join") (by rw [typeLookup_type, builtinLookup_eq_fast]; kernel_rfl) (by decide +kernel) (by decide +kernel) (by decide +kernel)
    (by first | exact .inl (by decide +kernel) | exact .inr (by decide +kernel)) (by rw [isSubtype_type]; kernel_rfl)
theorem type_join : typeOf (.builtin "bytes.join") = pure (.type "method_descriptor") := by show builtinType _ = _; rw [builtinType_eq_fast]; kernel_rfl
theorem entry_join : entryFor table "bytes.join" = some Builtin.«bytes.join» := entryFor_of_fast (by kernel_rfl)
theorem args_join (a b : Value) : argsOk "bytes.join" ⟨[a, b], []⟩ := by unfold argsOk; kernel_rfl
section
variable {prog : Program} {w : World} {M : Model} {A : Around} {E : Value → Shared → Prop} {s : Shared} {h₀ : Heap} {L D : Addr} {m : PySem.Str → Option Value} {news : List (Addr × Obj)} {b sep : Array UInt8} {t u : Tok} {n : Nat}
theorem join_method {pl : Sem Bool} {Q : Value × List Value → Shared → Prop} (h : Q (.builtin "bytes.join", [.bytes b t]) s) : wpAny M A (getMethod (.bytes b t) "join" pl) Q E s := by
  with_reducible exact KBd.method_of (.bytes b t) (typeIs_bytes _ _ _) slot_join type_join KBd.noRef h
theorem tree_one {o : Obj} {Q : Fin → Shared → Prop} (ho : s.heap.get? D = some o) (hc : o.cls = .type "list") (hd : o.data = .seq #[.bytes b t] n) (h : Q (.done (.ret (.bytes b t))) s) :
    wpAny M A («bytes.join» ⟨[.bytes sep u, .ref D], []⟩) Q E s := by
  show wpAny M A (Bytes.joinM .bytes ⟨[.bytes sep u, .ref D], []⟩) Q E s
  unfold Bytes.joinM
  refine wpAny_bind (wpAny_of_eq (a := (.bytes sep u, .ref D)) (by kernel_rfl) ?_)
  unfold Bytes.joinItems
  refine wpAny_bind (wpAny_bind (wpAny_typeOf_ref ho ?_))
  rw [hc]
  rw [if_pos (by decide)]
  refine wpAny_pure ?_
  have hit : ∀ {R : Option (Array Value) → Shared → Prop} {E' : Value → Shared → Prop}, R (some #[.bytes b t]) s → wpAny M A (seqItems? (.ref D)) R E' s := by
    intro R E' q
    unfold seqItems?
    refine wpAny_bind (wpAny_load ho ?_)
    rw [hd]
    exact wpAny_pure q
  refine wpAny_bind (hit ?_)
  dsimp only
  rw [if_pos (by decide)]
  refine wpAny_bind (wpAny_of_eq (a := .type "bytes") rfl ?_)
  rw [if_pos (by decide)]
  exact wpAny_bind (wpAny_rule (wpAny_bind (wpAny_pure (wpAny_pure h))))
theorem join_one {Q : Value → Shared → Prop} (N : News h₀ L s.heap news) (hm : (D, PySem.W.listOf #[.bytes b t] n) ∈ news) (h : Q (.bytes b t) s) :
    wpAny (model prog w) A (call (.builtin "bytes.join") [.bytes sep u, .ref D]) Q E s :=
  wpAny_call_entry slot_join (typeIs_bytes _ _ _) entry_join (tree_one (N.get hm) rfl rfl ⟨_, rfl, h⟩) (args_join _ _)
end
end Mine
end
section
open PySem PySem.W PySem.Calls PyProof.Rows PyProof.V PySem.Spec
namespace Mine
open Builtin
theorem bb_look : typeLookup (.type "bytes") "__bytes__" = pure (some (.builtin "bytes.__bytes__")) := by rw [typeLookup_type, builtinLookup_eq_fast]; kernel_rfl
section
variable {prog : Program} {w : World} {A : Around} {E : Value → Shared → Prop} {s : Shared} {b : Array UInt8} {t : Tok}
theorem bb_new {Q : Value → Shared → Prop} (h : Q (.bytes b t) s) : codeAny (model prog w) A (.call (.builtin "bytes.__new__") ⟨[.type "bytes", .bytes b t], []⟩) (wants Q E) s := by
  refine codeAny_of_tree ?_
  show wpAny _ A.in1 (do checkBuiltinCall "bytes.__new__" ⟨[.type "bytes", .bytes b t], []⟩; again (.builtin "bytes.__new__" ⟨[.type "bytes", .bytes b t], []⟩)) _ _ s
  refine wpAny_bind (wpAny_of_eq (F.bm_newCall _) (wpAny_pure ⟨plainId_quiet F.bm_plain _, codeAny_builtin F.bm_entry ?_⟩))
  rw [Around.under_plainId F.bm_plain _]
  have hT : s.TypeIs (.bytes b t) "bytes" := PySem.W.typeIs_bytes _ _ _
  unfold Builtin.«bytes.__new__»
  refine wpAny_bind (wpAny_of_eq (a := true) rfl ?_)
  refine bm_if_false rfl ?_
  refine wpAny_bind (wpAny_of_eq F.bm_sub ?_)
  refine bm_if_false rfl ?_
  refine wpAny_bind (wpAny_of_eq (F.bm_bind _) ?_)
  refine wpAny_bind (wpAny_of_eq (a := ()) rfl ?_)
  refine wpAny_bind (wpAny_of_eq (a := ()) rfl ?_)
  refine bm_if_false rfl ?_
  refine wpAny_bind (wpAny_specialOf hT bb_look ?_)
  dsimp only
  refine wpAny_bind (wpAny_rule ?_)
  refine wpAny_bind (wpAny_of_eq (a := .type "bytes") rfl ?_)
  refine bm_if_true (by decide) ?_
  show wpAny _ _ (if (Value.type "bytes" == Value.type "bytes") = true then _ else _) _ _ _
  refine bm_if_true (by decide) ?_
  first
    | exact wpAny_pure h
    | exact wpAny_bind (wpAny_pure (wpAny_pure h))
theorem bytes_of_bytes {Q : Value → Shared → Prop} (h : Q (.bytes b t) s) : wpAny (model prog w) A (call (.type "bytes") [.bytes b t]) Q E s := by
  refine callType_codes (Q₁ := fun obj s₁ => s₁.TypeIs obj "bytes" ∧ Q obj s₁) F.bm_called (F.bm_typeCall _) F.entry_object_init
    (bb_new ⟨PySem.W.typeIs_bytes _ _ _, h⟩) fun obj s₁ h₁ => ?_
  exact ⟨h₁.1, F.args_object_init_2 obj _, object_init_meets F.bm_called.init.lookup F.bm_called.made (by decide) prog w A.in1 _ s₁ ⟨h₁.1, rfl, h₁.2⟩⟩
end
end Mine
end
section
open PySem PySem.W PySem.Calls PyProof.Rows PyProof.V PySem.Spec
namespace Mine
/-- a slice's octets -/
def sl (ks : List Int) (lo hi : Option Int) : List Int := (ks.drop (lo.elim 0 (clipAt ks.length))).take (hi.elim ks.length (clipAt ks.length) - lo.elim 0 (clipAt ks.length))
theorem sl_len (ks : List Int) (lo hi : Option Int) : (sl ks lo hi).length ≤ ks.length := by
  unfold sl
  rw [List.length_take, List.length_drop]
  omega
theorem clip_in {N : Nat} {x : Int} (h0 : 0 ≤ x) : clipAt N x = min x.toNat N := by
  unfold clipAt
  rw [if_neg (by omega)]
  omega
theorem sl_both {ks : List Int} {x y : Int} (h0 : 0 ≤ x) (h1 : 0 ≤ y) : sl ks (some x) (some y) = (ks.take y.toNat).drop x.toNat := by
  show (ks.drop (clipAt ks.length x)).take (clipAt ks.length y - clipAt ks.length x) = _
  rw [clip_in h0, clip_in h1, ← List.drop_take]
  by_cases hx : x.toNat ≤ ks.length
  · rw [Nat.min_eq_left hx]
    by_cases hy : y.toNat ≤ ks.length
    · rw [Nat.min_eq_left hy]
    · rw [Nat.min_eq_right (by omega), List.take_of_length_le (Nat.le_refl _), List.take_of_length_le (by omega)]
  · rw [Nat.min_eq_right (by omega), List.drop_of_length_le (by rw [List.length_take]; omega), List.drop_of_length_le (by rw [List.length_take]; omega)]
theorem sl_from {ks : List Int} {x : Int} (h0 : 0 ≤ x) : sl ks (some x) none = ks.drop x.toNat := by
  show (ks.drop (clipAt ks.length x)).take (ks.length - clipAt ks.length x) = _
  rw [clip_in h0, List.take_of_length_le (by rw [List.length_drop]; omega)]
  by_cases hx : x.toNat ≤ ks.length
  · rw [Nat.min_eq_left hx]
  · rw [Nat.min_eq_right (by omega), List.drop_of_length_le (Nat.le_refl _), List.drop_of_length_le (by omega)]
section
variable {prog : Program} {w : World} {A : Around} {E : Value → Shared → Prop} {s : Shared} {value slice : PySem.Expr} {b : Array UInt8} {t : Tok} {h₀ : Heap} {L : Addr} {m : PySem.Str → Option Value} {news : List (Addr × Obj)} {l u : Value} {lo hi : Option Int} {Q : Value → Shared → Prop} {ks : List Int} {i v : Int}
theorem slice_S (hF : Fr h₀ L s.heap m) (hN : News h₀ L s.heap news) (hk : KBw.bInts b = ks) (hl : PySem.IsPart l lo) (hu : PySem.IsPart u hi) (hz : ks.length ≤ 16777216)
    (h : ∀ b' h' t' k, Fr h₀ L h' m → News h₀ L h' news → KBw.bInts b' = sl ks lo hi → Q (.bytes b' t') { s with heap := h', toks := k })
    (hs : subscripted slice false (.bytes b t) (.ref s.heap.objs.size) = operate [.ref s.heap.objs.size, .bytes b t] (getItem (.bytes b t) (.ref s.heap.objs.size)) := by with_unfolding_all rfl)
    (ht : ∀ r, letTemporaryGo value (.bytes b t) r = pure () := by intro _; with_unfolding_all rfl) :
    wpAny (model prog w) A (subscriptTail value slice (.bytes b t) (.ref s.heap.objs.size)) Q E { s with heap := s.heap.push { cls := .type "slice", data := .fields #[l, u, .none] } } :=
  KBc.slice_K hF hN hk hl hu hz (fun h' t' k F' N' e => h _ h' t' k F' N' e) hs ht
theorem loadX_L {M : Model} {cn : PySem.Str} {cs : Scope} {a : Addr} {ccd : Value} {cl : List (PySem.Str × Addr)} {x : PySem.Str} {v : Value} (F : Fr h₀ L s.heap m) (hv : m x = some v) (h : Q v s)
    (hk : cs.kind = .function := by rfl) (hl : (envX cn cs L a ccd cl).kindOf x = some .local := by rfl) : wpAny M A (loadName (envX cn cs L a ccd cl) x) Q E s := wpAny_loadName_local hk hl F.ns hv h
theorem item_S {ui : Tok} (hk : KBw.bInts b = ks) (hfit : ks.length ≤ 1099511627776) (h0 : 0 ≤ i) (h1 : i < (ks.length : Int)) (hv : ks.getD i.toNat 0 = v)
    (h : ∀ t' k, 0 ≤ v → v < 256 → Q (.int v t') { s with toks := k })
    (hs : subscripted slice false (.bytes b t) (.int i ui) = operate [.bytes b t, .int i ui] (getItem (.bytes b t) (.int i ui)) := by with_unfolding_all rfl)
    (ht : ∀ r, letTemporaryGo value (.bytes b t) r = pure () := by intro _; with_unfolding_all rfl) : wpAny (model prog w) A (subscriptTail value slice (.bytes b t) (.int i ui)) Q E s := by
  subst hv
  exact KBw.item_K hk hfit h0 h1 h hs ht
end
end Mine
end
section
open PySem PySem.W PySem.Calls PyProof.Rows PyProof.V PySem.Spec
namespace Mine
def keysInt (es : Array DictEntry) : Bool := es.toList.all fun e => match e.key with
  | .int k _ => e.hash == hashInt k
  | _ => false
theorem keysInt_of {es : Array DictEntry} (h : keysInt es = true) {e : DictEntry} (he : e ∈ es) : ∃ k t, e.key = .int k t ∧ e.hash = hashInt k := by
  have := List.all_eq_true.mp h e (Array.mem_toList_iff.mpr he)
  split at this
  · rename_i k t ek
    exact ⟨k, t, ek, beq_iff_eq.mp this⟩
  · cases this
def dictAtK (K : Frag) (a : Addr) : Option (List DictEntry) := match K.lookup a with
  | some ⟨.type "dict", none, .dict es _, ⟨[]⟩⟩ => some es.toList
  | _ => none
theorem dictAtK_get {K : Frag} {a : Addr} {l : List DictEntry} (e : dictAtK K a = some l) : ∃ n, K.lookup a = some ⟨.type "dict", none, .dict l.toArray n, #[]⟩ := by
  unfold dictAtK at e
  split at e
  · rename_i es n h
    cases e
    exact ⟨n, by simpa using h⟩
  · cases e
def getOk (K : Frag) : Bool := match dictAtK K 1374 with
  | some l => keysInt l.toArray && (match findBy Value.isInt l.toArray 5 with | some (.ref 1303) => true | _ => false)
  | none => false
theorem get_ok (P : Params) : getOk (HD.KH P) = true := by kernel_rfl
section
variable {prog : Program} {w : World} {A : Around} {E : Value → Shared → Prop} {s : Shared} {h₀ : Heap} {L : Addr} {m : PySem.Str → Option Value} {value slice : PySem.Expr}
theorem getter5 {t : Tok} {Q : Value → Shared → Prop} (F : Fr h₀ L s.heap m) (X₀ : (HD.KH w.params).In h₀) (h : Q (.ref 1303) { s with toks := s.toks + 1 })
    (hs : subscripted slice false (.ref 1374) (.int 5 t) = operate [.ref 1374, .int 5 t] (getItem (.ref 1374) (.int 5 t)) := by with_unfolding_all rfl) :
    wpAny (model prog w) A (subscriptTail value slice (.ref 1374) (.int 5 t)) Q E s := by
  have ok := get_ok w.params
  unfold getOk at ok
  split at ok
  · rename_i l hl
    rw [Bool.and_eq_true] at ok
    obtain ⟨ok1, ok2⟩ := ok
    obtain ⟨n, hk⟩ := dictAtK_get hl
    have hget := X₀.keeps F.keep _ _ hk
    have hf : findBy Value.isInt l.toArray 5 = some (.ref 1303) := by
      split at ok2
      · assumption
      · cases ok2
    have M : s.heap.MapOf (intKind prog w) 1374 (fun k => findBy Value.isInt l.toArray k) :=
      ⟨_, l.toArray, n, hget, ⟨rfl, rfl, rfl⟩, rfl, fun e he => by
        obtain ⟨k, t, e1, e2⟩ := keysInt_of ok1 he
        exact ⟨k, by rw [e1]; exact intKind_is prog w k t, e2⟩, fun _ => rfl⟩
    refine tail_any M.typeIs slot_dict_getitem.lookup (wpAny_getItem_of (intKind_is prog w 5 t) M hf h) hs
  · cases ok
end
end Mine
end
section
open PySem PySem.W PySem.Calls PyProof.Rows PyProof.V PySem.Spec
namespace Mine
open Builtin
theorem meets_item_out {b : Array UInt8} {i : Int} {t u : Tok} (hf : Bytes.fitsIndex i = true) (h : (seqIndex? i b.size).bind (b[·]?) = none) :
    Meets («bytes.__getitem__» ⟨[.bytes b t, .int i u], []⟩) (raisesNew "IndexError") := by
  refine .of_wp fun prog w A R s hq => ?_
  show wpAny _ _ (Bytes.subscript? (.int i u) >>= fun r => _) _ _ s
  refine wpAny_bind ?_
  unfold Bytes.subscript?
  refine wpAny_bind (wpAny_specialOf (typeIs_int s i u) F.slot_int_index.lookup ?_)
  show wpAny _ _ (if (!Bytes.fitsIndex i) = true then _ else pure (some i)) _ _ s
  rw [hf]
  refine wpAny_pure ?_
  show wpAny _ _ (match (seqIndex? i b.size).bind (b[·]?) with | some x => retInt x.toNat | none => _) _ _ s
  rw [h]
  first
    | exact wpAny_bind (wpAny_rule (by exact_raiseError plainExc_IndexError hq.1 hq.2))
    | exact wpAny_bind (wpAny_rule (wpAny_bind (by exact_raiseError plainExc_IndexError hq.1 hq.2)))
    | exact wpAny_rule (by exact_raiseError plainExc_IndexError hq.1 hq.2)
section
variable {prog : Program} {w : World} {A : Around} {E : Value → Shared → Prop} {s : Shared} {value slice : PySem.Expr} {b : Array UInt8} {t : Tok} {Q : Value → Shared → Prop} {ks : List Int} {i : Int} {h₀ : Heap} {L : Addr} {m : PySem.Str → Option Value}
theorem item_out {ui : Tok} (hh : A.handled = none) (hk : KBw.bInts b = ks) (h0 : (ks.length : Int) ≤ i) (h1 : i < 1000000)
    (hE : ∀ h' tk e, Heap.NewExc s.heap h' e "IndexError" → E (.ref e) { s with heap := h', toks := tk })
    (hs : subscripted slice false (.bytes b t) (.int i ui) = operate [.bytes b t, .int i ui] (getItem (.bytes b t) (.int i ui)) := by with_unfolding_all rfl)
    (ht : ∀ r, letTemporaryGo value (.bytes b t) r = pure () := by intro _; with_unfolding_all rfl) : wpAny (model prog w) A (subscriptTail value slice (.bytes b t) (.int i ui)) Q E s := by
  subst hk
  rw [KBw.ints_length] at h0
  have hf : Bytes.fitsIndex i = true := by
    unfold Bytes.fitsIndex
    rw [Bool.and_eq_true, decide_eq_true_eq, decide_eq_true_eq]
    omega
  have hn : (seqIndex? i b.size).bind (b[·]?) = none := by
    have e1 : ¬ (i < 0) := by omega
    have e2 : ¬ (i < (b.size : Int)) := by omega
    simp [seqIndex?, e1, e2]
  exact tail_of_ItemOn ⟨"bytes", _, FB.slot_bytes_getitem.lookup, typeIs_bytes _ _ _, getItem_meets (typeIs_bytes _ _ _) (by decide) FB.slot_bytes_getitem FB.entry_bytes_getitem (FB.args_bytes_getitem_2 _ _) (meets_item_out hf hn)
    ⟨hh, hE⟩⟩ hs ht
def intsAt (K : Frag) (a : Addr) : Bool := match K.lookup a with
  | some ⟨.type "tuple", _, .seq ⟨[.int 3 _, .int 4 _]⟩ _, _⟩ => true
  | _ => false
theorem uuids_ok (P : Params) : intsAt (HD.KH P) 232 = true := by kernel_rfl
theorem in_uuids {u : Tok} (F : Fr h₀ L s.heap m) (X₀ : (HD.KH w.params).In h₀) (h : Q (.bool false) s) : wpAny (model prog w) A (compareOp .In (.int 0 u) (.ref 232)) Q E s := by
  have ok := uuids_ok w.params
  unfold intsAt at ok
  split at ok
  · rename_i dd t3 t4 n sl hk
    have hget := X₀.keeps F.keep _ _ hk
    refine PySem.SeqAt.in_tupleAt (items := #[.int 3 t3, .int 4 t4]) (fun _ => false) ⟨_, hget, rfl, n, rfl⟩ (fun y hy => ?_) (by rw [show (#[Value.int 3 t3, Value.int 4 t4].any fun _ => false) = false by simp]; exact h)
    have hy' : y = .int 3 t3 ∨ y = .int 4 t4 := by simpa using hy
    intro prog w E Q hq
    rcases hy' with rfl | rfl
    · exact PySem.wpAny_eqBool_int hq
    · exact PySem.wpAny_eqBool_int hq
  · cases ok
end
end Mine
end
section
open PySem PySem.W PySem.Calls PyProof.Rows PyProof.V PySem.Spec
namespace Mine
section
variable {M : Model} {A : Around} {E : Value → Shared → Prop} {s' : Shared} {base g g₂ h : Heap} {outer : List Env} {L a e t : Addr} {m : PySem.Str → Option Value} {name : PySem.Str} {scope : Scope} {cd : Value} {cl : List (PySem.Str × Addr)} {Q : Unit → Shared → Prop} {news : List (Addr × Obj)}
theorem leave_newSX {cls : String} (K : Below A base outer g) (hx : Heap.NewExc h s'.heap e cls) (F : Fr g L h m) (N : News g L h news)
    (hQ : ∀ h', RaisedSN base g outer e (.type cls) news h' → RaisedN base outer e (.type cls) news h' → g.UpToSlots h' → Q () { s' with heap := h' }) (hk : scope.kind = .function := by rfl) :
    wpAny M (A.deeper (envX name scope L a cd cl)) (leaving (envX name scope L a cd cl) (.ref e)) Q E s' := by
  have K0 := K.push (name := name) (a := a) (cd := cd) F hk
  have hs : (A.deeper (envX name scope L a cd cl)).frames = some (envX name scope L a cd cl :: outer) := Around.frames_deeper K.stack
  have hfr : h.FunFrames base (envX name scope L a cd cl :: outer) := by
    obtain ⟨k1, ⟨L', o', k2, k3, k4, k5⟩, k6⟩ := K0.frames
    exact ⟨k1, ⟨L', o', k2, k3, k4, k5⟩, k6⟩
  have hin : ∀ env ∈ (envX name scope L a cd cl :: outer), ∀ b, env.frame = some b → b ∈ (envX name scope L a cd cl :: outer).filterMap (·.frame) := fun env he b hb => List.mem_filterMap.mpr ⟨env, he, hb⟩
  have st : base.StaysIn (hideAll h ((envX name scope L a cd cl :: outer).filterMap (·.frame))) := fun b o q => hideAll_get _ (K0.stays b o q) fun hm => by
    rw [(hfr.mem hm).1] at q; cases q
  have memX : ∀ b ∈ (envX name scope L a cd cl :: outer).filterMap (·.frame), b = L ∨ b ∈ outer.filterMap (·.frame) := fun b hb => kts_mem (name := name) (scope := scope) (a := a) (cd := cd) hb
  have sg : ∀ b o, g.get? b = some o → b ∉ outer.filterMap (·.frame) → (hideAll h ((envX name scope L a cd cl :: outer).filterMap (·.frame))).get? b = some o := fun b o q nm => hideAll_get _ (F.keep b o q) fun hm => by
    rcases memX b hm with z | z
    · rw [z, kts_self F] at q
      cases q
    · exact nm z
  have hl : ∀ q ∈ news, (hideAll h ((envX name scope L a cd cl :: outer).filterMap (·.frame))).get? q.1 = some q.2 ∧ g.get? q.1 = none ∧ base.get? q.1 = none := fun q hq => by
    refine ⟨hideAll_get _ (N q hq).1 fun hm => ?_, (N q hq).2.2, fresh_of_stays K.stays (N q hq).2.2⟩
    rcases memX _ hm with z | z
    · exact (N q hq).2.1 z
    · obtain ⟨o, ho, _⟩ := (K.frames.mem z).2
      rw [(N q hq).2.2] at ho
      cases ho
  obtain ⟨ob, tp, he, hcls, hd⟩ := hx.there
  have hen : (hideAll h ((envX name scope L a cd cl :: outer).filterMap (·.frame))).get? e = none := by
    cases q : (hideAll h ((envX name scope L a cd cl :: outer).filterMap (·.frame))).get? e with
    | none => rfl
    | some o =>
      have := of_hideAll _ q
      rw [hx.new] at this
      cases this
  refine wpAny_leaving_firstW (a0 := tp) hs ((funFrames_hide hfr hin).of_keeps fun b o hb _ => ⟨o, hx.keeps b o hb, rfl⟩) rfl he (fun b o hb => hx.keeps b o (of_hideAll _ hb)) hen hd rfl rfl fun h' hL => ?_
  obtain ⟨k1, ⟨_, _, k2⟩, k3, k4⟩ := hL
  have R : RaisedSN base g outer e (.type cls) news h' := ⟨_, tp, st, sg, hl, k1, hen, k2, by rw [← hcls]; exact k3⟩
  exact hQ h' R R.toN (((Heap.UpToSlots.of_keeps F.keep).trans (Heap.UpToSlots.of_keeps hx.keeps)).trans k4)
end
section
variable {prog : Program} {w : World} {A₀ : Around} {E : Value → Shared → Prop} {s' : Shared} {base g g₀ G : Heap} {outer : List Env} {L a e t : Addr} {m : PySem.Str → Option Value} {name : PySem.Str} {scope : Scope} {cd cls : Value}
  {pos rp : Pos} {rest : List ExceptHandler} {Q : Flow → Shared → Prop} {news : List (Addr × Obj)} {KF : Frag} {vs : List Value} {tt : PySem.Expr}
  {p : Program} {loose : List PySem.Str} {mean : ExcName → Option Value} {mg mb : PySem.Str → Option Value}
theorem reraise_S (R : RaisedS base G (envOf name scope L a cd :: outer) e cls t vs news s'.heap) (F : Fr g L G m) (K : Below A₀ base outer g) (hsm : G.UpToSlots s'.heap) (XB : KF.In base) (TB : Top p loose mean mg mb base)
    (T : KtsTest prog w KF p loose mg mb name scope L a cd cls tt true)
    (k : ∀ h', RaisedH base G (envOf name scope L a cd :: outer) L e cls t vs news h' → G.UpToSlots h' → E (.ref e) { s' with heap := h' })
    (hE : PassesOwnAt (model prog w) ((A₀.deeper (envOf name scope L a cd)).mark (some (.ref e))) (A₀.deeper (envOf name scope L a cd)) (envOf name scope L a cd) E := by passes_own) :
    wpAny (model prog w) (A₀.deeper (envOf name scope L a cd)) (handleBy (.ref e) (envOf name scope L a cd) (.ExceptHandler (some tt) none [.Raise none none rp] pos :: rest)) Q E s' := by
  have R' := R
  obtain ⟨⟨B₁, _, hBG₁, _, hfl₁, _⟩, _⟩ := R'
  obtain ⟨g₅, T₅, F₅, K₅⟩ := kts_ground K F hBG₁ hfl₁.1 hsm
  refine wpAny_handleBy_cons (codeAny_handlers_test (T _ _ _ _ g₅ e m F₅ (XB.keeps K₅.stays) (topRead_of (TB.keeps K₅.stays)) R.toSN.ty fun h₅ kp => ?_)) (by intro q; cases q)
  have hsm₅ : G.UpToSlots h₅ := hsm.trans (Heap.UpToSlots.of_keeps kp)
  obtain ⟨⟨B, hB, hBG, hl, hheld, hnew⟩, htup⟩ := R.keeps kp
  refine codeAny_handlers_suite ?_
  refine lands_againW hheld fun h₆ hfl₆ hsm₆ => ?_
  obtain ⟨_, _, _, oe, ws, T, oT, ts, he, hc, hd, h1, _⟩ := id hfl₆
  refine wpAny_passesOwnAt hE ?_
  refine wpAny_execs_cons ?_
  rw [arm_exec_Raise]
  refine wpAny_bind (wpAny_standAt ?_)
  show wpAny _ _ (raiseStmt (envOf name scope L a cd) none none) _ _ _
  unfold raiseStmt
  refine wpAny_bind (wpAny_handled ?_)
  show wpAny _ _ (rule "raise.bare" >>= fun _ => _) _ _ _
  refine wpAny_bind (wpAny_rule ?_)
  refine wpAny_bind (wpAny_field he hd h1 ?_)
  rw [if_neg (show ¬ ((Value.ref T == Value.none) = true) from by simp)]
  first
    | exact wpAny_bind (wpAny_pure (wpAny_bind (setFlight_onW hfl₆ fun h' hh hs => wpAny_throw (k h' ⟨⟨B, hB, hBG, hl, hh, hnew⟩, (htup.of_slots hsm₆).of_slots hs⟩ ((hsm₅.trans hsm₆).trans hs)))))
    | exact wpAny_bind (setFlight_onW hfl₆ fun h' hh hs => wpAny_throw (k h' ⟨⟨B, hB, hBG, hl, hh, hnew⟩, (htup.of_slots hsm₆).of_slots hs⟩ ((hsm₅.trans hsm₆).trans hs)))
end
section
variable {prog : Program} {w : World} {A : Around} {E : Value → Shared → Prop} {s : Shared} {value slice : PySem.Expr} {t : Tok} {Q : Value → Shared → Prop} {h₀ : Heap} {L d : Addr} {m : PySem.Str → Option Value} {news : List (Addr × Obj)} {o : Obj} {kvs : List (PySem.Str × Value)} {x : PySem.Str} {v : Value}
theorem item_dictAny (N : News h₀ L s.heap news) (hm : (d, o) ∈ news) (hd : Obj.IsDictOf (strKind prog w) o kvs) (hv : PySem.valueAt kvs x = some v) (h : Q v { s with toks := s.toks + 1 })
    (hs : subscripted slice false (.ref d) (.str x t) = operate [.ref d, .str x t] (getItem (.ref d) (.str x t)) := by with_unfolding_all rfl) :
    wpAny (model prog w) A (subscriptTail value slice (.ref d) (.str x t)) Q E s := by
  have D : s.heap.DictOf (strKind prog w) d kvs := Heap.dictOf_iff.mpr ⟨o, N.get hm, hd⟩
  exact tail_any D.mapOf.typeIs slot_dict_getitem.lookup (wpAny_getItem_of (strKind_is prog w x t) D.mapOf hv h) hs
end
end Mine
end
section
open PySem PySem.W PySem.Calls PyProof.Rows
namespace Mine
theorem dictAt {KT : Type} [DecidableEq KT] {prog : Program} {w : World} {knd : KeyKind prog w KT} {h₀ h : Heap} {L a : Addr} {news : List (Addr × Obj)} {o : Obj} {kvs : List (KT × Value)} (N : News h₀ L h news) (hm : (a, o) ∈ news) (hd : Obj.IsDictOf knd o kvs) : KitAt a "dict" h := by
  obtain ⟨_, _, e, _⟩ := hd
  exact kitAt_N N hm e.1
theorem News.sub {h₀ h : Heap} {L : Addr} {a b : List (Addr × Obj)} (N : News h₀ L h a) (hs : ∀ p ∈ b, p ∈ a) : News h₀ L h b := fun p hp => N p (hs p hp)
section
variable {prog : Program} {w : World} {A A₀ : Around} {s : Shared} {base h₀ : Heap} {outer : List Env} {L a : Addr} {m : Str → Option Value} {cn : Str} {cs : Scope} {ccd : Value} {cl : List (Str × Addr)} {K : Frag} {E : Value → Shared → Prop} {Q : Value → Shared → Prop}
  {name qual : Str} {params : Arguments} {body : List Stmt} {scope : Scope} {dV kV doc pm cdv ct oc : Value} {an od : Option Addr} {osl : Array (Option Value)} {f : Addr} {vs : List Value} {binds : List (Str × Value)}
  {p : Program} {loose : List Str} {mean : ExcName → Option Value} {mg mb : Str → Option Value}
theorem enterL {led news : List (Addr × Obj)} {P : List (Addr × Obj) → Value → Prop}
    (B : Below A₀ base outer h₀) (F : Fr h₀ L s.heap m) (X₀ : K.In h₀) (N : News h₀ L s.heap (led ++ news)) (off : ∀ q ∈ news, q.1 ∉ led.map (·.1)) (T : Top p loose mean mg mb h₀) (hA : A.frames = some (envX cn cs L a ccd cl :: outer)) (hck : cs.kind = .function)
    (hret : ∀ (v : Value) (h' : Heap) (tk' : Nat) (led' : List (Addr × Obj)), Fr h₀ L h' m → News h₀ L h' (led' ++ news) → (∀ q ∈ news, q.1 ∉ led'.map (·.1)) → P led' v → Q v { s with heap := h', toks := tk' })
    (ho : K.lookup f = some ⟨oc, od, .func (fnOf name qual params body scope dV kV doc pm an cdv ct), osl⟩) (hcd : codeIn K cdv qual = true) (hroom : A.depth < recursionLimit)
    (hbind : BindsTo s (fnOf name qual params body scope dV kV doc pm an cdv ct) ⟨vs, []⟩ binds) (hloc : ∀ y ∈ binds, scope.names.lookup y.1 = some .local)
    (h : ∀ g L' h₁ (R : Result → Shared → Prop), Fr h₀ L g m → Fr g L' h₁ (fun y => binds.reverse.lookup y) → News g L' h₁ led → Below A base (envX cn cs L a ccd cl :: outer) g → K.In g → Top p loose mean mg mb g →
      (∀ (v : Value) (h' : Heap) (tk' : Nat) (L'' : Addr) (led' : List (Addr × Obj)), News g L'' h' led' → P led' v → R (.ok (.ret v)) { s with heap := h', toks := tk' }) →
      wpAny (model prog w) (A.deeper (envOf qual scope L' f cdv)) (execs body (envOf qual scope L' f cdv))
        (fun fl s' => LeaveK h₀ L m g R (match fl with | .ret v => v | _ => .none) s')
        (fun e s' => wpAny (model prog w) (A.deeper (envOf qual scope L' f cdv)) (leaving (envOf qual scope L' f cdv) e) (fun _ s'' => R (.error e) s'') (fun e' s'' => R (.error e') s'') s')
        { s with heap := h₁, toks := s.toks + binds.length })
    (hco : scope.isCoroutine = false) (hgen : scope.isGenerator = false) (hk : scope.kind = .function)
    (hcell : ∀ x ∈ scope.names, x.2 ≠ .cell) : wpAny (model prog w) A (call (.ref f) vs) Q E s := by
  refine wpAny_call ?_
  have hlim : h₀.NoLimit := T.nolimit
  have X := X₀.keeps F.keep
  refine codeAny_call_def (fd := fnOf name qual params body scope dV kV doc pm an cdv ct) (body := body) (binds := binds) hroom (X _ _ ho) rfl (hlim.keeps F.keep) (codeRec_of X hcd) rfl hbind hcell hloc (fun h₁ hns hk₁ => ?_) hco hgen hk
  have inled : ∀ q ∈ led, q ∈ led ++ news := fun q hq => List.mem_append_left _ hq
  have nm : ∀ b o, h₀.get? b = some o → b ∉ led.map (·.1) := fun b o e q => by
    obtain ⟨p, hp, rfl⟩ := List.mem_map.mp q
    rw [(N p (inled p hp)).2.2] at e; cases e
  have st : h₀.StaysIn (hideAll s.heap (led.map (·.1))) := fun b o e => hideAll_get _ (F.keep b o e) (nm b o e)
  obtain ⟨oL, es, ep, hL, hLd, hLk, hLf⟩ := F.ns
  have nL : L ∉ led.map (·.1) := fun q => by
    obtain ⟨p, hp, e⟩ := List.mem_map.mp q
    exact (N p (inled p hp)).2.1 e
  have hLg := hideAll_get (led.map (·.1)) hL nL
  have B₁ := B.push (name := cn) (scope := cs) (a := a) (cd := ccd) F hck
  have hfr : s.heap.FunFrames base (envX cn cs L a ccd cl :: outer) := by
    obtain ⟨k1, ⟨L', o', k2, k3, k4, k5⟩, k6⟩ := B₁.frames
    exact ⟨k1, ⟨L', o', k2, k3, k4, k5⟩, k6⟩
  have B₂ : Below A base (envX cn cs L a ccd cl :: outer) (hideAll s.heap (led.map (·.1))) := ⟨hA, fun b o e => st b o (B.stays b o e), funFrames_hideAll hfr fun env he b hb hf => by
    cases he with
    | head => exact nL ((Option.some.inj hf : L = b) ▸ hb)
    | tail _ he =>
      obtain ⟨L₁, o₁, hf₁, ho₁⟩ := funFrames_in B.frames env he
      rw [hf₁] at hf
      exact nm L₁ o₁ ho₁ ((Option.some.inj hf : L₁ = b) ▸ hb)⟩
  let R : Result → Shared → Prop := fun r s' => ∃ v h' tk' L'' led', r = .ok (.ret v) ∧ s' = { s with heap := h', toks := tk' } ∧ News (hideAll s.heap (led.map (·.1))) L'' h' led' ∧ P led' v
  have go := h _ s.heap.objs.size h₁ R ⟨⟨oL, es, ep, hLg, hLd, hLk, hLf⟩, st, F.above⟩ ⟨hns, fun b o e => hk₁ b o (of_hideAll _ e), Nat.le_of_eq (hideAll_size _ _)⟩
    (fun p hp => ⟨hk₁ _ _ (N p (inled p hp)).1, Nat.ne_of_lt (Heap.lt_size (N p (inled p hp)).1), hideAll_none _ (List.mem_map_of_mem hp)⟩) B₂ (X₀.keeps st) (T.keeps st)
    (fun v h' tk' L'' led' n x => ⟨v, h', tk', L'', led', rfl, rfl, n, x⟩)
  refine wpAny_mono go (fun fl s' hl => ?_) (fun e s' he => ?_)
  · obtain ⟨L', m', news', F', N', k⟩ := hl
    have FR : Fr h₀ L s'.heap m := ⟨⟨oL, es, ep, F'.keep L oL hLg, hLd, hLk, hLf⟩, fun b o e => F'.keep b o (st b o e), F.above⟩
    have r := k FR fun p hp => by
      refine ⟨(N' p hp).1, fun q => ?_, ?_⟩
      · have := (N' p hp).2.2
        rw [q, hLg] at this
        cases this
      · cases q : h₀.get? p.1 with
        | none => rfl
        | some o =>
          have := (N' p hp).2.2
          rw [st _ _ q] at this
          cases this
    obtain ⟨v, h', tk', L'', led', e1, rfl, n, x⟩ := r
    cases e1
    have rest : ∀ q ∈ news, (hideAll s.heap (led.map (·.1))).get? q.1 = some q.2 := fun q hq => hideAll_get _ (N q (List.mem_append_right _ hq)).1 (off q hq)
    refine hret _ h' tk' led' FR (fun q hq => ?_) (fun q hq hm => ?_) x
    · rcases List.mem_append.mp hq with hq | hq
      · refine ⟨(n q hq).1, fun z => ?_, ?_⟩
        · have := (n q hq).2.2
          rw [z, hLg] at this
          cases this
        · cases z : h₀.get? q.1 with
          | none => rfl
          | some o =>
            have := (n q hq).2.2
            rw [st _ _ z] at this
            cases this
      · exact ⟨F'.keep _ _ (rest q hq), (N q (List.mem_append_right _ hq)).2⟩
    · obtain ⟨z, hz, e⟩ := List.mem_map.mp hm
      have := (n z hz).2.2
      rw [e, rest q hq] at this
      cases this
  · show wpAny (model prog w) (A.deeper (envOf qual scope s.heap.objs.size f cdv)) (leaving (envOf qual scope s.heap.objs.size f cdv) e) _ _ _
    refine wpAny_mono he (fun _ _ r => ?_) (fun _ _ r => ?_)
    · obtain ⟨v, h', tk', L'', led', e1, _⟩ := r; cases e1
    · obtain ⟨v, h', tk', L'', led', e1, _⟩ := r; cases e1
theorem enterLS {led news : List (Addr × Obj)} {P : List (Addr × Obj) → Value → Prop}
    (B : Below A₀ base [] h₀) (F : Fr h₀ L s.heap m) (X₀ : K.In h₀) (N : News h₀ L s.heap (led ++ news)) (off : ∀ q ∈ news, q.1 ∉ led.map (·.1)) (T : Top p loose mean mg mb h₀) (hA : A.frames = some [envX cn cs L a ccd cl]) (hck : cs.kind = .function)
    (hret : ∀ (v : Value) (h' : Heap) (tk' : Nat) (led' : List (Addr × Obj)), Fr h₀ L h' m → News h₀ L h' (led' ++ news) → (∀ q ∈ news, q.1 ∉ led'.map (·.1)) → P led' v → Q v { s with heap := h', toks := tk' })
    (ho : K.lookup f = some ⟨oc, od, .func (fnOf name qual params body scope dV kV doc pm an cdv ct), osl⟩) (hcd : codeIn K cdv qual = true) (hroom : A.depth < recursionLimit)
    (hbind : BindsTo s (fnOf name qual params body scope dV kV doc pm an cdv ct) ⟨vs, []⟩ binds) (hloc : ∀ y ∈ binds, scope.names.lookup y.1 = some .local)
    (h : ∀ g L' h₁ (R : Result → Shared → Prop), Fr h₀ L g m → Fr g L' h₁ (fun y => binds.reverse.lookup y) → News g L' h₁ led → Below A base [envX cn cs L a ccd cl] g → K.In g → Top p loose mean mg mb g → KtsDicts ([envX cn cs L a ccd cl].filterMap (·.frame)) g →
      (∀ (v : Value) (h' : Heap) (tk' : Nat) (g'' : Heap) (L'' : Addr) (led' : List (Addr × Obj)), KtsTurn ([envX cn cs L a ccd cl].filterMap (·.frame)) g g'' → News g'' L'' h' led' → P led' v → R (.ok (.ret v)) { s with heap := h', toks := tk' }) →
      wpAny (model prog w) (A.deeper (envOf qual scope L' f cdv)) (execs body (envOf qual scope L' f cdv))
        (fun fl s' => LeaveS0 ([envX cn cs L a ccd cl].filterMap (·.frame)) h₀ L m g R (match fl with | .ret v => v | _ => .none) s')
        (fun e s' => wpAny (model prog w) (A.deeper (envOf qual scope L' f cdv)) (leaving (envOf qual scope L' f cdv) e) (fun _ s'' => R (.error e) s'') (fun e' s'' => R (.error e') s'') s')
        { s with heap := h₁, toks := s.toks + binds.length })
    (hco : scope.isCoroutine = false) (hgen : scope.isGenerator = false) (hk : scope.kind = .function)
    (hcell : ∀ x ∈ scope.names, x.2 ≠ .cell) : wpAny (model prog w) A (call (.ref f) vs) Q E s := by
  refine wpAny_call ?_
  have X := X₀.keeps F.keep
  refine codeAny_call_def (fd := fnOf name qual params body scope dV kV doc pm an cdv ct) (body := body) (binds := binds) hroom (X _ _ ho) rfl (T.nolimit.keeps F.keep) (codeRec_of X hcd) rfl hbind hcell hloc (fun h₁ hns hk₁ => ?_) hco hgen hk
  have inled : ∀ q ∈ led, q ∈ led ++ news := fun q hq => List.mem_append_left _ hq
  obtain ⟨oL, es, ep, hLg, hLd, hN, hNs, st, B₂⟩ : ∃ oL es ep, (hideAll s.heap (led.map (·.1))).get? L = some oL ∧ oL.data = .dict es ep ∧ (∀ h', h'.get? L = some oL → Heap.Ns h' L m) ∧ (∀ (sl : Array (Option Value)) h', h'.get? L = some { oL with slots := sl } → Heap.Ns h' L m) ∧
      h₀.StaysIn (hideAll s.heap (led.map (·.1))) ∧ Below A base [envX cn cs L a ccd cl] (hideAll s.heap (led.map (·.1))) := by
    have nm : ∀ b o, h₀.get? b = some o → b ∉ led.map (·.1) := fun b o e q => by
      obtain ⟨p, hp, rfl⟩ := List.mem_map.mp q
      rw [(N p (inled p hp)).2.2] at e
      cases e
    have st : h₀.StaysIn (hideAll s.heap (led.map (·.1))) := fun b o e => hideAll_get _ (F.keep b o e) (nm b o e)
    obtain ⟨oL, es, ep, hL, hLd, hLk, hLf⟩ := F.ns
    have nL : L ∉ led.map (·.1) := fun q => by
      obtain ⟨p, hp, e⟩ := List.mem_map.mp q
      exact (N p (inled p hp)).2.1 e
    have hLg := hideAll_get (led.map (·.1)) hL nL
    have B₁ := B.push (name := cn) (scope := cs) (a := a) (cd := ccd) F hck
    have hfr : s.heap.FunFrames base [envX cn cs L a ccd cl] := by
      obtain ⟨k1, ⟨L', o', k2, k3, k4, k5⟩, k6⟩ := B₁.frames
      exact ⟨k1, ⟨L', o', k2, k3, k4, k5⟩, k6⟩
    exact ⟨oL, es, ep, hLg, hLd, fun h' e => ⟨oL, es, ep, e, hLd, hLk, hLf⟩, fun sl h' e => ⟨_, es, ep, e, hLd, hLk, hLf⟩, st, ⟨hA, fun b o e => st b o (B.stays b o e), funFrames_hideAll hfr fun env he b hb hf => by
      cases he with
      | head => exact nL ((Option.some.inj hf : L = b) ▸ hb)
      | tail _ he => cases he⟩⟩
  have memX : ∀ b, b ∈ [envX cn cs L a ccd cl].filterMap (·.frame) → b = L ∨ b ∈ ([] : List Env).filterMap (·.frame) := fun b hb => kts_mem (name := cn) (scope := cs) (a := a) (cd := ccd) (outer := []) hb
  have nL₀ : h₀.get? L = none := kts_self F
  let R : Result → Shared → Prop := fun r s' => ∃ v h' tk' g'' L'' led', r = .ok (.ret v) ∧ s' = { s with heap := h', toks := tk' } ∧ KtsTurn ([envX cn cs L a ccd cl].filterMap (·.frame)) (hideAll s.heap (led.map (·.1))) g'' ∧ News g'' L'' h' led' ∧ P led' v
  have go := h _ s.heap.objs.size h₁ R ⟨hN _ hLg, st, F.above⟩ ⟨hns, fun b o e => hk₁ b o (of_hideAll _ e), Nat.le_of_eq (hideAll_size _ _)⟩
    (fun p hp => ⟨hk₁ _ _ (N p (inled p hp)).1, Nat.ne_of_lt (Heap.lt_size (N p (inled p hp)).1), hideAll_none _ (List.mem_map_of_mem hp)⟩) B₂ (X₀.keeps st) (T.keeps st) (fun b hb => by
      rcases memX _ hb with rfl | z
      · exact ⟨oL, es, ep, hLg, hLd⟩
      · simp at z)
    (fun v h' tk' g'' L'' led' t n x => ⟨v, h', tk', g'', L'', led', rfl, rfl, t, n, x⟩)
  refine wpAny_mono go (fun fl s' hl => ?_) (fun e s' he => ?_)
  · obtain ⟨g', L', m', news', T', F', N', k⟩ := hl
    obtain ⟨sl, hs⟩ := T'.up hLg
    have FR : Fr h₀ L s'.heap m := ⟨hNs sl _ (F'.keep _ _ hs), fun b o e => F'.keep b o (T'.other b o (st b o e) (fun q => by
      rcases memX _ q with z | z
      · rw [z, nL₀] at e
        cases e
      · simp at z)), F.above⟩
    have r := k FR fun p hp => by
      refine ⟨(N' p hp).1, fun q => ?_, ?_⟩
      · have := (N' p hp).2.2
        rw [q, hs] at this
        cases this
      · cases q : h₀.get? p.1 with
        | none => rfl
        | some o =>
          obtain ⟨sl', hs'⟩ := T'.up (st _ _ q)
          have := (N' p hp).2.2
          rw [hs'] at this
          cases this
    obtain ⟨v, h', tk', g'', L'', led', e1, rfl, t, n, x⟩ := r
    cases e1
    have rest : ∀ q ∈ news, (hideAll s.heap (led.map (·.1))).get? q.1 = some q.2 := fun q hq => hideAll_get _ (N q (List.mem_append_right _ hq)).1 (off q hq)
    obtain ⟨sl2, hs2⟩ := t.up hLg
    refine hret _ h' tk' led' FR (fun q hq => ?_) (fun q hq hm => ?_) x
    · rcases List.mem_append.mp hq with hq | hq
      · refine ⟨(n q hq).1, fun z => ?_, ?_⟩
        · have := (n q hq).2.2
          rw [z, hs2] at this
          cases this
        · cases z : h₀.get? q.1 with
          | none => rfl
          | some o =>
            obtain ⟨sl', hs'⟩ := t.up (st _ _ z)
            have := (n q hq).2.2
            rw [hs'] at this
            cases this
      · refine ⟨F'.keep _ _ (T'.other _ _ (rest q hq) fun z => ?_), (N q (List.mem_append_right _ hq)).2⟩
        rcases memX _ z with z | z
        · exact (N q (List.mem_append_right _ hq)).2.1 z
        · simp at z
    · obtain ⟨z, hz, e⟩ := List.mem_map.mp hm
      have := (n z hz).2.2
      obtain ⟨sl', hs'⟩ := t.up (rest q hq)
      rw [e, hs'] at this
      cases this
  · show wpAny (model prog w) (A.deeper (envOf qual scope s.heap.objs.size f cdv)) (leaving (envOf qual scope s.heap.objs.size f cdv) e) _ _ _
    refine wpAny_mono he (fun _ _ r => ?_) (fun _ _ r => ?_)
    · obtain ⟨v, h', tk', g'', L'', led', e1, _⟩ := r; cases e1
    · obtain ⟨v, h', tk', g'', L'', led', e1, _⟩ := r; cases e1
end
theorem dict_off {KT : Type} [DecidableEq KT] {prog : Program} {w : World} {knd : KeyKind prog w KT} {o it : Obj} {kvs : List (KT × Value)} (hd : Obj.IsDictOf knd o kvs) (hi : it.cls = .type "range_iterator") : o.cls ≠ it.cls := by
  obtain ⟨_, _, e, _⟩ := hd
  rw [e.1, hi]
  intro z
  exact absurd (Value.type.inj z) (by decide)
theorem rng5 {N n : Nat} (h : N = 13 + n) : Builtin.Range.rangeSize 5 (N : Int) 1 = ((n + 6 + 1 + 1 : Nat) : Int) := by
  unfold Builtin.Range.rangeSize
  rw [if_pos (by decide), if_pos (by omega)]
  omega
theorem fitsL {i : Int} (h0 : 0 ≤ i) (h1 : i < 1000000) : Builtin.Range.rangeFitsLong i = true := by
  unfold Builtin.Range.rangeFitsLong
  rw [Bool.and_eq_true, decide_eq_true_eq, decide_eq_true_eq]
  omega
theorem rng5s {N n : Nat} (h : N = 13 + n) (hn : n ≤ 40) : Builtin.Range.small 5 (N : Int) 1 = true := by
  unfold Builtin.Range.small
  rw [rng5 h, fitsL (i := 5) (by omega) (by omega), fitsL (i := (N : Int)) (by omega) (by omega), fitsL (i := 1) (by omega) (by omega), fitsL (i := ((n + 6 + 1 + 1 : Nat) : Int)) (by omega) (by omega), if_pos (by decide), fitsL (by omega) (by omega), Bool.or_true]
  rfl
theorem toList_eq {b c : Array UInt8} {ks : List Int} (h1 : KBw.bInts b = ks) (h2 : KBw.bInts c = ks) : (b.toList == c.toList) = true := by
  rw [bInts_inj (h1.trans h2.symm)]
  exact beq_self_eq_true _
theorem toList_ne {b c : Array UInt8} {ks ls : List Int} (h1 : KBw.bInts b = ks) (h2 : KBw.bInts c = ls) (hne : ks ≠ ls) : (b.toList == c.toList) = false := by
  rw [beq_eq_false_iff_ne]
  intro e
  exact hne (h1.symm.trans ((congrArg KBw.bInts (Array.toList_inj.mp e)).trans h2))
theorem q7 {n : Nat} (h : n ≤ 40) : (n : Int).fdiv (2 ^ Int.toNat 7) = 0 := by
  show (n : Int).fdiv 128 = 0
  rw [Int.fdiv_eq_ediv_of_nonneg _ (by decide)]
  omega
theorem mask_ : ∀ n : Fin 41, Builtin.bitAnd (Builtin.bitOr 0 (Builtin.bitAnd ((n.val : Nat) : Int) 127 * 2 ^ Int.toNat 0)) 18446744073709551615 = ((n.val : Nat) : Int) := by decide +kernel
theorem mask64 {n : Nat} (h : n ≤ 40) : Builtin.bitAnd (Builtin.bitOr 0 (Builtin.bitAnd (n : Int) 127 * 2 ^ Int.toNat 0)) 18446744073709551615 = (n : Int) := mask_ ⟨n, by omega⟩
theorem band128_ : ∀ n : Fin 41, Builtin.bitAnd ((n.val : Nat) : Int) 128 = 0 := by decide +kernel
theorem band128 {n : Nat} (h : n ≤ 40) : Builtin.bitAnd (n : Int) 128 = 0 := band128_ ⟨n, by omega⟩
theorem band127 {x : Int} (h0 : 0 ≤ x) (h1 : x < 128) : Builtin.bitAnd x 127 = x := by
  rw [bitAnd_m7]
  omega
/-- a call of a function of the text from a frame, the ledger being any -/
abbrev PlainC (f : Addr) (vs : List Value) (Res : Value → Prop) : Prop := ∀ {w : World} {p : Program} {loose : List Str} {mean : ExcName → Option Value} {mg mb : Str → Option Value} 
    (cn : Str) (cs : Scope) (a : Addr) (ccd : Value) (cl : List (Str × Addr)) (base h₀ : Heap) (L : Addr) (m : Str → Option Value) (s : Shared) (Q E : Value → Shared → Prop) (news : List (Addr × Obj))
    (_ : Below callerA base [] h₀) (_ : CodeHd base 99 95) (_ : CodeHd base 1655 1651) (_ : (HD.KH w.params).In base) (_ : Top p loose mean mg mb base) (_ : Fr h₀ L s.heap m) (_ : (HD.KH w.params).In h₀) (_ : News h₀ L s.heap news) (_ : Top p loose mean mg mb h₀) (_ : cs.kind = .function) 
    (_ : ∀ (v : Value) (h' : Heap) (tk' : Nat), Fr h₀ L h' m → News h₀ L h' news → Res v → Q v { s with heap := h', toks := tk' }),
    wpAny (model PySem.Challenge.pw_vn0017_01 w) (Around.deeper callerA (envX cn cs L a ccd cl)) (call (.ref f) vs) Q E s
/-- the value is bytes of these octets -/
def IsB (ks : List Int) (v : Value) : Prop := ∃ b t, v = .bytes b t ∧ KBw.bInts b = ks
def IsI (k : Int) (v : Value) : Prop := ∃ t, v = .int k t
theorem IsI.of {x k : Int} {t : Tok} (h : x = k) : IsI k (.int x t) := ⟨t, by rw [h]⟩
def IsRef (v : Value) : Prop := ∃ t, v = .str (Str.ofString "refused") t
/-- a call of a function of the text from a frame, a part of the ledger being its own -/
abbrev LedC (f : Addr) (vs : List Value) (led : List (Addr × Obj)) (P : List (Addr × Obj) → Value → Prop) : Prop := ∀ {w : World} {p : Program} {loose : List Str} {mean : ExcName → Option Value} {mg mb : Str → Option Value} 
    (cn : Str) (cs : Scope) (a : Addr) (ccd : Value) (cl : List (Str × Addr)) (base h₀ : Heap) (L : Addr) (m : Str → Option Value) (s : Shared) (Q E : Value → Shared → Prop) (news : List (Addr × Obj))
    (_ : Below callerA base [] h₀) (_ : CodeHd base 99 95) (_ : CodeHd base 1655 1651) (_ : (HD.KH w.params).In base) (_ : Top p loose mean mg mb base) (_ : Fr h₀ L s.heap m) (_ : (HD.KH w.params).In h₀) (_ : News h₀ L s.heap (led ++ news)) (_ : ∀ q ∈ news, q.1 ∉ led.map (·.1)) (_ : Top p loose mean mg mb h₀) (_ : cs.kind = .function) 
    (_ : ∀ (v : Value) (h' : Heap) (tk' : Nat) (led' : List (Addr × Obj)), Fr h₀ L h' m → News h₀ L h' (led' ++ news) → (∀ q ∈ news, q.1 ∉ led'.map (·.1)) → P led' v → Q v { s with heap := h', toks := tk' }),
    wpAny (model PySem.Challenge.pw_vn0017_01 w) (Around.deeper callerA (envX cn cs L a ccd cl)) (call (.ref f) vs) Q E s
theorem LedC.plain {f : Addr} {vs : List Value} {Res : Value → Prop} (h : LedC f vs [] fun _ v => Res v) : PlainC f vs Res := by
  intro w p loose mean mg mb cn cs a ccd cl base h₀ L m s Q E news B C1 C2 XB TB F KX N T hk hret
  exact h cn cs a ccd cl base h₀ L m s Q E news B C1 C2 XB TB F KX N (fun _ _ => List.not_mem_nil) T hk (fun v h' tk' led' F' N' _ r => hret v h' tk' F' (fun q hq => N' q (List.mem_append_right _ hq)) r)
abbrev qLam : Str := (Str.ofString "_VarintBytes" ++ Str.ofString ".<locals>.") ++ Str.ofString "<lambda>"
abbrev qDec : Str := (Str.ofString "_VarintDecoder" ++ Str.ofString ".<locals>.") ++ Str.ofString "DecodeVarint"
abbrev tab1651 (c : Addr) : Obj := tabObj (#[] ++ #[rawInt ((1198 : Nat) : Int), rawInt ((18 : Nat) : Int), .ref c])
abbrev tab95 (c : Addr) : Obj := tabObj (#[] ++ #[rawInt ((21 : Nat) : Int), rawInt ((4 : Nat) : Int), .ref c])
/-- the code object of a made function, its name known -/
def CodeO (q : Str) (oc : Obj) : Prop := ∃ vs t, oc.data = .fields vs ∧ vs[1]? = some (.str q t)
def TabL (l : List (Addr × Obj)) : Prop := l = [(1651, tabObj #[])] ∨ ∃ c oc, l = [(1651, tab1651 c), (c, oc)] ∧ CodeO qLam oc
def TabD (l : List (Addr × Obj)) : Prop := l = [(95, tabObj #[])] ∨ ∃ c oc, l = [(95, tab95 c), (c, oc)] ∧ CodeO qDec oc
def r0 (ks : List Int) : List Int := [13 + (ks.length : Int), 0, 0, 0, 5, 112, 0, (ks.length : Int), 0, 0, 0, 0] ++ ks ++ [0]
def r1 (ks : List Int) : List Int := [4, (ks.length : Int)] ++ ks
def r2 (ks : List Int) : List Int := if ks.length = 1 ∧ ks.getD 0 0 < 128 then ks else (128 + (ks.length : Int)) :: ks
def r3 (ks : List Int) : List Int := [26, (ks.length : Int)] ++ ks
end Mine
end
section
open PySem PySem.W PySem.Calls PyProof.Rows PyProof.V PySem.Spec
namespace Mine
open Builtin
theorem take_one {id : String} {b : Array UInt8} {t : Tok} : Bytes.takeBufferQuiet? id (.bytes b t) 0 = pure (some (b, none)) := by
  unfold Bytes.takeBufferQuiet? Bytes.takeBuffer?
  rw [KBy.special_eq KBy.look_buffer, KBy.own_buffer]
  have e : Bytes.buffer? id (.bytes b t) (full := (0 : Int) == Bytes.fullReadOnly) = pure (some b) := KBy.buffer_eq
  simp only [pure_bind]
  rw [e]
  rfl
abbrev asV (p : Array UInt8 × Tok) : Value := .bytes p.1 p.2
abbrev partsOf (bl : List (Array UInt8 × Tok)) : Array (Array UInt8) := (bl.map (·.1)).toArray
abbrev takenOf (bl : List (Array UInt8 × Tok)) : List (Value × Option Value) := bl.map fun p => (asV p, none)
theorem any_heap (bl : List (Array UInt8 × Tok)) : ((takenOf bl).any fun x => x.1.onHeap) = false := by
  induction bl with
  | nil => rfl
  | cons p bl ih =>
    rw [takenOf, List.map_cons, List.any_cons]
    exact ih
section
variable {prog : Program} {w : World} {M : Model} {A : Around} {E : Value → Shared → Prop} {s : Shared}
theorem letGo_all (keep : List Value) {Q : Unit → Shared → Prop} : ∀ (bl : List (Array UInt8 × Tok)), Q () s → wpAny M A (Bytes.joinLetGo (takenOf bl) keep) Q E s
  | [], h => wpAny_pure h
  | p :: bl, h => by
    show wpAny M A (Bytes.joinLetGo ((asV p, none) :: takenOf bl) keep) Q E s
    unfold Bytes.joinLetGo
    dsimp only
    first
      | exact wpAny_bind (wpAny_letGo (letGo_all keep bl h))
      | exact wpAny_bind (wpAny_pure (wpAny_bind (wpAny_letGo (letGo_all keep bl h))))
theorem not_one {α : Type} (G : Array Value) (f : Value → α) (g : α) : G.size ≠ 1 → (match G with | #[x] => f x | _ => g) = g := by
  rcases G with ⟨l⟩
  match l with
  | [] => exact fun _ => rfl
  | [x] => exact fun h => absurd rfl h
  | a :: b :: l => exact fun _ => rfl
theorem tree_many {D : Addr} {u : Tok} {n : Nat} {bl : List (Array UInt8 × Tok)} {o : Obj} {Q : PySem.Fin → Shared → Prop} (ho : s.heap.get? D = some o) (hc : o.cls = .type "list") (hd : o.data = .seq (bl.map asV).toArray n) (h2 : 2 ≤ bl.length)
    (hz : (partsOf bl).foldl (· + ·.size) ((#[] : Array UInt8).size * ((partsOf bl).size - 1)) ≤ sizeLine) (hj : (Bytes.joined #[] (partsOf bl).toList).size ≤ sizeLine)
    (h : ∀ t' k, Q (.done (.ret (.bytes (Bytes.joined #[] (partsOf bl).toList) t'))) { s with toks := k }) :
    wpAny M A («bytes.join» ⟨[.bytes #[] u, .ref D], []⟩) Q E s := by
  obtain ⟨G, hG⟩ : ∃ G, G = (bl.map asV).toArray := ⟨_, rfl⟩
  rw [← hG] at hd
  have hsz : G.size = bl.length := by rw [hG, List.size_toArray, List.length_map]
  show wpAny M A (Bytes.joinM .bytes ⟨[.bytes #[] u, .ref D], []⟩) Q E s
  unfold Bytes.joinM
  refine wpAny_bind (wpAny_of_eq (a := (.bytes #[] u, .ref D)) (by kernel_rfl) ?_)
  unfold Bytes.joinItems
  refine wpAny_bind (wpAny_bind (wpAny_typeOf_ref ho ?_))
  rw [hc]
  rw [if_pos (by decide)]
  refine wpAny_pure ?_
  have hit : ∀ {R : Option (Array Value) → Shared → Prop} {E' : Value → Shared → Prop}, R (some G) s → wpAny M A (seqItems? (.ref D)) R E' s := by
    intro R E' q
    unfold seqItems?
    refine wpAny_bind (wpAny_load ho ?_)
    rw [hd]
    exact wpAny_pure q
  refine wpAny_bind (hit ?_)
  dsimp only
  rw [if_pos (by decide)]
  · refine Eq.mpr (congrArg (fun y => wpAny M A y Q E s) (not_one G _ _ (by omega))) ?_
    refine wpAny_bind ?_
    rw [hsz, Std.Legacy.Range.forIn_eq_forIn_range']
    refine wpAny_forIn_list _ (fun l st s' => s' = s ∧ ∃ i, i ≤ bl.length ∧ l = List.range' i (bl.length - i) ∧ st = (partsOf (bl.take i), takenOf (bl.take i))) _ (fun x rest st s' hI => ?_) (fun st s' hI => ?_) _ _ ⟨rfl, 0, Nat.zero_le _, ?_, rfl⟩
    · obtain ⟨rfl, i, hi, hl, rfl⟩ := hI
      dsimp only
      have hlt : i < bl.length := by
        rcases Nat.lt_or_ge i bl.length with h | h
        · exact h
        · rw [show bl.length - i = 0 by omega] at hl
          cases hl
      rw [show bl.length - i = (bl.length - (i + 1)) + 1 by omega, List.range'_succ] at hl
      cases hl
      obtain ⟨p, hp⟩ : ∃ p, bl[x]? = some p := ⟨_, List.getElem?_eq_getElem hlt⟩
      have hget : G.getD x .none = asV p := by
        rw [hG]
        simp [Array.getD_eq_getD_getElem?, hp]
      refine wpAny_bind (hit ?_)
      dsimp only
      rw [any_heap, if_neg (by decide), hget]
      refine wpAny_bind (wpAny_holding (wpAny_of_eq take_one ?_))
      dsimp only
      refine wpAny_bind (hit ?_)
      dsimp only
      rw [hsz, if_neg (by simp)]
      refine wpAny_pure ⟨rfl, x + 1, by omega, rfl, ?_⟩
      rw [List.take_add_one, hp]
      simp [partsOf, takenOf]
    · obtain ⟨rfl, i, hi, hl, rfl⟩ := hI
      have hi' : i = bl.length := by
        rcases Nat.lt_or_ge i bl.length with h | h
        · rw [show bl.length - i = (bl.length - (i + 1)) + 1 by omega, List.range'_succ] at hl
          cases hl
        · omega
      subst hi'
      rw [List.take_length]
      dsimp only
      refine wpAny_bind (wpAny_of_eq (a := (#[] : Array UInt8)) (by kernel_rfl) ?_)
      rw [if_neg (by unfold Bytes.tooLong; rw [decide_eq_true_eq]; exact Nat.not_lt.mpr hz)]
      refine wpAny_bind (wpAny_mkBytes ?_ hj)
      refine wpAny_bind (wpAny_holding (wpAny_point ?_))
      refine wpAny_bind (letGo_all _ _ ?_)
      exact wpAny_pure (h _ _)
    · simp
end
end Mine
end
section
open PySem PySem.W PySem.Calls PyProof.Rows PyProof.V PySem.Spec
namespace Mine
/-- the exception's context is none -/
def CtxAt (e : Addr) (h : Heap) : Prop := ∃ o vs, h.get? e = some o ∧ o.data = .fields vs ∧ vs[2]? = some .none
def GoodUpd (f : Obj → Obj) : Prop := ∀ o vs, o.data = .fields vs → ∃ vs', (f o).data = .fields vs' ∧ vs'[2]? = vs[2]?
def Pres {α : Type} : Sem α → Prop
  | .rule _ k => Pres (k ())
  | .at _ k => Pres (k ())
  | .load _ _ k => ∀ o, Pres (k o)
  | .update _ _ f k => GoodUpd f ∧ Pres (k ())
  | .alloc _ k => ∀ a, Pres (k a)
  | .loadIfAlive _ k => ∀ o, Pres (k o)
  | .point _ k => Pres (k ())
  | .fresh k => ∀ t, Pres (k t)
  | .ask k => ∀ x, Pres (k x)
  | .stack k => ∀ x, Pres (k x)
  | .thread k => ∀ x, Pres (k x)
  | .handled _ k => ∀ x, Pres (k x)
  | .choose _ _ k => ∀ x, Pres (k x)
  | .os _ _ k => ∀ x, Pres (k x)
  | .call .. | .newGen .. | .genState .. | .resume .. => False
  | _ => True
theorem ctx_upd {e a : Addr} {h : Heap} {f : Obj → Obj} (g : GoodUpd f) (c : CtxAt e h) : CtxAt e (h.update a f) := by
  obtain ⟨o, vs, ho, hd, hv⟩ := c
  by_cases q : a = e
  · subst q
    obtain ⟨vs', h1, h2⟩ := g o vs hd
    exact ⟨f o, vs', Heap.get?_update_self _ ho (Obj.isFreed_of_fields h1), h1, h2.trans hv⟩
  · exact ⟨o, vs, (Heap.get?_update_other _ _ q).trans ho, hd, hv⟩
theorem ctx_keep {e : Addr} {h h' : Heap} (k : ∀ b o, h.get? b = some o → h'.get? b = some o) (c : CtxAt e h) : CtxAt e h' :=
  let ⟨o, vs, ho, r⟩ := c; ⟨o, vs, k _ _ ho, r⟩
theorem pres_wp {α : Type} {M : Model} {Γ : PySem.Ctx} {e : Addr} {Q : α → Pos → Shared → Prop} {E : Value → Pos → Shared → Prop} (t : Sem α) : ∀ (p : Pos) (s : Shared), Pres t → CtxAt e s.heap → Sem.wp M Γ t Q E p s → Sem.wp M Γ t (fun a p' s' => CtxAt e s'.heap ∧ Q a p' s') E p s := by
  induction t with
  | pure a => exact fun p s _ c h => ⟨c, h⟩
  | raise e => exact fun p s _ c h => h
  | unsupported _ => exact fun p s _ c h => h
  | finish _ => exact fun p s _ c h => h
  | rule _ k ih => exact fun p s hp c h => ih () p s hp c h
  | «at» p' k ih => exact fun p s hp c h => ih () p' s hp c h
  | load a _ k ih => exact fun p s hp c ⟨o, ho, h⟩ => ⟨o, ho, ih o p s (hp o) c h⟩
  | update a _ f k ih => exact fun p s hp c ⟨x, h⟩ => ⟨x, ih () p _ hp.2 (ctx_upd hp.1 c) h⟩
  | alloc o k ih => exact fun p s hp c h => ih _ p _ (hp _) (ctx_keep (fun _ _ e => Heap.get?_push_of_some _ e) c) h
  | loadIfAlive a k ih => exact fun p s hp c h => ih _ p s (hp _) c h
  | point _ k ih => exact fun p s hp c h => ih () p s hp c h
  | register _ _ _ => exact fun p s _ c h => h
  | fresh k ih => exact fun p s hp c h => ih _ p _ (hp _) c h
  | ask k ih => exact fun p s hp c h => ih _ p s (hp _) c h
  | choose _ _ k ih => exact fun p s hp c ⟨x, h⟩ => ⟨x, ih _ p _ (hp _) c h⟩
  | os _ _ k ih => exact fun p s hp c h => ih _ p _ (hp _) c h
  | call _ _ _ _ _ _ => exact fun p s hp c h => hp.elim
  | handled _ k ih => exact fun p s hp c h => ih _ p s (hp _) c h
  | newGen _ _ _ => exact fun p s hp c h => hp.elim
  | genState _ _ _ => exact fun p s hp c h => hp.elim
  | resume _ _ _ _ _ => exact fun p s hp c h => hp.elim
  | yield _ _ _ _ _ => exact fun p s _ c h => h
  | stack k ih => exact fun p s hp c h => ih _ p s (hp _) c h
  | fork _ _ _ => exact fun p s _ c h => h
  | thread k ih => exact fun p s hp c h => ih _ p s (hp _) c h
  | await _ _ _ _ _ _ => exact fun p s _ c h => h
theorem presQ {α : Type} {M : Model} {A : Around} {e : Addr} {s : Shared} {t : Sem α} {Q : α → Shared → Prop} {E : Value → Shared → Prop} (hp : Pres t) (c : CtxAt e s.heap) (h : wpAny M A t (fun a s' => CtxAt e s'.heap → Q a s') E s) : wpAny M A t Q E s :=
  fun Γ p hΓ => Sem.wp_mono M Γ t (fun a _ s' ⟨x, y⟩ => y x) (fun _ _ _ x => x) p s (pres_wp t p s hp c (h Γ p hΓ))
theorem pres_bind {α β : Type} {t : Sem α} {f : α → Sem β} (ht : Pres t) (hf : ∀ a, Pres (f a)) : Pres (t >>= f) := by
  show Pres (Sem.bind t f)
  induction t with
  | pure a => exact hf a
  | raise | unsupported | finish | register | yield | fork | await => trivial
  | rule _ k ih => exact ih () ht
  | «at» p' k ih => exact ih () ht
  | load a _ k ih => exact fun o => ih o (ht o)
  | update a _ f k ih => exact ⟨ht.1, ih () ht.2⟩
  | alloc o k ih => exact fun a => ih a (ht a)
  | loadIfAlive a k ih => exact fun a => ih a (ht a)
  | point _ k ih => exact ih () ht
  | fresh k ih => exact fun a => ih a (ht a)
  | ask k ih => exact fun a => ih a (ht a)
  | choose _ _ k ih => exact fun a => ih a (ht a)
  | os _ _ k ih => exact fun a => ih a (ht a)
  | handled _ k ih => exact fun a => ih a (ht a)
  | stack k ih => exact fun a => ih a (ht a)
  | thread k ih => exact fun a => ih a (ht a)
  | call | newGen | genState | resume => exact ht.elim
theorem good_set {i : Nat} {v : Value} (hi : i ≠ 2) : GoodUpd (Obj.mapFields (·.setIfInBounds i v)) := fun o vs hd =>
  ⟨_, Obj.data_mapFields hd _, Array.getElem?_setIfInBounds_ne hi⟩
theorem good_slots {f : Obj → Array (Option Value)} : GoodUpd (fun o => { o with slots := f o }) := fun o vs hd => ⟨vs, hd, rfl⟩
theorem pres_load {a : Addr} : Pres (load a) := fun _ => trivial
theorem pres_fieldsOf {v : Value} : Pres (fieldsOf v) := by
  unfold fieldsOf
  cases v with
  | ref a =>
    refine pres_bind pres_load fun o => ?_
    cases o.data <;> trivial
  | _ => trivial
theorem pres_field {v : Value} {i : Nat} : Pres (field v i) := by
  unfold field
  refine pres_bind pres_fieldsOf fun vs => ?_
  cases vs[i]? <;> trivial
theorem pres_setField {v x : Value} {i : Nat} (hi : i ≠ 2) : Pres (setField v i x) := by
  unfold setField
  cases v with
  | ref a =>
    dsimp only
    unfold updateField
    refine pres_bind pres_load fun o => ?_
    cases o.data with
    | fields vs =>
      dsimp only
      split
      · exact ⟨good_set hi, trivial⟩
      · trivial
    | _ => trivial
  | _ => trivial
theorem pres_pure {α : Type} {a : α} : Pres (pure a : Sem α) := trivial
theorem pres_setFlight {v : Value} {f : Option Addr} : Pres (setFlight v f) := by
  unfold setFlight
  refine pres_bind pres_field fun tb => ?_
  split
  · exact pres_setField (by decide)
  · trivial
theorem pres_ite {α : Type} {c : Prop} [Decidable c] {a b : Sem α} (ha : Pres a) (hb : Pres b) : Pres (if c then a else b) := by
  split
  · exact ha
  · exact hb
theorem pres_stack : Pres stack := fun _ => trivial
theorem pres_behind {env : Env} {outer : List Env} : Pres (behindIsImport env outer) := by
  unfold behindIsImport
  refine pres_ite pres_pure ?_
  exact pres_ite pres_pure (pres_bind pres_field fun _ => pres_pure)
theorem pres_kept {env : Env} {im : Bool} {outer : List Env} : Pres (keptBack env im outer) := by
  cases outer with
  | nil =>
    unfold keptBack
    refine pres_ite pres_pure ?_
    unfold underTheClaimsCaller
    exact pres_bind (pres_bind pres_stack fun _ => pres_pure) fun _ => pres_pure
  | cons c r => exact pres_pure
theorem pres_ready : ∀ (l : List Env), Pres (readyFrames l)
  | [] => trivial
  | env :: outer => by
    unfold readyFrames
    cases env.frame with
    | none => trivial
    | some f =>
      dsimp only
      refine pres_bind pres_load fun o => ?_
      refine pres_ite pres_pure ?_
      refine pres_bind pres_behind fun im => pres_bind pres_kept fun back => ?_
      exact pres_bind ⟨good_slots, trivial⟩ fun _ => pres_ready outer
theorem pres_frameOf {env : Env} : Pres (PySem.frameOf env) := by
  unfold PySem.frameOf
  refine pres_bind (t := frameEnvs) (pres_bind pres_stack fun _ => pres_pure) fun l => ?_
  refine pres_bind ?_ fun r => ?_
  · generalize l.dropWhile _ = l'
    cases l' with
    | nil => exact pres_pure
    | cons a b => exact pres_bind (pres_ready _) fun _ => pres_pure
  · cases r <;> trivial
theorem pres_entry {a b c d e : Value} {l : List Value} : Pres (EntryCells.newEntry a b c d e l) := by
  unfold EntryCells.newEntry newFields newObj newObjAsIs
  dsimp only
  exact pres_ite (pres_bind trivial fun _ => pres_bind (fun _ => trivial) fun _ => trivial) (fun _ => trivial)
theorem pres_place {f : Addr} {b : Bool} : Pres (entryPlaceOf f b) := by
  unfold entryPlaceOf
  refine pres_bind pres_stack fun acts => ?_
  generalize acts.find? _ = r
  cases r <;> trivial
theorem pres_noteFrame {v : Value} {env : Env} : Pres (noteFrame v env) := by
  unfold noteFrame
  cases env.frame with
  | none => trivial
  | some f =>
    dsimp only
    refine pres_bind pres_field fun hd => ?_
    have last : Pres (do setField v 1 (← EntryCells.newEntry hd (← PySem.frameOf env) .none (rawInt f) .none (← entryPlaceOf f (hd != .none)))) :=
      pres_bind pres_frameOf fun fr => pres_bind pres_place fun pl => pres_bind pres_entry fun en => pres_setField (by decide)
    refine pres_ite ?_ last
    refine pres_bind pres_field fun x => pres_ite pres_pure ?_
    exact pres_bind (pres_setField (by decide)) fun _ => last
theorem pres_leaving {v : Value} {env : Env} : Pres (leaving env v) := pres_bind pres_noteFrame fun _ => pres_setFlight
end Mine
end
section
open PySem PySem.W PySem.Calls PyProof.Rows PyProof.V PySem.Spec
namespace Mine
/-- a new exception of an own class, made in a handler, its cause set to none -/
structure MadeC (h h' : Heap) (e t : Addr) (C : Addr) (vs : List Value) (e0 : Addr) : Prop where
  keeps : ∀ b o, h.get? b = some o → h'.get? b = some o
  new : h.get? e = none
  at_ : h'.get? e = some { cls := .ref C, data := .fields #[.ref t, .none, .ref e0, .none, .bool true, .none] }
  newT : h.get? t = none
  tup : h'.get? t = some { cls := .type "tuple", data := .seq vs.toArray }
section
variable {prog : Program} {w : World} {A : Around} {E : Value → Shared → Prop} {s : Shared} {name : PySem.Str} {scope : Scope} {L a : Addr} {cd : Value} {h₀ : Heap} {m mg : PySem.Str → Option Value}
  {x : PySem.Str} {C e0 : Addr} {B newId initId : String} {bm : List Value} {np cpos pos cp : Pos} {ku : Nat} {Q : Flow → Shared → Prop}
theorem unchain_none {e h : Addr} {o : Obj} {vs : Array Value} {Q : Value → Shared → Prop} (ho : s.heap.get? h = some o) (hd : o.data = .fields vs) (h2 : vs[2]? = some .none) (hq : Q .none s) :
    wpAny (model prog w) A (runValue (.builtin "proto.unchain" ⟨[.ref e, .ref h, .ref h, .bool false], []⟩)) Q E s := by
  refine wpAny_runValue (codeAny_builtin (b := Builtin.«proto.unchain») (entryFor_of_tree (by kernel_rfl)) ?_)
  show wpAny _ _ (do let context ← field (.ref h) 2; _) _ _ _
  refine wpAny_bind (wpAny_field ho hd h2 ?_)
  rw [if_pos (by decide)]
  exact wpAny_pure hq
theorem excFrom_own {nm q : PySem.Str} {C N e : Addr} {bs tl : List Value} {hdct : Bool} {sn : List PySem.Str} {sub : List Value} {ab : Bool} {col : Option Bool} {dd : Option Addr} {k0 k1 k2 k3 k5 : Option Value} {newId : String} {h : Heap} {g : Array GenState} {d : Drawn} {tk : Nat} {os : OsState} {fs : Array Value} {msg : String} {Q : Value → Shared → Prop}
    (hC : h.get? C = some (excClassObj nm q C N bs tl hdct sn sub ab col dd k0 k1 k2 k3 k5 newId)) (hbase : tl.contains (.type "BaseException") = true) (he : h.get? e = some { cls := .ref C, data := .fields fs }) (hq : Q (.ref e) ⟨h, g, d, tk, os⟩) :
    wpAny (model prog w) A (excFromValue (.ref e) msg) Q E ⟨h, g, d, tk, os⟩ := by
  have hcB : (Value.ref C :: tl).contains (.type "BaseException") = true := by rw [List.contains_cons, hbase, Bool.or_true]
  unfold excFromValue
  repeat (first | with_reducible refine wpAny_loadPart_at he ?_ | with_reducible refine wpAny_loadPart_at hC ?_ | (with_reducible refine wpAny_isSubtype_exc hC ?_; rw [hcB]) | wp_step)
  exact hq
theorem raisedInst_own {nm q : PySem.Str} {C N e : Addr} {bs tl : List Value} {hdct : Bool} {sn : List PySem.Str} {sub : List Value} {ab : Bool} {col : Option Bool} {dd : Option Addr} {k0 k1 k2 k3 k5 : Option Value} {newId : String} {h : Heap} {g : Array GenState} {d : Drawn} {tk : Nat} {os : OsState} {fs : Array Value} {Q : Value → Shared → Prop}
    (hC : h.get? C = some (excClassObj nm q C N bs tl hdct sn sub ab col dd k0 k1 k2 k3 k5 newId)) (he : h.get? e = some { cls := .ref C, data := .fields fs }) (hq : Q (.ref e) ⟨h, g, d, tk, os⟩) :
    wpAny (model prog w) A (raisedInstance (.ref e)) Q E ⟨h, g, d, tk, os⟩ := by
  unfold raisedInstance
  repeat (first | with_reducible refine wpAny_loadPart_at he ?_ | with_reducible refine wpAny_loadPart_at hC ?_ | wp_step)
  exact hq
theorem isType_own {C e : Addr} {h : Heap} {g : Array GenState} {d : Drawn} {tk : Nat} {os : OsState} {fs : Array Value} {Q : Bool → Shared → Prop}
    (he : h.get? e = some { cls := .ref C, data := .fields fs }) (hq : Q false ⟨h, g, d, tk, os⟩) : wpAny (model prog w) A (isType (.ref e)) Q E ⟨h, g, d, tk, os⟩ := by
  unfold isType
  repeat (first | with_reducible refine wpAny_loadPart_at he ?_ | wp_step)
  exact hq
theorem raiseNew_in {e e0 t : Addr} {C : Addr} {h : Heap} {g : Array GenState} {d : Drawn} {tk : Nat} {os : OsState} {Q : Flow → Shared → Prop} (hh : A.handled = some (.ref e0)) (hne : e0 ≠ e) (cx : CtxAt e0 h)
    (he : h.get? e = some { cls := .ref C, data := .fields #[.ref t, .none, .none, .none, .bool true, .none] })
    (hE : ∀ h', h'.get? e = some { cls := .ref C, data := .fields #[.ref t, .none, .ref e0, .none, .bool true, .none] } → Heap.SameBut e h h' → E (.ref e) ⟨h', g, d, tk, os⟩) :
    wpAny (model prog w) A (raiseNew (.ref e)) Q E ⟨h, g, d, tk, os⟩ := by
  obtain ⟨o, ws, q1, q2, q3⟩ := cx
  unfold raiseNew
  refine wpAny_bind (wpAny_handled ?_)
  rw [hh]
  dsimp only
  rw [if_pos (by simp [hne])]
  refine wpAny_bind (wpAny_holding (unchain_none q1 q2 q3 ?_))
  show wpAny _ _ (do setField (.ref e) 2 (.ref e0); throw (.ref e)) _ _ _
  exact wpAny_bind (wpAny_setField_rec he (show (2 : Nat) < 6 by decide) fun h' he' sb => wpAny_throw (hE h' he' sb))
theorem raiseC {ea : PySem.Expr} {rpos : Pos} (F : Fr h₀ L s.heap m) (hg : h₀.Ns mainGlobals mg) (O : OwnCls x C bm newId mg h₀) (FB : ExcBaseFacts B newId initId bm) (hh : A.handled = some (.ref e0))
    (h : wpAny (model prog w) A (spliced (backTo cpos (starEach [ea] (envOf name scope L a cd)))) (fun vs s₂ => vs.length ≤ sizeLine ∧ (∀ b o, h₀.get? b = some o → s₂.heap.get? b = some o) ∧ CtxAt e0 s₂.heap ∧
      ∀ h' e t, MadeC s₂.heap h' e t C vs e0 → E (.ref e) { s₂ with heap := h' }) E s)
    (he : starEach [ea] (envOf name scope L a cd) = (false, eval ea (envOf name scope L a cd)) :: [] := by rfl)
    (hk : scope.kind = .function := by rfl) (hx : (envOf name scope L a cd).kindOf x = some .globalImplicit := by rfl) (hd : (x == ("__debug__" : PySem.Str)) = false := by decide) :
    wpAny (model prog w) A (exec (.Raise (some (.Call (.Name x np) [ea] [] cpos)) (some (.Constant .none ku cp)) rpos) (envOf name scope L a cd)) Q E s := by
  obtain ⟨tl, N, nm, q, bs, hdct, sn, sub, ab, col, dd, k0, k1, k2, k3, k5, mN, hC, hN, hni, T⟩ := O.obj
  have hbase := T.hasType FB.hasBase
  have hcB : (Value.ref C :: tl).contains (.type "BaseException") = true := by rw [List.contains_cons, hbase, Bool.or_true]
  rw [arm_exec_Raise]
  refine wpAny_bind (wpAny_standAt ?_)
  show wpAny _ _ (raiseStmt _ (some (do let v ← eval (.Call (.Name x np) [ea] [] cpos) _; standAt rpos; pure v)) (some (do let v ← eval (.Constant .none ku cp) _; standAt rpos; pure v))) _ _ _
  unfold raiseStmt
  dsimp only
  refine wpAny_bind (wpAny_mono (Q := fun v s₁ => ∃ (e t : Addr) (vs : List Value) (s₂ : Shared) (h₁ : Heap), v = .ref e ∧ s₁ = { s₂ with heap := h₁ } ∧ h₁.get? C = some (excClassObj nm q C N bs tl hdct sn sub ab col dd k0 k1 k2 k3 k5 newId) ∧
      (∀ b o, s₂.heap.get? b = some o → h₁.get? b = some o) ∧ s₂.heap.get? e = none ∧ h₁.get? e = some { cls := .ref C, data := .fields #[.ref t, .none, .none, .none, .bool false, .none] } ∧ s₂.heap.get? t = none ∧
      h₁.get? t = some { cls := .type "tuple", data := .seq vs.toArray } ∧ CtxAt e0 h₁ ∧ CtxAt e0 s₂.heap ∧ ∀ h' e t, MadeC s₂.heap h' e t C vs e0 → E (.ref e) { s₂ with heap := h' }) ?_ (fun v s₁ hv => ?_) fun _ _ x => x)
  · refine wpAny_bind (wpAny_mono (wpAny_Call_ofName (ld_own F hg O ?_ hk hx hd)) (fun v s₃ h₃ => wpAny_bind (wpAny_standAt (wpAny_pure h₃))) fun _ _ x => x)
    rw [he] at h ⊢
    unfold callWith
    refine wpAny_bind (wpAny_holding (evalArgs_plain (wpAny_mono h (fun vs s₂ h₂ => wpAny_bind (wpAny_standAt ?_)) fun _ _ x => x)))
    obtain ⟨hlen, hkp, cx, h₂⟩ := h₂
    obtain ⟨hp, g, d, tk, os⟩ := s₂
    have hC₂ := hkp _ _ hC
    refine wpAny_bind (wpAny_keeperOf_exc hC₂ ?_)
    refine wpAny_bind (wpAny_call_exc_subT (hrest := hlen) FB (T.keeps hkp) hC₂ (hN.keeps hkp) hni fun h' e hm => wpAny_bind (wpAny_holding (wpAny_point (wpAny_pure ?_))))
    obtain ⟨t, ht, hnt, htt⟩ := hm.there
    exact ⟨e, t, vs, _, h', rfl, rfl, hm.keeps _ _ hC₂, hm.keeps, hm.new, ht, hnt, htt, ctx_keep hm.keeps cx, cx, h₂⟩
  · obtain ⟨e, t, vs, s₂, h₁, rfl, rfl, hC₁, hkp, hne, he1, hnt, htt, cx₁, cx, h₂⟩ := hv
    obtain ⟨hp, g, d, tk, os⟩ := s₂
    refine wpAny_bind (wpAny_holding ?_)
    have hce : eval (.Constant .none ku cp) (envOf name scope L a cd) = pure .none := by rfl
    rw [hce]
    refine wpAny_bind (wpAny_pure (wpAny_bind (wpAny_standAt (wpAny_pure (wpAny_bind (wpAny_pure ?_))))))
    dsimp only
    refine wpAny_bind (wpAny_holding (excFrom_own hC₁ hbase he1 ?_))
    rw [if_pos (by decide)]
    refine wpAny_bind (wpAny_pure ?_)
    have hCe : C ≠ e := fun z => by rw [← z, hC₁] at he1; cases he1
    have hte : t ≠ e := fun z => by rw [← z, htt] at he1; cases he1
    have h0e : e0 ≠ e := fun z => by
      obtain ⟨o, ws, q1, _⟩ := cx
      rw [z] at q1
      exact absurd (q1.symm.trans hne) (by simp)
    refine wpAny_bind (wpAny_setField_rec he1 (show (3 : Nat) < 6 by decide) fun h₃ he3 sb3 => ?_)
    refine wpAny_bind (wpAny_setField_rec he3 (show (4 : Nat) < 6 by decide) fun h₄ he4 sb4 => ?_)
    have up4 : ∀ b o, b ≠ e → h₁.get? b = some o → h₄.get? b = some o := fun b o hb q => sb4.extBut b o hb (sb3.extBut b o hb q)
    have hC₄ := up4 _ _ hCe hC₁
    have cx₄ : CtxAt e0 h₄ := by
      obtain ⟨o, ws, q1, q2⟩ := cx₁
      exact ⟨o, ws, up4 _ _ h0e q1, q2⟩
    refine wpAny_bind ?_
    dsimp only
    refine isType_own he4 ?_
    rw [if_neg (by decide)]
    refine wpAny_bind (raisedInst_own hC₄ he4 ?_)
    refine wpAny_bind ?_
    unfold setFlight
    refine wpAny_bind (wpAny_field he4 rfl (x := .none) rfl ?_)
    rw [if_neg (by decide)]
    refine wpAny_pure ?_
    refine raiseNew_in hh h0e cx₄ he4 fun h₅ he5 sb5 => h₂ h₅ e t ⟨fun b o q => ?_, hne, he5, hnt, ?_⟩
    · have hb : b ≠ e := fun z => by
        rw [z] at q
        exact absurd (q.symm.trans hne) (by simp)
      exact sb5.extBut b o hb (up4 b o hb (hkp b o q))
    · exact sb5.extBut t _ hte (up4 _ _ hte htt)
end
end Mine
end
section
open PySem PySem.W PySem.Calls PyProof.Rows PyProof.V PySem.Spec
namespace Mine
theorem frames_upd {h h' B : Heap} : ∀ {l : List Env}, (∀ b ∈ l.filterMap (·.frame), ∀ o, h.get? b = some o → h'.get? b = some o) → h.FunFrames B l → h'.FunFrames B l
  | [], _, _ => trivial
  | env :: l, k, ⟨k1, ⟨L, o, k2, k3, k4, k5⟩, k6⟩ =>
    ⟨k1, ⟨L, o, k2, k3, k L (List.mem_filterMap.mpr ⟨env, .head _, k2⟩) o k4, k5⟩, frames_upd (fun b hb => k b (by
      obtain ⟨e, he, hf⟩ := List.mem_filterMap.mp hb
      exact List.mem_filterMap.mpr ⟨e, .tail _ he, hf⟩)) k6⟩
/-- the exception as a handler's frame sends it on -/
def HeldC (base g : Heap) (env : Env) (outer : List Env) (L e t : Addr) (cls : Value) (vs : List Value) (h' : Heap) : Prop :=
  (∃ B, base.StaysIn B ∧ (∀ b o, g.get? b = some o → b ∉ outer.filterMap (·.frame) → B.get? b = some o) ∧ Heap.HeldW B (env :: outer) e cls (.ref t) L h' ∧ B.get? t = none) ∧ h'.TupAt t vs ∧ g.UpToSlots h'
section
variable {M : Model} {A : Around} {E : Value → Shared → Prop} {s : Shared}
theorem flight_again {B : Heap} {l : List Env} {e L : Addr} {cls a0 : Value} {Q : Unit → Shared → Prop} (R : Heap.HeldW B l e cls a0 L s.heap)
    (h : ∀ h', Heap.HeldW B l e cls a0 L h' → s.heap.UpToSlots h' → Q () { s with heap := h' }) : wpAny M A (setFlight (.ref e) (some L)) Q E s := by
  obtain ⟨hkb, hen, hl, oe, vs, T, oT, ts, he, hcls, hd, h1, hnT, hTe, hT, hdT, h3⟩ := R
  have hsz : 3 < ts.size := (Array.getElem?_eq_some_iff.mp h3).1
  have oth : ∀ b, b ≠ T → (s.heap.update T (Obj.mapFields (·.setIfInBounds 3 (rawInt L)))).get? b = s.heap.get? b := fun b hb => Heap.get?_update_other _ _ (Ne.symm hb)
  have rec_ : ∀ b o, s.heap.get? b = some o → (∀ vs, o.data ≠ .fields vs) → b ≠ T := fun b o hb hn q => by
    rw [q, hT] at hb
    cases hb
    exact hn ts hdT
  unfold setFlight
  refine wpAny_bind (wpAny_field he hd h1 ?_)
  rw [if_pos (show (Value.ref T != Value.none) = true from by simp)]
  refine wpAny_setField hT hdT hsz (h _ ⟨fun b o hbo => (oth b fun q => by rw [q, hnT] at hbo; cases hbo).trans (hkb b o hbo), hen, hl.of_keeps fun b o hb hn => ⟨o, (oth b (rec_ b o hb hn)).trans hb, rfl⟩, ?_⟩ fun b o hb hn => ⟨o.slots, (oth b (rec_ b o hb hn)).trans hb⟩)
  exact ⟨oe, vs, T, _, _, (oth e (Ne.symm hTe)).trans he, hcls, hd, h1, hnT, hTe, Heap.get?_update_self _ hT (Obj.isFreed_of_fields (Obj.data_mapFields hdT _)), Obj.data_mapFields hdT _, by simp [hsz]⟩
end
section
variable {prog : Program} {w : World} {A₀ : Around} {ek : Value → Shared → Prop} {s : Shared} {base g h : Heap} {outer : List Env} {L a e e0 t C : Addr} {m : PySem.Str → Option Value} {name n : PySem.Str} {scope : Scope} {cd : Value} {vs : List Value} {pos : Pos} {Q : Unit → Shared → Prop} {E : Value → Shared → Prop}
theorem leaveSuite (K : Below A₀ base outer g) (F : Fr g L h m) (hx : MadeC h s.heap e t C vs e0) (hl : (envOf name scope L a cd).kindOf n = some .local) (hk : scope.kind = .function)
    (k : ∀ h' tk, HeldC base g (envOf name scope L a cd) outer L e t (.ref C) vs h' → ek (.ref e) { s with heap := h', toks := tk }) :
    AsSuiteRaised (model prog w) ((A₀.deeper (envOf name scope L a cd)).mark (some (.ref e0))) (envOf name scope L a cd) n pos (notedBy (model prog w) ((A₀.deeper (envOf name scope L a cd)).mark (some (.ref e0))) (envOf name scope L a cd) (cameBackBy (model prog w) (A₀.deeper (envOf name scope L a cd)) (envOf name scope L a cd) ek)) (.ref e) s := by
  have K' := K.push (name := name) (a := a) (cd := cd) F hk
  have hin : ∀ env ∈ (envOf name scope L a cd :: outer), ∀ b, env.frame = some b → b ∈ (envOf name scope L a cd :: outer).filterMap (·.frame) := fun env he b hb => List.mem_filterMap.mpr ⟨env, he, hb⟩
  obtain ⟨B, hBe⟩ : ∃ B, B = hideAll h ((envOf name scope L a cd :: outer).filterMap (·.frame)) := ⟨_, rfl⟩
  have st : base.StaysIn B := fun b o q => by
    rw [hBe]
    refine hideAll_get _ (K'.stays b o q) fun hm => ?_
    rw [(K'.frames.mem hm).1] at q
    cases q
  have gL : g.get? L = none := kts_self F
  have sg : ∀ b o, g.get? b = some o → b ∉ outer.filterMap (·.frame) → B.get? b = some o := fun b o q nm => by
    rw [hBe]
    refine hideAll_get _ (F.keep b o q) fun hm => ?_
    rcases kts_mem hm with z | z
    · rw [z, gL] at q
      cases q
    · exact nm z
  have Bh : ∀ b o, B.get? b = some o → h.get? b = some o := fun b o q => of_hideAll _ (hBe ▸ q)
  have Bnone : ∀ b, h.get? b = none → B.get? b = none := fun b q => by
    cases z : B.get? b with
    | none => rfl
    | some o => rw [Bh b o z] at q; cases q
  have BL : B.get? L = none := by
    rw [hBe]
    exact hideAll_none _ (List.mem_filterMap.mpr ⟨_, .head _, rfl⟩)
  obtain ⟨oL, esL, epL, hL, hLd, _⟩ := F.ns
  have hfs : s.heap.FunFrames B (envOf name scope L a cd :: outer) := by
    rw [hBe]
    exact (funFrames_hide K'.frames hin).of_keeps fun b o hb _ => ⟨o, hx.keeps b o hb, rfl⟩
  have hu : ∀ b o, h.get? b = some o → s.heap.get? b = some o := hx.keeps
  have tL : t ≠ L := fun z => by have := hx.newT; rw [z, hL] at this; cases this
  show wpAny _ _ (noteFrame _ _) _ _ _
  refine (?_ : wpAny _ _ (noteFrame (.ref e) (envOf name scope L a cd)) _ _ _)
  unfold noteFrame
  dsimp only [envOf]
  refine wpAny_bind (wpAny_field hx.at_ rfl (x := .none) rfl ?_)
  rw [if_neg (by decide)]
  refine wpAny_entryW (env := envOf name scope L a cd) (outer := outer) (base := B) (Around.frames_deeper K.stack) hfs rfl hx.at_ (fun b o q => hu b o (Bh b o q)) (Bnone e hx.new) rfl (show (1 : Nat) < 6 by decide) rfl fun h₁ N₁ => ?_
  obtain ⟨n1, n2, n3, n4⟩ := N₁
  have us1 : h.UpToSlots h₁ := (Heap.UpToSlots.of_keeps hu).trans n4
  refine wpAny_nameGoes hl (us1.ns F.ns) (by show (scope.kind == .class || (scope.kind == .module && _)) = false; rw [hk]; rfl) fun h₂ m₂ hn₂ sb₂ => ?_
  have up2 : ∀ b o, b ≠ L → h₁.get? b = some o → h₂.get? b = some o := fun b o hb q => sb₂.extBut b o hb q
  obtain ⟨slL, hL1⟩ := us1 L oL hL fun vs q => by rw [hLd] at q; cases q
  have notL : ∀ b o ws, h₁.get? b = some o → o.data = .fields ws → b ≠ L := fun b o ws q qd z => by
    rw [z, hL1] at q
    cases q
    exact absurd (hLd.symm.trans qd) (by simp)
  have outL : ∀ b ∈ outer.filterMap (·.frame), b ≠ L := fun b hb z => by
    obtain ⟨_, o, ho, _⟩ := K.frames.mem hb
    rw [z, gL] at ho
    cases ho
  have hH₂ : Heap.HeldW B (envOf name scope L a cd :: outer) e (.ref C) (.ref t) L h₂ := by
    refine ⟨fun b o q => up2 b o (fun z => by rw [z, BL] at q; cases q) (n1 b o q), Bnone e hx.new, ?_, ?_⟩
    · obtain ⟨k1, ⟨L', o', k2, k3, k4, k5⟩, k6⟩ := n2
      obtain ⟨o2, es2, ep2, q1, q2, _⟩ := hn₂
      refine ⟨k1, ⟨L, o2, rfl, BL, q1, fun vs q => by rw [q2] at q; cases q⟩, frames_upd (fun b hb o q => up2 b o (outL b hb) q) k6⟩
    · obtain ⟨oe, ws, T, oT, ts, he, hc, hd, h1, hnT, hTe, hT, hdT, h3⟩ := n3
      exact ⟨oe, ws, T, oT, ts, up2 _ _ (notL _ _ _ he hd) he, hc, hd, h1, hnT, hTe, up2 _ _ (notL _ _ _ hT hdT) hT, hdT, h3⟩
  have us2 : ∀ b o, b ≠ L → s.heap.get? b = some o → (∀ vs, o.data ≠ .fields vs) → ∃ sl, h₂.get? b = some { o with slots := sl } := fun b o hb q qn => by
    obtain ⟨sl, q1⟩ := n4 b o q qn
    exact ⟨sl, up2 _ _ hb q1⟩
  have ug2 : g.UpToSlots h₂ := fun b o q qn => us2 b o (fun z => by rw [z, gL] at q; cases q) (hu b o (F.keep b o q)) qn
  have tt2 : h₂.TupAt t vs := by
    obtain ⟨sl, q1⟩ := us2 t _ tL hx.tup fun ws q => by cases q
    exact ⟨_, _, q1, rfl, rfl⟩
  unfold PySem.passOn
  obtain ⟨oe, ws, T, oT, ts, he, hc, hd, h1, hrest⟩ := hH₂.2.2.2
  refine wpAny_bind (wpAny_field he hd h1 ?_)
  rw [if_neg (show ¬ ((Value.ref T == Value.none) = true) from by simp)]
  refine wpAny_bind (flight_again hH₂ fun h₃ hH₃ us3 => wpAny_throw ?_)
  show wpAny _ _ (noteFrame _ _) _ _ _
  refine wpAny_noteFrame_againW rfl hH₃.2.2.2 ?_
  obtain ⟨oe, ws, T, oT, ts, he, hc, hd, h1, hrest⟩ := hH₃.2.2.2
  unfold cameBackBy
  refine wpAny_bind (wpAny_field he hd h1 ?_)
  rw [if_neg (show ¬ ((Value.ref T == Value.none) = true) from by simp)]
  refine flight_again hH₃ fun h₄ hH₄ us4 => ?_
  exact k h₄ _ ⟨⟨B, st, sg, hH₄, Bnone t hx.newT⟩, (tt2.of_slots us3).of_slots us4, (ug2.trans us3).trans us4⟩
theorem leaveC {cls : Value} (R : HeldC base g (envOf name scope L a cd) outer L e t cls vs s.heap)
    (hQ : ∀ h', RaisedS base g outer e cls t vs [] h' → RaisedK base outer e cls t vs [] h' → g.UpToSlots h' → Q () { s with heap := h' }) :
    wpAny (model prog w) (A₀.deeper (envOf name scope L a cd)) (leaving (envOf name scope L a cd) (.ref e)) Q E s := by
  obtain ⟨⟨B, hB, hBG, hh, hnew⟩, htup, hu⟩ := R
  unfold leaving
  refine wpAny_bind (wpAny_noteFrame_againW rfl hh.2.2.2 ?_)
  refine wpAny_landsW hh fun h' hfl hs => ?_
  obtain ⟨k1, k2, ⟨_, _, k3⟩, k4⟩ := hfl
  have R : RaisedS base g outer e cls t vs [] h' := ⟨⟨B, hB, hBG, (fun q hq => nomatch hq), ⟨k1, k2, k3, k4⟩, hnew⟩, htup.of_slots hs⟩
  exact hQ h' R R.toK (hu.trans hs)
end
end Mine
end
section
open PySem PySem.W PySem.Calls PyProof.Rows PyProof.V PySem.Spec
namespace Mine
section
variable {M : Model} {A : Around} {E : Value → Shared → Prop} {s' : Shared} {base g g₂ h : Heap} {outer : List Env} {L a e t : Addr} {m : PySem.Str → Option Value} {name : PySem.Str} {scope : Scope} {cd : Value} {Q : Unit → Shared → Prop} {news : List (Addr × Obj)}
theorem ctx_made {cls : Value} {vs : List Value} (hx : Heap.MadeExcOf h s'.heap e cls vs) : CtxAt e s'.heap :=
  let ⟨_, he, _⟩ := hx.there; ⟨_, _, he, rfl, rfl⟩
theorem leaveC1 {cls : Value} {vs : List Value} (K : Below A base outer g) (hx : Heap.MadeExcOf h s'.heap e cls vs) (F : Fr g L h m) (N : News g L h news)
    (hQ : ∀ h' t, RaisedS base g outer e cls t vs news h' → CtxAt e h' → g.UpToSlots h' → Q () { s' with heap := h' }) (hk : scope.kind = .function := by rfl) :
    wpAny M (A.deeper (envOf name scope L a cd)) (leaving (envOf name scope L a cd) (.ref e)) Q E s' :=
  presQ pres_leaving (ctx_made hx) (leave_raiseS K hx F N (fun h' t R _ U c => hQ h' t R c U) hk)
theorem leaveC2 {cls : Value} {vs : List Value} (K : Below A base outer g) (F : Fr g L g₂ m) (R : RaisedS base g₂ (envOf name scope L a cd :: outer) e cls t vs news s'.heap) (c : CtxAt e s'.heap) (hsm : g₂.UpToSlots s'.heap)
    (hQ : ∀ h', RaisedS base g outer e cls t vs news h' → CtxAt e h' → g.UpToSlots h' → Q () { s' with heap := h' }) :
    wpAny M (A.deeper (envOf name scope L a cd)) (leaving (envOf name scope L a cd) (.ref e)) Q E s' :=
  presQ pres_leaving c (leave_onS K F R hsm fun h' R _ U c => hQ h' R c U)
end
section
variable {prog : Program} {w : World} {A₀ : Around} {E : Value → Shared → Prop} {s' : Shared} {base g g₀ G : Heap} {outer : List Env} {L a e t C : Addr} {m : PySem.Str → Option Value} {name : PySem.Str} {scope : Scope} {cd cls v0 : Value}
  {vs : List Value} {n : PySem.Str} {pos np cpos rpos cp : Pos} {ku : Nat} {rest : List ExceptHandler} {Q : Flow → Shared → Prop} {KF : Frag} {tt ea : PySem.Expr} {news : List (Addr × Obj)}
  {p : Program} {loose : List PySem.Str} {mean : ExcName → Option Value} {mg mb : PySem.Str → Option Value} {x : PySem.Str} {Bn newId initId : String} {bm : List Value}
theorem held_turn {env : Env} {g₁ h : Heap} (T : KtsTurn (outer.filterMap (·.frame)) g₀ g₁) (H : HeldC base g₁ env outer L e t cls vs h) : HeldC base g₀ env outer L e t cls vs h := by
  obtain ⟨⟨B, k1, k2, k3⟩, k4, k5⟩ := H
  refine ⟨⟨B, k1, fun b o q nm => k2 b o (T.other b o q nm) nm, k3⟩, k4, fun b o q qn => ?_⟩
  by_cases hm : b ∈ outer.filterMap (·.frame)
  · obtain ⟨sl, q1⟩ := T.frame b o q hm
    obtain ⟨sl', q2⟩ := k5 b _ q1 qn
    exact ⟨sl', q2⟩
  · exact k5 b o (T.other b o q hm) qn
theorem catchC (R : RaisedS base G (envOf name scope L a cd :: outer) e cls t vs news s'.heap) (cx : CtxAt e s'.heap) (F : Fr g L G m) (K : Below A₀ base outer g) (hsm : G.UpToSlots s'.heap) (XB : KF.In base) (TB : Top p loose mean mg mb base)
    (D : KtsDicts (outer.filterMap (·.frame)) g) (T0 : KtsTurn (outer.filterMap (·.frame)) g₀ g) (T : KtsTest prog w KF p loose mg mb name scope L a cd cls tt true)
    (O : ∀ {h : Heap}, KF.In h → TopRead p loose mg mb h → OwnCls x C bm newId mg h) (FB : ExcBaseFacts Bn newId initId bm)
    (hk : scope.kind = .function) (hlo : (envOf name scope L a cd).kindOf n = some .local) (hx : (envOf name scope L a cd).kindOf x = some .globalImplicit) (hd : (x == ("__debug__" : PySem.Str)) = false)
    (hst : starEach [ea] (envOf name scope L a cd) = (false, eval ea (envOf name scope L a cd)) :: [])
    (harg : ∀ h' g' news₂ tk (Q' : List Value → Shared → Prop) (E' : Value → Shared → Prop), Fr g' L h' (fun y => if y = n then some (.ref e) else m y) → News g' L h' news₂ → Got news₂ e t cls vs → Below A₀ base outer g' → KF.In g' → Top p loose mean mg mb g' →
      (∀ v tk', Q' [v] { s' with heap := h', toks := tk' }) → wpAny (model prog w) ((A₀.deeper (envOf name scope L a cd)).mark (some (.ref e))) (spliced (backTo cpos (starEach [ea] (envOf name scope L a cd)))) Q' E' { s' with heap := h', toks := tk })
    (k : ∀ h' e' t' vs' tk, HeldC base g₀ (envOf name scope L a cd) outer L e' t' (.ref C) vs' h' → E (.ref e') { s' with heap := h', toks := tk }) :
    wpAny (model prog w) (A₀.deeper (envOf name scope L a cd)) (noteFrame (.ref e) (envOf name scope L a cd))
      (fun _ s₂ => wpAny (model prog w) (A₀.deeper (envOf name scope L a cd)) (setFlight (.ref e) none) (fun _ s₃ =>
        wpAny (model prog w) (A₀.deeper (envOf name scope L a cd)) (handleBy (.ref e) (envOf name scope L a cd) (.ExceptHandler (some tt) (some n) (.Raise (some (.Call (.Name x np) [ea] [] cpos)) (some (.Constant .none ku cp)) rpos :: []) pos :: rest)) Q E s₃) E s₂) E s' := by
  obtain ⟨⟨B, hB, hBG, _, hfl, hnew⟩, htup⟩ := R
  refine presQ pres_noteFrame cx (wpAny_looks_onW (Around.frames_deeper K.stack) rfl hfl fun h₁ hh₁ us₁ cx₁ => ?_)
  refine presQ pres_setFlight cx₁ (wpAny_landsW hh₁ fun h₂ hf₂ us₂ cx₂ => ?_)
  have hsm₂ : G.UpToSlots h₂ := (hsm.trans us₁).trans us₂
  obtain ⟨g₅, T₅, F₅, K₅⟩ := kts_ground K F hBG hf₂.1 hsm₂
  have R₂ : RaisedS base G (envOf name scope L a cd :: outer) e cls t vs [] h₂ := ⟨⟨B, hB, hBG, (fun q hq => nomatch hq), hf₂, hnew⟩, (htup.of_slots us₁).of_slots us₂⟩
  refine wpAny_handleBy_cons (codeAny_handlers_test (T _ _ _ _ g₅ e m F₅ (XB.keeps K₅.stays) (topRead_of (TB.keeps K₅.stays)) R₂.toSN.ty fun h₅ kp => ?_)) (by intro q; cases q)
  have cx₅ := ctx_keep kp cx₂
  have R₅ := R₂.keeps kp
  obtain ⟨⟨B', hB', hBG', _, hf₅, hnew'⟩, htup₅⟩ := R₅
  have hsm₅ : G.UpToSlots h₅ := hsm₂.trans (Heap.UpToSlots.of_keeps kp)
  refine codeAny_handlers_suite_as ?_
  refine presQ pres_setFlight cx₅ (lands_againW hf₅ fun h₆ hf₆ us₆ cx₆ => ?_)
  obtain ⟨g₆, T₆, F₆, K₆⟩ := kts_ground K F hBG' hf₆.1 (hsm₅.trans us₆)
  obtain ⟨oe, ws, hoe, hoec, hoed, hoe0⟩ := hf₆.first
  obtain ⟨ot, nt, hot, hotc, hotd⟩ := htup₅.of_slots us₆
  have frameNot : ∀ b o, g.get? b = some o → b ∈ outer.filterMap (·.frame) → ∃ o' es n', g.get? b = some o' ∧ o'.data = .dict es n' ∧ ∃ sl, h₆.get? b = some { o' with slots := sl } := fun b o q hm => by
    obtain ⟨o', es, n', ho', hd'⟩ := D b hm
    obtain ⟨sl, hs⟩ := (hsm₅.trans us₆) b o' (F.keep b o' ho') fun ws z => by rw [hd'] at z; cases z
    exact ⟨o', es, n', ho', hd', sl, hs⟩
  have ne₆ : g₆.get? e = none := T₆.none_ _ (kts_fresh F hBG' hf₆.2.1 fun o ho hm => by
    obtain ⟨o', es, n', _, q2, sl, q3⟩ := frameNot e o ho hm
    rw [hoe] at q3
    cases q3
    exact absurd (q2.symm.trans hoed) (by simp))
  have nt₆ : g₆.get? t = none := T₆.none_ _ (kts_fresh F hBG' hnew' fun o ho hm => by
    obtain ⟨o', es, n', _, q2, sl, q3⟩ := frameNot t o ho hm
    rw [hot] at q3
    cases q3
    exact absurd (q2.symm.trans hotd) (by simp))
  have N₆ := News.more F₆ (News.more F₆ News.nil hot (fun es n q => by rw [hotd] at q; cases q) nt₆) hoe (fun es n q => by rw [hoed] at q; cases q) ne₆
  refine stN F₆ N₆ (fun h₇ F₇ N₇ => ?_) hk hlo
  have cx₇ : CtxAt e h₇ := by
    obtain ⟨o, us, q1, q2, q3⟩ := cx₆
    rw [hoe] at q1
    cases q1
    exact ⟨oe, us, (N₇ _ (.head _)).1, q2, q3⟩
  have X₆ : KF.In g₆ := XB.keeps K₆.stays
  have P₆ : Top p loose mean mg mb g₆ := TB.keeps K₆.stays
  refine wpAny_execs_cons ?_
  refine raiseC (e0 := e) F₇ (topRead_of P₆).g (O X₆ (topRead_of P₆)) FB rfl (harg h₇ g₆ _ _ _ _ F₇ N₇ ⟨oe, ot, ws, nt, .head _, .tail _ (.head _), hoec, hoed, hoe0, hotc, hotd⟩ K₆ X₆ P₆ fun v tk' => ⟨by rw [sizeLine_eq]; exact Nat.le_of_ble_eq_true rfl, F₇.keep, cx₇, fun h₈ e' t' hm => ?_⟩) hst hk hx hd
  refine leaveSuite K₆ F₇ hm hlo hk fun h₉ tk₉ H => ?_
  exact k h₉ e' t' _ tk₉ (held_turn (T0.trans T₆) H)
end
end Mine
namespace Mine
section
variable {prog : Program} {w : World} {A : Around} {E : Value → Shared → Prop} {s : Shared} {env : Env} {x : PySem.Str} {np cpos pos : Pos} {ea : PySem.Expr} {Q : Flow → Shared → Prop}
theorem raiseVE (hh : A.handled = none) (he : starEach [ea] env = (false, eval ea env) :: []) (hn : ∀ Q' : Value → Shared → Prop, Q' (.type "ValueError") s → wpAny (model prog w) A (eval (.Name x np) env) Q' E s)
    (h : wpAny (model prog w) A (spliced (backTo cpos (starEach [ea] env))) (fun vs s₂ => vs.length ≤ sizeLine ∧ ∀ h' e, Heap.MadeExc s₂.heap h' e "ValueError" vs → E (.ref e) { s₂ with heap := h' }) E s) :
    wpAny (model prog w) A (exec (.Raise (some (.Call (.Name x np) [ea] [] cpos)) none pos) env) Q E s := by
  refine wpAny_Raise_call PySem.F.excCall_ValueError PySem.F.excRaise_ValueError hh (by rw [he]; rfl) (hn _ ⟨rfl, ?_⟩)
  rw [he] at h ⊢
  exact evalArgs_plain (wpAny_mono h (fun vs s₂ h₂ => ⟨rfl, h₂.1, h₂.2⟩) fun _ _ y => y)
end
end Mine
end
section
open PySem PySem.W PySem.Calls PyProof.Rows
namespace Mine
local macro_rules | `(tactic| kpt_piece) => `(tactic| first
  | (refine KPc.after_add0 (by kpc_g) (by kpc_text) (by kpc_obj) ?_; intro _ _)
  | (refine KPc.after_add (by kpc_g) (by kpc_text) (by kpc_obj) ?_; intro _ _)
  | (refine KPc.after_str (by kpc_g) (by kpt_len) (by kpc_obj) ?_; intro _ _))
theorem msg_mod {prog : Program} {w : World} {A : Around} {E : Value → Shared → Prop} {s : Shared} {h₀ : Heap} {L D : Addr} {news : List (Addr × Obj)} {x y : Int} {t t1 t2 : Tok} {n : Nat} {Q : Value → Shared → Prop}
    (N : News h₀ L s.heap news) (hm : (D, ({ cls := .type "tuple", data := .seq #[.int x t1, .int y t2] n } : Obj)) ∈ news) (hx0 : 0 ≤ x) (hx1 : x < 10 ^ 10) (hy0 : 0 ≤ y) (hy1 : y < 10 ^ 10)
    (h : ∀ T t' k, Q (.str T t') { s with toks := k }) : wpAny (model prog w) A (binaryOp .Mod (.str (Str.ofString "Insufficient data - %s bytes requested but only %s available") t) (.ref D)) Q E s := by
  k_dflt (refine' KPt.mod_tuple ?kptN ?kptb ?kptF ?kptm ?_; (case kptN => exact N); (case kptb => exact hm); (case kptF => kpt_eq); (case kptm => kpt_run))
  intro _ _
  exact h _ _ _
end Mine
namespace Mine
theorem frNorm {h₀ h : Heap} {L : Addr} {b b' : List (Str × Value)} (F : Fr h₀ L h (fun y => b.reverse.lookup y)) (e : b = b') : Fr h₀ L h (fun y => b'.reverse.lookup y) := e ▸ F
end Mine
end
section
open PySem PySem.W PySem.Calls PyProof.Rows
namespace Mine
/-- what the law's call gives: True, the old objects kept but the code tables grown, no generator left -/
def GoodM (c : ClaimW) (cl : Str → Option Addr) (mean : ExcName → Option Value) (args : List WData) (s₁ : Shared) (r : Result) (s' : Shared) : Prop :=
  r = .ok (.ret (.bool true)) ∧ GoodWG c cl mean args s₁ r s' ∧ s'.gens = #[]
theorem goodM_of {c : ClaimW} {cl : Str → Option Addr} {mean : ExcName → Option Value} {args : List WData} {s₁ s' : Shared} {tabs : List (Addr × Addr)} (hT : TabsAt tabs s₁.heap) (hr : ∀ cls, c.raises args cls = false) (hp : c.post args (.bool true) args = true)
    (hk : ∀ b o, (ghostOf s₁.heap tabs).get? b = some o → s'.heap.get? b = some o) (hg : GrownAll tabs s'.heap) (hos : s'.os = s₁.os) (hgens : s'.gens = #[]) : GoodM c cl mean args s₁ (.ok (.ret (.bool true))) s' := by
  have far : ∀ b o, b ∉ tabs.map (·.2) → s₁.heap.get? b = some o → s'.heap.get? b = some o := fun b o hb e => hk b o (ghost_ne e hb)
  have near : ∀ b o, b ∈ tabs.map (·.2) → s₁.heap.get? b = some o → isCodeTable s₁.heap b ∧ o = tabObj #[] ∧ ∃ ps, s'.heap.get? b = some (tabObj ps) := fun b o hb e => by
    obtain ⟨q, hq, rfl⟩ := List.mem_map.mp hb
    have z := hT q hq
    have e2 := z.2
    rw [e] at e2
    exact ⟨(z.1.tab z.2).isCodeTable, Option.some.inj e2, hg.get q hq⟩
  refine ⟨rfl, ⟨.inl ⟨.bool true, .bool true, [], rfl, hr, ReadsW.bool true, hp, fun _ => ⟨List.nodup_nil, fun a ha => by cases ha⟩⟩, ⟨fun b o e => ?_, fun b o e => ?_⟩, hos, .of_eq hgens⟩, hgens⟩
  · by_cases hb : b ∈ tabs.map (·.2)
    · obtain ⟨h1, rfl, ps, h3⟩ := near b o hb e
      exact .inr (.inl ⟨h1, rfl, #[], ps, rfl, by rw [Array.empty_append]; exact h3⟩)
    · exact .inl (far b o hb e)
  · by_cases hb : b ∈ tabs.map (·.2)
    · obtain ⟨_, _, ps, h3⟩ := near b o hb e
      exact ⟨_, h3⟩
    · exact ⟨o, far b o hb e⟩
theorem goodM_ends {c : ClaimW} {s₀ s₁ s' : Shared} {args : List WData} {vs : List Value} {as : List Addr} {r : Result} (hsame : c.same = none) (hwi : c.within = []) (hi : ∀ a b, c.ident a b = true)
    (hrd : ReadsAllW c.records (classAt s₀.heap) s₁.heap vs args as) (hold : ∀ a ∈ as, ∃ o, s₁.heap.get? a = some o) (hos₁ : s₁.os = s₀.os)
    (g : GoodM c (classAt s₀.heap) (ExcName.means s₀.heap) args { s₁ with gens := #[] } r s') : c.Ends s₀ args vs s₁ r s' ∧ s'.os = s₀.os ∧ s'.gens = #[] := by
  obtain ⟨_, ⟨hcase, hK, hos, _⟩, hg⟩ := g
  refine ⟨?_, hos.trans hos₁, hg⟩
  rcases hcase with ⟨v, d, bs, rfl, hnr, hrv, hpost, hun⟩ | ⟨e, ob, cls, rfl, he, hcls, hpr, hnew⟩
  · refine .inl ⟨v, rfl, hnr, ⟨d, args, bs, as, hrv, hrd.keepsK fun b o e hc => hK.get_of_cls e hc, hpost, fun hu => ⟨(hun hu).1, (hun hu).2, fun a ha hb => ?_⟩, fun _ _ => hi _ _⟩, (fun i hi' => by rw [hsame] at hi'; cases hi'), (fun b o hb _ _ => hK.old b o hb), fun i hi' => by rw [hwi] at hi'; cases hi'⟩
    obtain ⟨o, ho⟩ := hold a hb
    have z := (hun hu).2 a ha
    rw [show s₁.heap.get? a = none from z] at ho
    cases ho
  · exact .inr ⟨e, ob, cls, rfl, he, hcls, hpr, hnew, fun b o hb => hK.old b o hb⟩
/-- the walk of the law's call, as the head wants it -/
abbrev WalkM (q : Program) (loose : List Str) (XP : (Str → Option Value) → Heap → Prop) (YP : World → Heap → Prop) (r : RowW) (d : DefRec) (kwd : List (Str × Expr)) : Prop :=
  ∀ (w : World) (s₀ s₁ : Shared) (mg mb : Str → Option Value), Ground q loose r.records XP w s₀ mg mb s₁.heap → YP w s₁.heap → ∀ (a : Addr) (o : Obj) (pm cd doc dV kV : Value), s₁.heap.get? a = some o →
    o.data = .func { docDef d.name d.params d.body d.scope pm cd doc with defaults := dV, kwdefaults := kV } → s₁.heap.CodeRec cd d.name → Dflts mg s₁.heap d.params kwd dV kV → mg d.name = some (.ref a) → s₁.gens = #[] →
    ∀ (args : List WData) (vals : List Value) (as : List Addr), r.claim.pre args = true → WData.layableAll args = true → ReadsAllW r.records (classAt s₀.heap) s₁.heap vals args as → WellAll w.params s₁.heap vals args → (∀ a ∈ as, (a == sysModules) = false) →
      wpAny (model r.prog w) callerA (PySem.call (.ref a) vals) (fun v s' => GoodM r.claim (classAt s₀.heap) (ExcName.means s₀.heap) args s₁ (.ok (.ret v)) s') (fun e s' => GoodM r.claim (classAt s₀.heap) (ExcName.means s₀.heap) args s₁ (.error e) s') s₁
theorem headM {r : OpenRow} {q : Program} {loose : List Str} {Xt : Shared → Bool} {XP : (Str → Option Value) → Heap → Prop} {α : Type} {Yf : Shared → α} {Ya : World → α} {YP : World → Heap → Prop} {d : DefRec} {kwd : List (Str × Expr)} {N : Nat}
    (left : LeftO r.prog q loose Xt Yf Ya N false) (hY : ∀ w s, Yf s = Ya w → YP w s.heap) (hYk : ∀ w h h', YP w h → (∀ b o, h.get? b = some o → h'.get? b = some o) → YP w h')
    (hX : ∀ s, Xt s = true → XP (s.heap.nsMap mainGlobals) s.heap) (hXk : ∀ mg h h', XP mg h → (∀ b o, h.get? b = some o → h'.get? b = some o) → XP mg h')
    (hdef : defOf q r.name = some (d, kwd)) (hp : r.prog.theDef r.name = some (d.params, d.body, d.scope)) (hkw : kwWritten? d.params.kwonlyargs d.params.kw_defaults = some kwd) (hRf : ∀ s, Xt s = true → RecFacts r.records s.heap) (hwr : (!r.writes || r.records.isEmpty) = true)
    (said : r.wellSaid = true) (hch : chainsOk q = true) (hop : opensWell r.prog = true) (hfr : frees r.toRowW = true) (hin : r.within = []) (hb : r.prog.bare) (hw : r.toRowW.promised)
    (walk : WalkM q loose XP YP r.toRowW d kwd) : r.Holds := by
  obtain ⟨hsame, hu, ha, hap, hm⟩ := frees_parts hfr
  have hi := ident_freeW hu ha hap
  refine ⟨said, hw, ⟨hb, hop, by show r.makers.map _ = []; rw [hm]; rfl⟩, hw.witness, fun w => ⟨(left.behind hX hch w).1, fun s' hs' => ?_⟩⟩
  obtain ⟨s₀, hf, hg0, s, hT, hz, hgens, hg, G₀, y⟩ := (left.behind (XP := fun mg h => XP mg h ∧ RecFacts r.records h) (fun s hs => ⟨hX s hs, hRf s hs⟩) hch w).2 s' hs'
  obtain ⟨x1, RF⟩ := G₀.X
  have G1 : Ground q loose [] XP w s (s.heap.nsMap mainGlobals) (s.heap.nsMap builtinsNs) s.heap := ⟨G₀.T, G₀.B, G₀.D, G₀.TE, G₀.TD, G₀.W, x1, G₀.cls, G₀.has, G₀.apart, G₀.once, G₀.K⟩
  have G2 : Ground q loose r.records XP w s _ _ s.heap := RF.ground G1
  refine ⟨s₀, hf, hg0, s, hT, fun n hn => ?_, RF.1, RF.2.1, ?_⟩
  · have e : n = r.name := by split at hn <;> simp_all
    subst e
    exact pinned_of_view hg G1 hdef hp hkw
  · refine ClaimW.callFrom_of_specN (c := r.toRowW.claim) hz (by simpa using hgens) fun args hpre hlay ord hord => ?_
    obtain ⟨⟨vs, s₁⟩, hlaid⟩ := Option.isSome_iff_exists.mp (layAllW_isSome (P := w.params) (ord := ord) G2.has args r.args s (pre_splitW hpre).1)
    have kp := layAllW_keeps _ _ _ hlaid
    have rest := layAllW_rest _ _ _ hlaid
    obtain ⟨as, hrd, hnew, hold⟩ := reads_layAllW hord _ _ _ hlaid hlay s₁.heap fun _ _ e => e
    have G3 := G2.keeps hXk kp
    have hfit : WellAll w.params s₁.heap vs args := well_layAllW hord args s _ hlaid _ fun _ _ e => e
    have hsys : ∀ a ∈ as, (a == sysModules) = false := fun a ha => by
      have l := (hnew.2.2 a ha).1
      refine beq_eq_false_iff_ne.mpr fun e => ?_
      rw [e] at l
      exact absurd G2.low (Nat.not_lt.mpr l)
    obtain ⟨a, o, pm, cd, doc, dV, kV, f1, f2, f3, f4, f5⟩ := G3.fn hdef
    have z := walk w s { s₁ with gens := #[] } _ _ G3 (hYk _ _ _ (hY w s y) kp) a o pm cd doc dV kV f2 f3 f4 f5 (by rw [defOf_name hdef]; exact f1) rfl args vs as hpre hlay hrd hfit hsys
    have fin : ∀ (res : Result) (s' : Shared), GoodM r.toRowW.claim (classAt s.heap) (ExcName.means s.heap) args { s₁ with gens := #[] } res s' →
        r.toRowW.claim.Ends s args vs s₁ res s' ∧ s'.os = s.os ∧ s'.gens = #[] ∧ (r.writes = true → namesKept r.prog r.keeps s.heap s'.heap ∧ ∀ x ∈ r.records, ∀ a, classAt s.heap x.1 = some a → recordClass s'.heap a x.1 (x.2.map (·.1)) = true) := fun res s' g => by
      have e := goodM_ends (c := r.toRowW.claim) hsame hin hi hrd hold rest.2.2.1 g
      exact ⟨e.1, e.2.1, e.2.2, fun q => ⟨namesKept_of hT hg _ kp g.2.1.2.1.old, noTable hwr q⟩⟩
    refine ⟨vs, s₁, hlaid, wpAny_bind (wpAny_nsGet G3.T.g ?_)⟩
    rw [f1]
    exact wpAny_bind (wpAny_mono z (fun v s' g => wpAny_pure ⟨_, rfl, fin _ _ g⟩) fun e s' g => fin _ _ g)
end Mine
end
section
open PySem PySem.W PySem.Calls PyProof.Rows
set_option maxHeartbeats 0
namespace HD
noncomputable section
def C0 (P : Params) : List Obj := [
  (o (t "dict") (.dict #[(er P ⟨#[95, 95, 110, 97, 109, 101, 95, 95]⟩ 1 (.str ⟨#[98, 117, 105, 108, 116, 105, 110, 115]⟩ 160)), (er P ⟨#[95, 95, 100, 111, 99, 95, 95]⟩ 2 (b "builtins.__doc__:str#opaque")), (er P ⟨#[95, 95, 112, 97, 99, 107, 97, 103, 101, 95, 95]⟩ 3 (b "builtins.__package__:str#opaque")), (er P ⟨#[95, 95, 108, 111, 97, 100, 101, 114, 95, 95]⟩ 4 (b "builtins.__loader__:shared#opaque")), (er P ⟨#[95, 95, 115, 112, 101, 99, 95, 95]⟩ 5 (b "builtins.__spec__#opaque")), (er P ⟨#[95, 95, 98, 117, 105, 108, 100, 95, 99, 108, 97, 115, 115, 95, 95]⟩ 6 (b "__build_class__")), (er P ⟨#[95, 95, 105, 109, 112, 111, 114, 116, 95, 95]⟩ 7 (b "__import__")), (er P ⟨#[97, 98, 115]⟩ 8 (b "abs")), (er P ⟨#[97, 108, 108]⟩ 9 (b "all")), (er P ⟨#[97, 110, 121]⟩ 10 (b "any")), (er P ⟨#[97, 115, 99, 105, 105]⟩ 11 (b "ascii")), (er P ⟨#[98, 105, 110]⟩ 12 (b "bin")), (er P ⟨#[98, 114, 101, 97, 107, 112, 111, 105, 110, 116]⟩ 13 (b "breakpoint")), (er P ⟨#[99, 97, 108, 108, 97, 98, 108, 101]⟩ 14 (b "callable")), (er P ⟨#[99, 104, 114]⟩ 15 (b "chr")), (er P ⟨#[99, 111, 109, 112, 105, 108, 101]⟩ 16 (b "compile")), (er P ⟨#[100, 101, 108, 97, 116, 116, 114]⟩ 17 (b "delattr")), (er P ⟨#[100, 105, 114]⟩ 18 (b "dir")), (er P ⟨#[100, 105, 118, 109, 111, 100]⟩ 19 (b "divmod")), (er P ⟨#[101, 118, 97, 108]⟩ 20 (b "eval")), (er P ⟨#[101, 120, 101, 99]⟩ 21 (b "exec")), (er P ⟨#[102, 111, 114, 109, 97, 116]⟩ 22 (b "format")), (er P ⟨#[103, 101, 116, 97, 116, 116, 114]⟩ 23 (b "getattr")), (er P ⟨#[103, 108, 111, 98, 97, 108, 115]⟩ 24 (b "globals")), (er P ⟨#[104, 97, 115, 97, 116, 116, 114]⟩ 25 (b "hasattr")), (er P ⟨#[104, 97, 115, 104]⟩ 26 (b "hash")), (er P ⟨#[104, 101, 120]⟩ 27 (b "hex")), (er P ⟨#[105, 100]⟩ 28 (b "id")), (er P ⟨#[105, 110, 112, 117, 116]⟩ 29 (b "input")), (er P ⟨#[105, 115, 105, 110, 115, 116, 97, 110, 99, 101]⟩ 30 (b "isinstance")), (er P ⟨#[105, 115, 115, 117, 98, 99, 108, 97, 115, 115]⟩ 31 (b "issubclass")), (er P ⟨#[105, 116, 101, 114]⟩ 32 (b "iter")), (er P ⟨#[97, 105, 116, 101, 114]⟩ 33 (b "aiter")), (er P ⟨#[108, 101, 110]⟩ 34 (b "len")), (er P ⟨#[108, 111, 99, 97, 108, 115]⟩ 35 (b "locals")), (er P ⟨#[109, 97, 120]⟩ 36 (b "max")), (er P ⟨#[109, 105, 110]⟩ 37 (b "min")), (er P ⟨#[110, 101, 120, 116]⟩ 38 (b "next")), (er P ⟨#[97, 110, 101, 120, 116]⟩ 39 (b "anext")), (er P ⟨#[111, 99, 116]⟩ 40 (b "oct")), (er P ⟨#[111, 114, 100]⟩ 41 (b "ord")), (er P ⟨#[112, 111, 119]⟩ 42 (b "pow")), (er P ⟨#[112, 114, 105, 110, 116]⟩ 43 (b "print")), (er P ⟨#[114, 101, 112, 114]⟩ 44 (b "repr")), (er P ⟨#[114, 111, 117, 110, 100]⟩ 45 (b "round")), (er P ⟨#[115, 101, 116, 97, 116, 116, 114]⟩ 46 (b "setattr")), (er P ⟨#[115, 111, 114, 116, 101, 100]⟩ 47 (b "sorted")), (er P ⟨#[115, 117, 109]⟩ 48 (b "sum")), (er P ⟨#[118, 97, 114, 115]⟩ 49 (b "vars")), (er P ⟨#[78, 111, 110, 101]⟩ 50 .none), (er P ⟨#[69, 108, 108, 105, 112, 115, 105, 115]⟩ 51 .ellipsis), (er P ⟨#[78, 111, 116, 73, 109, 112, 108, 101, 109, 101, 110, 116, 101, 100]⟩ 52 .notImplemented), (er P ⟨#[70, 97, 108, 115, 101]⟩ 53 (.bool false)), (er P ⟨#[84, 114, 117, 101]⟩ 54 (.bool true)), (er P ⟨#[98, 111, 111, 108]⟩ 55 (t "bool")), (er P ⟨#[109, 101, 109, 111, 114, 121, 118, 105, 101, 119]⟩ 56 (t "memoryview")), (er P ⟨#[98, 121, 116, 101, 97, 114, 114, 97, 121]⟩ 57 (t "bytearray")), (er P ⟨#[98, 121, 116, 101, 115]⟩ 58 (t "bytes")), (er P ⟨#[99, 108, 97, 115, 115, 109, 101, 116, 104, 111, 100]⟩ 59 (t "classmethod")), (er P ⟨#[99, 111, 109, 112, 108, 101, 120]⟩ 60 (t "complex")), (er P ⟨#[100, 105, 99, 116]⟩ 61 (t "dict")), (er P ⟨#[101, 110, 117, 109, 101, 114, 97, 116, 101]⟩ 62 (t "enumerate")), (er P ⟨#[102, 105, 108, 116, 101, 114]⟩ 63 (t "filter")), (er P ⟨#[102, 108, 111, 97, 116]⟩ 64 (t "float")), (er P ⟨#[102, 114, 111, 122, 101, 110, 115, 101, 116]⟩ 65 (t "frozenset")), (er P ⟨#[112, 114, 111, 112, 101, 114, 116, 121]⟩ 66 (t "property")), (er P ⟨#[105, 110, 116]⟩ 67 (t "int")), (er P ⟨#[108, 105, 115, 116]⟩ 68 (t "list")), (er P ⟨#[109, 97, 112]⟩ 69 (t "map")), (er P ⟨#[111, 98, 106, 101, 99, 116]⟩ 70 (t "object")), (er P ⟨#[114, 97, 110, 103, 101]⟩ 71 (t "range")), (er P ⟨#[114, 101, 118, 101, 114, 115, 101, 100]⟩ 72 (t "reversed")), (er P ⟨#[115, 101, 116]⟩ 73 (t "set")), (er P ⟨#[115, 108, 105, 99, 101]⟩ 74 (t "slice")), (er P ⟨#[115, 116, 97, 116, 105, 99, 109, 101, 116, 104, 111, 100]⟩ 75 (t "staticmethod")), (er P ⟨#[115, 116, 114]⟩ 76 (t "str")), (er P ⟨#[115, 117, 112, 101, 114]⟩ 77 (t "super")), (er P ⟨#[116, 117, 112, 108, 101]⟩ 78 (t "tuple")), (er P ⟨#[116, 121, 112, 101]⟩ 79 (t "type")), (er P ⟨#[122, 105, 112]⟩ 80 (t "zip")), (er P ⟨#[95, 95, 100, 101, 98, 117, 103, 95, 95]⟩ 81 (.bool true)), (er P ⟨#[66, 97, 115, 101, 69, 120, 99, 101, 112, 116, 105, 111, 110]⟩ 82 (t "BaseException")), (er P ⟨#[66, 97, 115, 101, 69, 120, 99, 101, 112, 116, 105, 111, 110, 71, 114, 111, 117, 112]⟩ 83 (t "BaseExceptionGroup")), (er P ⟨#[69, 120, 99, 101, 112, 116, 105, 111, 110]⟩ 84 (t "Exception")), (er P ⟨#[71, 101, 110, 101, 114, 97, 116, 111, 114, 69, 120, 105, 116]⟩ 85 (t "GeneratorExit")), (er P ⟨#[75, 101, 121, 98, 111, 97, 114, 100, 73, 110, 116, 101, 114, 114, 117, 112, 116]⟩ 86 (t "KeyboardInterrupt")), (er P ⟨#[83, 121, 115, 116, 101, 109, 69, 120, 105, 116]⟩ 87 (t "SystemExit")), (er P ⟨#[65, 114, 105, 116, 104, 109, 101, 116, 105, 99, 69, 114, 114, 111, 114]⟩ 88 (t "ArithmeticError")), (er P ⟨#[65, 115, 115, 101, 114, 116, 105, 111, 110, 69, 114, 114, 111, 114]⟩ 89 (t "AssertionError")), (er P ⟨#[65, 116, 116, 114, 105, 98, 117, 116, 101, 69, 114, 114, 111, 114]⟩ 90 (t "AttributeError")), (er P ⟨#[66, 117, 102, 102, 101, 114, 69, 114, 114, 111, 114]⟩ 91 (t "BufferError")), (er P ⟨#[69, 79, 70, 69, 114, 114, 111, 114]⟩ 92 (t "EOFError")), (er P ⟨#[73, 109, 112, 111, 114, 116, 69, 114, 114, 111, 114]⟩ 93 (t "ImportError")), (er P ⟨#[76, 111, 111, 107, 117, 112, 69, 114, 114, 111, 114]⟩ 94 (t "LookupError")), (er P ⟨#[77, 101, 109, 111, 114, 121, 69, 114, 114, 111, 114]⟩ 95 (t "MemoryError")), (er P ⟨#[78, 97, 109, 101, 69, 114, 114, 111, 114]⟩ 96 (t "NameError")), (er P ⟨#[79, 83, 69, 114, 114, 111, 114]⟩ 97 (t "OSError")), (er P ⟨#[82, 101, 102, 101, 114, 101, 110, 99, 101, 69, 114, 114, 111, 114]⟩ 98 (t "ReferenceError")), (er P ⟨#[82, 117, 110, 116, 105, 109, 101, 69, 114, 114, 111, 114]⟩ 99 (t "RuntimeError")), (er P ⟨#[83, 116, 111, 112, 65, 115, 121, 110, 99, 73, 116, 101, 114, 97, 116, 105, 111, 110]⟩ 100 (t "StopAsyncIteration")), (er P ⟨#[83, 116, 111, 112, 73, 116, 101, 114, 97, 116, 105, 111, 110]⟩ 101 (t "StopIteration")), (er P ⟨#[83, 121, 110, 116, 97, 120, 69, 114, 114, 111, 114]⟩ 102 (t "SyntaxError")), (er P ⟨#[83, 121, 115, 116, 101, 109, 69, 114, 114, 111, 114]⟩ 103 (t "SystemError")), (er P ⟨#[84, 121, 112, 101, 69, 114, 114, 111, 114]⟩ 104 (t "TypeError")), (er P ⟨#[86, 97, 108, 117, 101, 69, 114, 114, 111, 114]⟩ 105 (t "ValueError")), (er P ⟨#[87, 97, 114, 110, 105, 110, 103]⟩ 106 (t "Warning")), (er P ⟨#[70, 108, 111, 97, 116, 105, 110, 103, 80, 111, 105, 110, 116, 69, 114, 114, 111, 114]⟩ 107 (t "FloatingPointError")), (er P ⟨#[79, 118, 101, 114, 102, 108, 111, 119, 69, 114, 114, 111, 114]⟩ 108 (t "OverflowError")), (er P ⟨#[90, 101, 114, 111, 68, 105, 118, 105, 115, 105, 111, 110, 69, 114, 114, 111, 114]⟩ 109 (t "ZeroDivisionError")), (er P ⟨#[66, 121, 116, 101, 115, 87, 97, 114, 110, 105, 110, 103]⟩ 110 (t "BytesWarning")), (er P ⟨#[68, 101, 112, 114, 101, 99, 97, 116, 105, 111, 110, 87, 97, 114, 110, 105, 110, 103]⟩ 111 (t "DeprecationWarning")), (er P ⟨#[69, 110, 99, 111, 100, 105, 110, 103, 87, 97, 114, 110, 105, 110, 103]⟩ 112 (t "EncodingWarning")), (er P ⟨#[70, 117, 116, 117, 114, 101, 87, 97, 114, 110, 105, 110, 103]⟩ 113 (t "FutureWarning")), (er P ⟨#[73, 109, 112, 111, 114, 116, 87, 97, 114, 110, 105, 110, 103]⟩ 114 (t "ImportWarning")), (er P ⟨#[80, 101, 110, 100, 105, 110, 103, 68, 101, 112, 114, 101, 99, 97, 116, 105, 111, 110, 87, 97, 114, 110, 105, 110, 103]⟩ 115 (t "PendingDeprecationWarning")), (er P ⟨#[82, 101, 115, 111, 117, 114, 99, 101, 87, 97, 114, 110, 105, 110, 103]⟩ 116 (t "ResourceWarning")), (er P ⟨#[82, 117, 110, 116, 105, 109, 101, 87, 97, 114, 110, 105, 110, 103]⟩ 117 (t "RuntimeWarning")), (er P ⟨#[83, 121, 110, 116, 97, 120, 87, 97, 114, 110, 105, 110, 103]⟩ 118 (t "SyntaxWarning")), (er P ⟨#[85, 110, 105, 99, 111, 100, 101, 87, 97, 114, 110, 105, 110, 103]⟩ 119 (t "UnicodeWarning")), (er P ⟨#[85, 115, 101, 114, 87, 97, 114, 110, 105, 110, 103]⟩ 120 (t "UserWarning")), (er P ⟨#[66, 108, 111, 99, 107, 105, 110, 103, 73, 79, 69, 114, 114, 111, 114]⟩ 121 (t "BlockingIOError")), (er P ⟨#[67, 104, 105, 108, 100, 80, 114, 111, 99, 101, 115, 115, 69, 114, 114, 111, 114]⟩ 122 (t "ChildProcessError")), (er P ⟨#[67, 111, 110, 110, 101, 99, 116, 105, 111, 110, 69, 114, 114, 111, 114]⟩ 123 (t "ConnectionError")), (er P ⟨#[70, 105, 108, 101, 69, 120, 105, 115, 116, 115, 69, 114, 114, 111, 114]⟩ 124 (t "FileExistsError")), (er P ⟨#[70, 105, 108, 101, 78, 111, 116, 70, 111, 117, 110, 100, 69, 114, 114, 111, 114]⟩ 125 (t "FileNotFoundError")), (er P ⟨#[73, 110, 116, 101, 114, 114, 117, 112, 116, 101, 100, 69, 114, 114, 111, 114]⟩ 126 (t "InterruptedError")), (er P ⟨#[73, 115, 65, 68, 105, 114, 101, 99, 116, 111, 114, 121, 69, 114, 114, 111, 114]⟩ 127 (t "IsADirectoryError")), (er P ⟨#[78, 111, 116, 65, 68, 105, 114, 101, 99, 116, 111, 114, 121, 69, 114, 114, 111, 114]⟩ 128 (t "NotADirectoryError")), (er P ⟨#[80, 101, 114, 109, 105, 115, 115, 105, 111, 110, 69, 114, 114, 111, 114]⟩ 129 (t "PermissionError")), (er P ⟨#[80, 114, 111, 99, 101, 115, 115, 76, 111, 111, 107, 117, 112, 69, 114, 114, 111, 114]⟩ 130 (t "ProcessLookupError")), (er P ⟨#[84, 105, 109, 101, 111, 117, 116, 69, 114, 114, 111, 114]⟩ 131 (t "TimeoutError")), (er P ⟨#[73, 110, 100, 101, 110, 116, 97, 116, 105, 111, 110, 69, 114, 114, 111, 114]⟩ 132 (t "IndentationError")), (er P ⟨#[95, 73, 110, 99, 111, 109, 112, 108, 101, 116, 101, 73, 110, 112, 117, 116, 69, 114, 114, 111, 114]⟩ 133 (t "_IncompleteInputError")), (er P ⟨#[73, 110, 100, 101, 120, 69, 114, 114, 111, 114]⟩ 134 (t "IndexError")), (er P ⟨#[75, 101, 121, 69, 114, 114, 111, 114]⟩ 135 (t "KeyError")), (er P ⟨#[77, 111, 100, 117, 108, 101, 78, 111, 116, 70, 111, 117, 110, 100, 69, 114, 114, 111, 114]⟩ 136 (t "ModuleNotFoundError")), (er P ⟨#[78, 111, 116, 73, 109, 112, 108, 101, 109, 101, 110, 116, 101, 100, 69, 114, 114, 111, 114]⟩ 137 (t "NotImplementedError")), (er P ⟨#[80, 121, 116, 104, 111, 110, 70, 105, 110, 97, 108, 105, 122, 97, 116, 105, 111, 110, 69, 114, 114, 111, 114]⟩ 138 (t "PythonFinalizationError")), (er P ⟨#[82, 101, 99, 117, 114, 115, 105, 111, 110, 69, 114, 114, 111, 114]⟩ 139 (t "RecursionError")), (er P ⟨#[85, 110, 98, 111, 117, 110, 100, 76, 111, 99, 97, 108, 69, 114, 114, 111, 114]⟩ 140 (t "UnboundLocalError")), (er P ⟨#[85, 110, 105, 99, 111, 100, 101, 69, 114, 114, 111, 114]⟩ 141 (t "UnicodeError")), (er P ⟨#[66, 114, 111, 107, 101, 110, 80, 105, 112, 101, 69, 114, 114, 111, 114]⟩ 142 (t "BrokenPipeError")), (er P ⟨#[67, 111, 110, 110, 101, 99, 116, 105, 111, 110, 65, 98, 111, 114, 116, 101, 100, 69, 114, 114, 111, 114]⟩ 143 (t "ConnectionAbortedError")), (er P ⟨#[67, 111, 110, 110, 101, 99, 116, 105, 111, 110, 82, 101, 102, 117, 115, 101, 100, 69, 114, 114, 111, 114]⟩ 144 (t "ConnectionRefusedError")), (er P ⟨#[67, 111, 110, 110, 101, 99, 116, 105, 111, 110, 82, 101, 115, 101, 116, 69, 114, 114, 111, 114]⟩ 145 (t "ConnectionResetError")), (er P ⟨#[84, 97, 98, 69, 114, 114, 111, 114]⟩ 146 (t "TabError")), (er P ⟨#[85, 110, 105, 99, 111, 100, 101, 68, 101, 99, 111, 100, 101, 69, 114, 114, 111, 114]⟩ 147 (t "UnicodeDecodeError")), (er P ⟨#[85, 110, 105, 99, 111, 100, 101, 69, 110, 99, 111, 100, 101, 69, 114, 114, 111, 114]⟩ 148 (t "UnicodeEncodeError")), (er P ⟨#[85, 110, 105, 99, 111, 100, 101, 84, 114, 97, 110, 115, 108, 97, 116, 101, 69, 114, 114, 111, 114]⟩ 149 (t "UnicodeTranslateError")), (er P ⟨#[69, 120, 99, 101, 112, 116, 105, 111, 110, 71, 114, 111, 117, 112]⟩ 150 (t "ExceptionGroup")), (er P ⟨#[69, 110, 118, 105, 114, 111, 110, 109, 101, 110, 116, 69, 114, 114, 111, 114]⟩ 151 (t "OSError")), (er P ⟨#[73, 79, 69, 114, 114, 111, 114]⟩ 152 (t "OSError")), (er P ⟨#[111, 112, 101, 110]⟩ 153 (b "open")), (er P ⟨#[113, 117, 105, 116]⟩ 154 (b "builtins.quit#opaque")), (er P ⟨#[101, 120, 105, 116]⟩ 155 (b "builtins.exit#opaque")), (er P ⟨#[99, 111, 112, 121, 114, 105, 103, 104, 116]⟩ 156 (b "builtins.copyright#opaque")), (er P ⟨#[99, 114, 101, 100, 105, 116, 115]⟩ 157 (b "builtins.credits#opaque")), (er P ⟨#[108, 105, 99, 101, 110, 115, 101]⟩ 158 (b "builtins.license#opaque")), (er P ⟨#[104, 101, 108, 112]⟩ 159 (b "builtins.help#opaque"))] 159)),
  (o (t "dict") (.dict #[(er P ⟨#[98, 117, 105, 108, 116, 105, 110, 115]⟩ 162 (r 4)), (er P ⟨#[95, 95, 109, 97, 105, 110, 95, 95]⟩ 163 (r 5)), (er P ⟨#[95, 115, 116, 114, 117, 99, 116]⟩ 284 (r 13))] 3)),
  (o .none (.dict #[(er P ⟨#[105, 109, 112, 111, 114, 116, 46, 108, 111, 97, 100, 101, 100, 46, 95, 115, 116, 114, 117, 99, 116]⟩ 185 (.bool true)), (er P ⟨#[99, 108, 97, 115, 115, 46, 95, 102, 114, 111, 122, 101, 110, 95, 105, 109, 112, 111, 114, 116, 108, 105, 98, 95, 101, 120, 116, 101, 114, 110, 97, 108, 46, 95, 76, 111, 97, 100, 101, 114, 66, 97, 115, 105, 99, 115]⟩ 190 (r 16)), (er P ⟨#[119, 97, 116, 99, 104, 101, 100, 46, 105, 109, 112, 111, 114, 116]⟩ 206 (r 20)), (er P ⟨#[99, 108, 97, 115, 115, 46, 95, 102, 114, 111, 122, 101, 110, 95, 105, 109, 112, 111, 114, 116, 108, 105, 98, 95, 101, 120, 116, 101, 114, 110, 97, 108, 46, 70, 105, 108, 101, 76, 111, 97, 100, 101, 114]⟩ 207 (r 22)), (er P ⟨#[99, 108, 97, 115, 115, 46, 95, 102, 114, 111, 122, 101, 110, 95, 105, 109, 112, 111, 114, 116, 108, 105, 98, 95, 101, 120, 116, 101, 114, 110, 97, 108, 46, 69, 120, 116, 101, 110, 115, 105, 111, 110, 70, 105, 108, 101, 76, 111, 97, 100, 101, 114]⟩ 228 (r 27)), (er P ⟨#[99, 108, 97, 115, 115, 46, 95, 102, 114, 111, 122, 101, 110, 95, 105, 109, 112, 111, 114, 116, 108, 105, 98, 46, 77, 111, 100, 117, 108, 101, 83, 112, 101, 99]⟩ 256 (r 33)), (er P ⟨#[115, 121, 115, 46, 109, 111, 100, 117, 108, 101, 115, 46, 98, 111, 111, 107, 101, 100, 45, 101, 112, 111, 99, 104]⟩ 285 (i 3 0)), (er P ⟨#[99, 108, 97, 115, 115, 46, 115, 116, 114, 117, 99, 116, 46, 101, 114, 114, 111, 114]⟩ 302 (t "struct.error")), (er P ⟨#[105, 109, 112, 111, 114, 116, 46, 108, 97, 116, 101, 114, 45, 108, 97, 105, 100, 46, 95, 115, 116, 114, 117, 99, 116]⟩ 304 (.bool true)), (er P ⟨#[119, 97, 116, 99, 104, 101, 100, 46, 108, 105, 98, 114, 97, 114, 121]⟩ 306 (r 38)), (er P ⟨#[119, 97, 116, 99, 104, 101, 100, 46, 108, 105, 98, 114, 97, 114, 121, 45, 111, 98, 106, 101, 99, 116, 115]⟩ 0 (.str ⟨#[13]⟩ 0)), (e P "type.__subclasses__.Exception.0" 344 (i 59 0)), (e P "type.__subclasses__.Exception.n" 345 (i 3 0)), (e P "type.__subclasses__.Exception.1" 1347 (i 723 0)), (e P "type.__subclasses__.Exception.2" 2796 (i 1673 0))] 15)),
  (o (t "dict") (.dict #[(er P ⟨#[95, 95, 110, 97, 109, 101, 95, 95]⟩ 165 (s "law_vn0017_01" 3985)), (er P ⟨#[95, 95, 100, 111, 99, 95, 95]⟩ 166 .none), (er P ⟨#[95, 95, 112, 97, 99, 107, 97, 103, 101, 95, 95]⟩ 167 .none), (er P ⟨#[95, 95, 108, 111, 97, 100, 101, 114, 95, 95]⟩ 168 (b "__main__.__loader__#opaque")), (er P ⟨#[95, 95, 115, 112, 101, 99, 95, 95]⟩ 169 .none), (er P ⟨#[95, 95, 97, 110, 110, 111, 116, 97, 116, 105, 111, 110, 115, 95, 95]⟩ 170 (r 6)), (er P ⟨#[95, 95, 98, 117, 105, 108, 116, 105, 110, 115, 95, 95]⟩ 171 (r 4)), (er P ⟨#[95, 95, 102, 105, 108, 101, 95, 95]⟩ 173 (.str ⟨#[47, 99, 108, 97, 105, 109, 47, 99, 117, 116, 46, 112, 121]⟩ 172)), (er P ⟨#[95, 95, 99, 97, 99, 104, 101, 100, 95, 95]⟩ 174 .none), (er P ⟨#[112, 97, 99, 107]⟩ 312 (b "_struct.pack")), (e P "_wall" 325 (r 49)), (e P "Error" 347 (r 59)), (e P "DecodeError" 363 (r 72)), (e P "EncodeError" 379 (r 84)), (e P "TAG_TYPE_BITS" 381 (i 3 380)), (e P "_WIRETYPE_MAX" 383 (i 5 382)), (e P "PackTag" 391 (r 93)), (e P "_VarintDecoder" 402 (r 100)), (e P "_DecodeVarint" 410 (r 107)), (e P "ReadTag" 420 (r 114)), (e P "byte_cls" 423 (t "bytes")), (e P "chr_cls" 430 (r 121)), (e P "type_name" 437 (r 128)), (e P "int_to_bytes" 449 (r 136)), (e P "int_from_bytes" 457 (r 144)), (e P "_PY2" 460 (.bool false)), (e P "_INSUFFICIENT_DATA_MESSAGE" 462 (s "Insufficient data - %s bytes requested but only %s available" 461)), (e P "_MAX_DEPTH" 464 (i 10 463)), (e P "emit" 474 (r 151)), (e P "parse" 485 (r 159)), (e P "peek" 494 (r 166)), (e P "_parse" 517 (r 174)), (e P "_dump_header" 532 (r 181)), (e P "UUID" 575 (r 206)), (e P "_turned" 582 (r 217)), (e P "BINARY_SUBTYPE" 586 (i 0 585)), (e P "OLD_UUID_SUBTYPE" 588 (i 3 587)), (e P "UUID_SUBTYPE" 590 (i 4 589)), (e P "UuidRepresentation" 623 (r 227)), (e P "STANDARD" 625 (i 4 589)), (e P "ALL_UUID_SUBTYPES" 626 (r 232)), (e P "ALL_UUID_REPRESENTATIONS" 632 (r 233)), (e P "UUID_REPRESENTATION_NAMES" 648 (r 234)), (e P "Binary" 770 (r 312)), (e P "Code" 831 (r 356)), (e P "TypeRegistry" 880 (r 394)), (e P "CodecOptions" 915 (r 416)), (e P "DEFAULT_CODEC_OPTIONS" 935 (r 422)), (e P "DatetimeMS" 1024 (r 494)), (e P "DBRef" 1107 (r 554)), (e P "Decimal" 1184 (r 617)), (e P "_PACK_64" 1193 (r 628)), (e P "_UNPACK_64" 1200 (r 635)), (e P "_EXPONENT_MASK" 1204 (i 6917529027641081856 1203)), (e P "_EXPONENT_BIAS" 1206 (i 6176 1205)), (e P "_MAX_DIGITS" 1208 (i 34 1207)), (e P "_INF" 1210 (i 8646911284551352320 1209)), (e P "_NAN" 1212 (i 8935141660703064064 1211)), (e P "_SNAN" 1214 (i 9079256848778919936 1213)), (e P "_SIGN" 1216 (i 9223372036854775808 1215)), (e P "_NINF" 1219 (r 636)), (e P "_PINF" 1221 (r 637)), (e P "_NNAN" 1224 (r 638)), (e P "_PNAN" 1226 (r 639)), (e P "_NSNAN" 1229 (r 640)), (e P "_PSNAN" 1231 (r 641)), (e P "_check_fits" 1238 (r 648)), (e P "_decimal_to_128" 1244 (r 653)), (e P "Decimal128" 1328 (r 709)), (e P "BSONError" 1350 (r 723)), (e P "InvalidBSON" 1366 (r 736)), (e P "InvalidStringData" 1382 (r 748)), (e P "InvalidDocument" 1418 (r 778)), (e P "InvalidId" 1434 (r 790)), (e P "Int64" 1476 (r 816)), (e P "MaxKey" 1556 (r 879)), (e P "MinKey" 1636 (r 942)), (e P "_HEX_DIGITS" 1640 (s "0123456789abcdefABCDEF" 1639)), (e P "_from_hex" 1646 (r 951)), (e P "_raise_invalid_id" 1653 (r 958)), (e P "ObjectId" 1783 (r 1058)), (e P "_IGNORECASE" 1787 (i 2 1786)), (e P "_LOCALE" 1789 (i 4 1788)), (e P "_MULTILINE" 1791 (i 8 1790)), (e P "_DOTALL" 1793 (i 16 1792)), (e P "_UNICODE" 1795 (i 32 1794)), (e P "_VERBOSE" 1797 (i 64 1796)), (e P "str_flags_to_int" 1805 (r 1069)), (e P "Regex" 1856 (r 1101)), (e P "UPPERBOUND" 1860 (i 4294967296 1859)), (e P "Timestamp" 1958 (r 1180)), (e P "BSONSTR" 1962 (y [2] 1961)), (e P "BSONOBJ" 1964 (y [3] 1963)), (e P "BSONARR" 1966 (y [4] 1965)), (e P "BSONBIN" 1968 (y [5] 1967)), (e P "BSONUND" 1970 (y [6] 1969)), (e P "BSONOID" 1972 (y [7] 1971)), (e P "BSONBOO" 1974 (y [8] 1973)), (e P "BSONDAT" 1976 (y [9] 1975)), (e P "BSONNUL" 1978 (y [10] 1977)), (e P "BSONRGX" 1980 (y [11] 1979)), (e P "BSONREF" 1982 (y [12] 1981)), (e P "BSONCOD" 1984 (y [13] 1983)), (e P "BSONSYM" 1986 (y [14] 1985)), (e P "BSONCWS" 1988 (y [15] 1987)), (e P "BSONINT" 1990 (y [16] 1989)), (e P "BSONTIM" 1992 (y [17] 1991)), (e P "BSONLON" 1994 (y [18] 1993)), (e P "BSONDEC" 1996 (y [19] 1995)), (e P "BSONMIN" 1998 (y [255] 1997)), (e P "BSONMAX" 2000 (y [127] 1999)), (e P "_unpack" 2010 (r 1191)), (e P "_UNPACK_INT_FROM" 2018 (r 1198)), (e P "_UNPACK_LENGTH_SUBTYPE_FROM" 2026 (r 1205)), (e P "_UNPACK_LONG_FROM" 2034 (r 1212)), (e P "_UNPACK_TIMESTAMP_FROM" 2042 (r 1219)), (e P "_utf_8_decode" 2051 (r 1226)), (e P "_utf_8_encode" 2058 (r 1233)), (e P "_index_nul" 2067 (r 1240)), (e P "get_data_and_view" 2074 (r 1247)), (e P "_raise_unknown_type" 2082 (r 1254)), (e P "_get_int" 2094 (r 1261)), (e P "_get_c_string" 2105 (r 1268)), (e P "_get_string" 2119 (r 1275)), (e P "_get_object_size" 2131 (r 1282)), (e P "_get_object" 2146 (r 1289)), (e P "_get_array" 2164 (r 1296)), (e P "_get_binary" 2183 (r 1303)), (e P "_get_oid" 2196 (r 1310)), (e P "_get_boolean" 2210 (r 1317)), (e P "_get_date" 2222 (r 1324)), (e P "_get_code" 2235 (r 1331)), (e P "_get_code_w_scope" 2250 (r 1338)), (e P "_get_regex" 2265 (r 1345)), (e P "_get_ref" 2279 (r 1352)), (e P "_get_timestamp" 2293 (r 1359)), (e P "_get_int64" 2305 (r 1366)), (e P "_get_decimal128" 2318 (r 1373)), (e P "_ELEMENT_GETTER" 2403 (r 1374)), (e P "_element_to_dict" 2417 (r 1410)), (e P "_elements_to_dict" 2432 (r 1417)), (e P "_bson_to_dict" 2444 (r 1424)), (e P "_PACK_INT" 2451 (r 1431)), (e P "_PACK_LENGTH_SUBTYPE" 2459 (r 1438)), (e P "_PACK_LONG" 2466 (r 1445)), (e P "_PACK_TIMESTAMP" 2474 (r 1452)), (e P "_make_c_string_check" 2481 (r 1459)), (e P "_make_c_string" 2488 (r 1466)), (e P "_make_name" 2495 (r 1473)), (e P "_encode_bytes" 2505 (r 1480)), (e P "_encode_mapping" 2511 (r 1485)), (e P "_encode_dbref" 2525 (r 1492)), (e P "_encode_list" 2531 (r 1497)), (e P "_encode_text" 2542 (r 1504)), (e P "_encode_binary" 2553 (r 1511)), (e P "_encode_uuid" 2565 (r 1518)), (e P "_encode_objectid" 2575 (r 1525)), (e P "_encode_bool" 2585 (r 1532)), (e P "_encode_datetime_ms" 2596 (r 1539)), (e P "_encode_none" 2606 (r 1546)), (e P "_encode_regex" 2618 (r 1553)), (e P "_encode_code" 2632 (r 1560)), (e P "_encode_int" 2642 (r 1567)), (e P "_encode_timestamp" 2652 (r 1574)), (e P "_encode_long" 2662 (r 1581)), (e P "_encode_decimal128" 2672 (r 1588)), (e P "_encode_minkey" 2682 (r 1595)), (e P "_encode_maxkey" 2692 (r 1602)), (e P "_name_value_to_bson" 2705 (r 1610)), (e P "_element_to_bson" 2716 (r 1617)), (e P "_dict_to_bson" 2731 (r 1625)), (e P "encode" 2740 (r 1633)), (e P "decode" 2749 (r 1641)), (e P "_EncodeVarint" 2761 (r 1649)), (e P "_VarintBytes" 2769 (r 1656)), (e P "TagBytes" 2777 (r 1663)), (e P "RLPException" 2799 (r 1673)), (e P "EncodingError" 2827 (r 1695)), (e P "DecodingError" 2855 (r 1716)), (e P "ALL_BYTES" 3893 (r 1731)), (e P "Atomic" 3894 (r 1732)), (e P "big_endian_to_int" 3901 (r 1739)), (e P "int_to_big_endian" 3908 (r 1746)), (e P "encode_raw" 3921 (r 1753)), (e P "LONG_LENGTH" 3925 (i 18446744073709551616 3924)), (e P "length_prefix" 3934 (r 1760)), (e P "SHORT_STRING" 3938 (i 184 3937)), (e P "consume_length_prefix" 3950 (r 1767)), (e P "consume_payload" 3972 (r 1774)), (e P "consume_item" 3984 (r 1781)), (e P "_law_at" 3995 (r 1788)), (e P "_law_piece" 4003 (r 1795)), (e P "_law_ends" 4015 (r 1802)), (e P "_law_inside" 4027 (r 1809)), (e P "law" 4033 (r 1814))] 195)),
  (oo (t "module") (some 0) .plain #[]),
  (oo (t "module") (some 3) .plain #[]),
  (o (t "dict") (.dict #[] 0)),
  (o (t "tuple") (.seq #[] 0)),
  (o .none (.fields #[])),
  (o (t "code") (.fields #[(.str ⟨#[60, 109, 111, 100, 117, 108, 101, 62]⟩ 176), (.str ⟨#[60, 109, 111, 100, 117, 108, 101, 62]⟩ 177), (.str ⟨#[47, 99, 108, 97, 105, 109, 47, 99, 117, 116, 46, 112, 121]⟩ 178), (i 1 0), (i 0 0), (i 0 0), (i 0 0), (i 0 0), (r 7), (.bool false), (i 175 0), (r 8), .none, .none, .none, .none, (i 179 0), (i 1 0), (.str ⟨#[47, 99, 108, 97, 105, 109, 47, 99, 117, 116, 46, 112, 121]⟩ 180)])),
  (oo (t "frame") none .plain #[(some (r 9)), (some (r 3)), (some (r 3)), none, (some (.str ⟨#[95, 95, 109, 97, 105, 110, 95, 95]⟩ 164)), none, (some (r 0))]),
  (o (t "tuple") (.seq #[(.str ⟨#[112, 97, 99, 107]⟩ 182)] 0)),
  (o (t "dict") (.dict #[(er P ⟨#[95, 95, 110, 97, 109, 101, 95, 95]⟩ 287 (.str ⟨#[95, 115, 116, 114, 117, 99, 116]⟩ 286)), (er P ⟨#[95, 95, 100, 111, 99, 95, 95]⟩ 288 (b "off-the-table:_struct.__doc__:shared#opaque")), (er P ⟨#[95, 95, 112, 97, 99, 107, 97, 103, 101, 95, 95]⟩ 290 (.str ⟨#[]⟩ 289)), (er P ⟨#[95, 95, 108, 111, 97, 100, 101, 114, 95, 95]⟩ 291 (b "off-the-table:_struct.__loader__:shared#opaque")), (er P ⟨#[95, 95, 115, 112, 101, 99, 95, 95]⟩ 292 (b "off-the-table:_struct.__spec__:shared#opaque")), (er P ⟨#[95, 99, 108, 101, 97, 114, 99, 97, 99, 104, 101]⟩ 293 (b "off-the-table:_struct._clearcache:shared#opaque")), (er P ⟨#[99, 97, 108, 99, 115, 105, 122, 101]⟩ 294 (b "_struct.calcsize")), (er P ⟨#[105, 116, 101, 114, 95, 117, 110, 112, 97, 99, 107]⟩ 295 (b "_struct.iter_unpack")), (er P ⟨#[112, 97, 99, 107]⟩ 296 (b "_struct.pack")), (er P ⟨#[112, 97, 99, 107, 95, 105, 110, 116, 111]⟩ 297 (b "_struct.pack_into")), (er P ⟨#[117, 110, 112, 97, 99, 107]⟩ 298 (b "_struct.unpack")), (er P ⟨#[117, 110, 112, 97, 99, 107, 95, 102, 114, 111, 109]⟩ 299 (b "_struct.unpack_from")), (er P ⟨#[95, 95, 102, 105, 108, 101, 95, 95]⟩ 300 (.str ⟨#[47, 110, 105, 120, 47, 115, 116, 111, 114, 101, 47, 119, 106, 49, 102, 53, 54, 113, 107, 121, 52, 112, 109, 106, 99, 55, 108, 48, 114, 54, 98, 54, 108, 55, 119, 104, 110, 110, 119, 55, 104, 112, 54, 45, 112, 121, 116, 104, 111, 110, 51, 45, 51, 46, 49, 51, 46, 49, 53, 47, 108, 105, 98, 47, 112, 121, 116, 104, 111, 110, 51, 46, 49, 51, 47, 108, 105, 98, 45, 100, 121, 110, 108, 111, 97, 100, 47, 95, 115, 116, 114, 117, 99, 116, 46, 99, 112, 121, 116, 104, 111, 110, 45, 51, 49, 51, 45, 120, 56, 54, 95, 54, 52, 45, 108, 105, 110, 117, 120, 45, 103, 110, 117, 46, 115, 111]⟩ 186)), (er P ⟨#[83, 116, 114, 117, 99, 116]⟩ 301 (t "_struct.Struct")), (er P ⟨#[101, 114, 114, 111, 114]⟩ 303 (t "struct.error"))] 15)),
  (oo (t "module") (some 12) .plain #[]),
  (o (t "dict") (.dict #[(er P ⟨#[110, 97, 109, 101]⟩ 188 (.str ⟨#[95, 115, 116, 114, 117, 99, 116]⟩ 187)), (er P ⟨#[112, 97, 116, 104]⟩ 189 (.str ⟨#[47, 110, 105, 120, 47, 115, 116, 111, 114, 101, 47, 119, 106, 49, 102, 53, 54, 113, 107, 121, 52, 112, 109, 106, 99, 55, 108, 48, 114, 54, 98, 54, 108, 55, 119, 104, 110, 110, 119, 55, 104, 112, 54, 45, 112, 121, 116, 104, 111, 110, 51, 45, 51, 46, 49, 51, 46, 49, 53, 47, 108, 105, 98, 47, 112, 121, 116, 104, 111, 110, 51, 46, 49, 51, 47, 108, 105, 98, 45, 100, 121, 110, 108, 111, 97, 100, 47, 95, 115, 116, 114, 117, 99, 116, 46, 99, 112, 121, 116, 104, 111, 110, 45, 51, 49, 51, 45, 120, 56, 54, 95, 54, 52, 45, 108, 105, 110, 117, 120, 45, 103, 110, 117, 46, 115, 111]⟩ 186))] 2)),
  (o (t "dict") (.dict #[(er P ⟨#[95, 95, 109, 111, 100, 117, 108, 101, 95, 95]⟩ 193 (.str ⟨#[95, 102, 114, 111, 122, 101, 110, 95, 105, 109, 112, 111, 114, 116, 108, 105, 98, 95, 101, 120, 116, 101, 114, 110, 97, 108]⟩ 191)), (er P ⟨#[95, 95, 102, 105, 114, 115, 116, 108, 105, 110, 101, 110, 111, 95, 95]⟩ 194 (i 1001 192)), (er P ⟨#[95, 95, 100, 111, 99, 95, 95]⟩ 195 (b "_frozen_importlib_external._LoaderBasics.__doc__:str#opaque")), (er P ⟨#[105, 115, 95, 112, 97, 99, 107, 97, 103, 101]⟩ 196 (b "_frozen_importlib_external._LoaderBasics.is_package#opaque")), (er P ⟨#[99, 114, 101, 97, 116, 101, 95, 109, 111, 100, 117, 108, 101]⟩ 197 (b "_frozen_importlib_external._LoaderBasics.create_module#opaque")), (er P ⟨#[101, 120, 101, 99, 95, 109, 111, 100, 117, 108, 101]⟩ 198 (b "_frozen_importlib_external._LoaderBasics.exec_module#opaque")), (er P ⟨#[108, 111, 97, 100, 95, 109, 111, 100, 117, 108, 101]⟩ 199 (b "_frozen_importlib_external._LoaderBasics.load_module#opaque")), (er P ⟨#[95, 95, 115, 116, 97, 116, 105, 99, 95, 97, 116, 116, 114, 105, 98, 117, 116, 101, 115, 95, 95]⟩ 200 (r 17)), (er P ⟨#[95, 95, 100, 105, 99, 116, 95, 95]⟩ 202 (r 18)), (er P ⟨#[95, 95, 119, 101, 97, 107, 114, 101, 102, 95, 95]⟩ 204 (r 19))] 10)),
  (o (t "type") (.cls ⟨⟨#[95, 76, 111, 97, 100, 101, 114, 66, 97, 115, 105, 99, 115]⟩, [(t "object")], [(r 16), (t "object")], 15, ⟨#[95, 76, 111, 97, 100, 101, 114, 66, 97, 115, 105, 99, 115]⟩, true, [], [(r 27)], false, none, false⟩)),
  (o (t "tuple") (.seq #[] 0)),
  (o (t "getset_descriptor") (.fields #[(.str ⟨#[95, 95, 100, 105, 99, 116, 95, 95]⟩ 201), (r 16), (b "function.__dict__"), (b "function.__dict__#set")])),
  (o (t "getset_descriptor") (.fields #[(.str ⟨#[95, 95, 119, 101, 97, 107, 114, 101, 102, 95, 95]⟩ 203), (r 16), (b "ExceptionGroup.__weakref__"), .none])),
  (o .none (.seq #[(i 15 0), (.str ⟨#[6, 193, 10, 95, 95, 109, 111, 100, 117, 108, 101, 95, 95, 6, 191, 26, 95, 102, 114, 111, 122, 101, 110, 95, 105, 109, 112, 111, 114, 116, 108, 105, 98, 95, 101, 120, 116, 101, 114, 110, 97, 108, 6, 194, 15, 95, 95, 102, 105, 114, 115, 116, 108, 105, 110, 101, 110, 111, 95, 95, 4, 192, 0, 1001, 6, 195, 7, 95, 95, 100, 111, 99, 95, 95, 9, 59, 95, 102, 114, 111, 122, 101, 110, 95, 105, 109, 112, 111, 114, 116, 108, 105, 98, 95, 101, 120, 116, 101, 114, 110, 97, 108, 46, 95, 76, 111, 97, 100, 101, 114, 66, 97, 115, 105, 99, 115, 46, 95, 95, 100, 111, 99, 95, 95, 58, 115, 116, 114, 35, 111, 112, 97, 113, 117, 101, 6, 196, 10, 105, 115, 95, 112, 97, 99, 107, 97, 103, 101, 9, 58, 95, 102, 114, 111, 122, 101, 110, 95, 105, 109, 112, 111, 114, 116, 108, 105, 98, 95, 101, 120, 116, 101, 114, 110, 97, 108, 46, 95, 76, 111, 97, 100, 101, 114, 66, 97, 115, 105, 99, 115, 46, 105, 115, 95, 112, 97, 99, 107, 97, 103, 101, 35, 111, 112, 97, 113, 117, 101, 6, 197, 13, 99, 114, 101, 97, 116, 101, 95, 109, 111, 100, 117, 108, 101, 9, 61, 95, 102, 114, 111, 122, 101, 110, 95, 105, 109, 112, 111, 114, 116, 108, 105, 98, 95, 101, 120, 116, 101, 114, 110, 97, 108, 46, 95, 76, 111, 97, 100, 101, 114, 66, 97, 115, 105, 99, 115, 46, 99, 114, 101, 97, 116, 101, 95, 109, 111, 100, 117, 108, 101, 35, 111, 112, 97, 113, 117, 101, 6, 198, 11, 101, 120, 101, 99, 95, 109, 111, 100, 117, 108, 101, 9, 59, 95, 102, 114, 111, 122, 101, 110, 95, 105, 109, 112, 111, 114, 116, 108, 105, 98, 95, 101, 120, 116, 101, 114, 110, 97, 108, 46, 95, 76, 111, 97, 100, 101, 114, 66, 97, 115, 105, 99, 115, 46, 101, 120, 101, 99, 95, 109, 111, 100, 117, 108, 101, 35, 111, 112, 97, 113, 117, 101, 6, 199, 11, 108, 111, 97, 100, 95, 109, 111, 100, 117, 108, 101, 9, 59, 95, 102, 114, 111, 122, 101, 110, 95, 105, 109, 112, 111, 114, 116, 108, 105, 98, 95, 101, 120, 116, 101, 114, 110, 97, 108, 46, 95, 76, 111, 97, 100, 101, 114, 66, 97, 115, 105, 99, 115, 46, 108, 111, 97, 100, 95, 109, 111, 100, 117, 108, 101, 35, 111, 112, 97, 113, 117, 101, 6, 200, 21, 95, 95, 115, 116, 97, 116, 105, 99, 95, 97, 116, 116, 114, 105, 98, 117, 116, 101, 115, 95, 95, 4, 0, 0, 17, 6, 202, 8, 95, 95, 100, 105, 99, 116, 95, 95, 4, 0, 0, 18, 6, 204, 11, 95, 95, 119, 101, 97, 107, 114, 101, 102, 95, 95, 4, 0, 0, 19]⟩ 0), (.bool true), (.bool true), (.str ⟨#[]⟩ 205), (i 21 0), (.str ⟨#[6, 212, 10, 95, 95, 109, 111, 100, 117, 108, 101, 95, 95, 6, 208, 26, 95, 102, 114, 111, 122, 101, 110, 95, 105, 109, 112, 111, 114, 116, 108, 105, 98, 95, 101, 120, 116, 101, 114, 110, 97, 108, 6, 213, 15, 95, 95, 102, 105, 114, 115, 116, 108, 105, 110, 101, 110, 111, 95, 95, 4, 209, 0, 1176, 6, 214, 7, 95, 95, 100, 111, 99, 95, 95, 9, 56, 95, 102, 114, 111, 122, 101, 110, 95, 105, 109, 112, 111, 114, 116, 108, 105, 98, 95, 101, 120, 116, 101, 114, 110, 97, 108, 46, 70, 105, 108, 101, 76, 111, 97, 100, 101, 114, 46, 95, 95, 100, 111, 99, 95, 95, 58, 115, 116, 114, 35, 111, 112, 97, 113, 117, 101, 6, 215, 8, 95, 95, 105, 110, 105, 116, 95, 95, 9, 53, 95, 102, 114, 111, 122, 101, 110, 95, 105, 109, 112, 111, 114, 116, 108, 105, 98, 95, 101, 120, 116, 101, 114, 110, 97, 108, 46, 70, 105, 108, 101, 76, 111, 97, 100, 101, 114, 46, 95, 95, 105, 110, 105, 116, 95, 95, 35, 111, 112, 97, 113, 117, 101, 6, 216, 6, 95, 95, 101, 113, 95, 95, 9, 51, 95, 102, 114, 111, 122, 101, 110, 95, 105, 109, 112, 111, 114, 116, 108, 105, 98, 95, 101, 120, 116, 101, 114, 110, 97, 108, 46, 70, 105, 108, 101, 76, 111, 97, 100, 101, 114, 46, 95, 95, 101, 113, 95, 95, 35, 111, 112, 97, 113, 117, 101, 6, 217, 8, 95, 95, 104, 97, 115, 104, 95, 95, 9, 53, 95, 102, 114, 111, 122, 101, 110, 95, 105, 109, 112, 111, 114, 116, 108, 105, 98, 95, 101, 120, 116, 101, 114, 110, 97, 108, 46, 70, 105, 108, 101, 76, 111, 97, 100, 101, 114, 46, 95, 95, 104, 97, 115, 104, 95, 95, 35, 111, 112, 97, 113, 117, 101, 6, 218, 11, 108, 111, 97, 100, 95, 109, 111, 100, 117, 108, 101, 9, 56, 95, 102, 114, 111, 122, 101, 110, 95, 105, 109, 112, 111, 114, 116, 108, 105, 98, 95, 101, 120, 116, 101, 114, 110, 97, 108, 46, 70, 105, 108, 101, 76, 111, 97, 100, 101, 114, 46, 108, 111, 97, 100, 95, 109, 111, 100, 117, 108, 101, 35, 111, 112, 97, 113, 117, 101, 6, 219, 12, 103, 101, 116, 95, 102, 105, 108, 101, 110, 97, 109, 101, 9, 57, 95, 102, 114, 111, 122, 101, 110, 95, 105, 109, 112, 111, 114, 116, 108, 105, 98, 95, 101, 120, 116, 101, 114, 110, 97, 108, 46, 70, 105, 108, 101, 76, 111, 97, 100, 101, 114, 46, 103, 101, 116, 95, 102, 105, 108, 101, 110, 97, 109, 101, 35, 111, 112, 97, 113, 117, 101, 6, 220, 8, 103, 101, 116, 95, 100, 97, 116, 97, 9, 53, 95, 102, 114, 111, 122, 101, 110, 95, 105, 109, 112, 111, 114, 116, 108, 105, 98, 95, 101, 120, 116, 101, 114, 110, 97, 108, 46, 70, 105, 108, 101, 76, 111, 97, 100, 101, 114, 46, 103, 101, 116, 95, 100, 97, 116, 97, 35, 111, 112, 97, 113, 117, 101, 6, 221, 19, 103, 101, 116, 95, 114, 101, 115, 111, 117, 114, 99, 101, 95, 114, 101, 97, 100, 101, 114, 9, 64, 95, 102, 114, 111, 122, 101, 110, 95, 105, 109, 112, 111, 114, 116, 108, 105, 98, 95, 101, 120, 116, 101, 114, 110, 97, 108, 46, 70, 105, 108, 101, 76, 111, 97, 100, 101, 114, 46, 103, 101, 116, 95, 114, 101, 115, 111, 117, 114, 99, 101, 95, 114, 101, 97, 100, 101, 114, 35, 111, 112, 97, 113, 117, 101, 6, 222, 21, 95, 95, 115, 116, 97, 116, 105, 99, 95, 97, 116, 116, 114, 105, 98, 117, 116, 101, 115, 95, 95, 4, 0, 0, 23, 6, 224, 8, 95, 95, 100, 105, 99, 116, 95, 95, 4, 0, 0, 24, 6, 226, 11, 95, 95, 119, 101, 97, 107, 114, 101, 102, 95, 95, 4, 0, 0, 25]⟩ 0), (.bool true), (.bool true), (.str ⟨#[]⟩ 227), (i 26 0), (.str ⟨#[6, 233, 10, 95, 95, 109, 111, 100, 117, 108, 101, 95, 95, 6, 229, 26, 95, 102, 114, 111, 122, 101, 110, 95, 105, 109, 112, 111, 114, 116, 108, 105, 98, 95, 101, 120, 116, 101, 114, 110, 97, 108, 6, 234, 15, 95, 95, 102, 105, 114, 115, 116, 108, 105, 110, 101, 110, 111, 95, 95, 4, 230, 0, 1296, 6, 235, 7, 95, 95, 100, 111, 99, 95, 95, 9, 65, 95, 102, 114, 111, 122, 101, 110, 95, 105, 109, 112, 111, 114, 116, 108, 105, 98, 95, 101, 120, 116, 101, 114, 110, 97, 108, 46, 69, 120, 116, 101, 110, 115, 105, 111, 110, 70, 105, 108, 101, 76, 111, 97, 100, 101, 114, 46, 95, 95, 100, 111, 99, 95, 95, 58, 115, 116, 114, 35, 111, 112, 97, 113, 117, 101, 6, 236, 8, 95, 95, 105, 110, 105, 116, 95, 95, 9, 62, 95, 102, 114, 111, 122, 101, 110, 95, 105, 109, 112, 111, 114, 116, 108, 105, 98, 95, 101, 120, 116, 101, 114, 110, 97, 108, 46, 69, 120, 116, 101, 110, 115, 105, 111, 110, 70, 105, 108, 101, 76, 111, 97, 100, 101, 114, 46, 95, 95, 105, 110, 105, 116, 95, 95, 35, 111, 112, 97, 113, 117, 101, 6, 237, 6, 95, 95, 101, 113, 95, 95, 9, 60, 95, 102, 114, 111, 122, 101, 110, 95, 105, 109, 112, 111, 114, 116, 108, 105, 98, 95, 101, 120, 116, 101, 114, 110, 97, 108, 46, 69, 120, 116, 101, 110, 115, 105, 111, 110, 70, 105, 108, 101, 76, 111, 97, 100, 101, 114, 46, 95, 95, 101, 113, 95, 95, 35, 111, 112, 97, 113, 117, 101, 6, 238, 8, 95, 95, 104, 97, 115, 104, 95, 95, 9, 62, 95, 102, 114, 111, 122, 101, 110, 95, 105, 109, 112, 111, 114, 116, 108, 105, 98, 95, 101, 120, 116, 101, 114, 110, 97, 108, 46, 69, 120, 116, 101, 110, 115, 105, 111, 110, 70, 105, 108, 101, 76, 111, 97, 100, 101, 114, 46, 95, 95, 104, 97, 115, 104, 95, 95, 35, 111, 112, 97, 113, 117, 101, 6, 239, 13, 99, 114, 101, 97, 116, 101, 95, 109, 111, 100, 117, 108, 101, 9, 67, 95, 102, 114, 111, 122, 101, 110, 95, 105, 109, 112, 111, 114, 116, 108, 105, 98, 95, 101, 120, 116, 101, 114, 110, 97, 108, 46, 69, 120, 116, 101, 110, 115, 105, 111, 110, 70, 105, 108, 101, 76, 111, 97, 100, 101, 114, 46, 99, 114, 101, 97, 116, 101, 95, 109, 111, 100, 117, 108, 101, 35, 111, 112, 97, 113, 117, 101, 6, 240, 11, 101, 120, 101, 99, 95, 109, 111, 100, 117, 108, 101, 9, 65, 95, 102, 114, 111, 122, 101, 110, 95, 105, 109, 112, 111, 114, 116, 108, 105, 98, 95, 101, 120, 116, 101, 114, 110, 97, 108, 46, 69, 120, 116, 101, 110, 115, 105, 111, 110, 70, 105, 108, 101, 76, 111, 97, 100, 101, 114, 46, 101, 120, 101, 99, 95, 109, 111, 100, 117, 108, 101, 35, 111, 112, 97, 113, 117, 101, 6, 241, 10, 105, 115, 95, 112, 97, 99, 107, 97, 103, 101, 9, 64, 95, 102, 114, 111, 122, 101, 110, 95, 105, 109, 112, 111, 114, 116, 108, 105, 98, 95, 101, 120, 116, 101, 114, 110, 97, 108, 46, 69, 120, 116, 101, 110, 115, 105, 111, 110, 70, 105, 108, 101, 76, 111, 97, 100, 101, 114, 46, 105, 115, 95, 112, 97, 99, 107, 97, 103, 101, 35, 111, 112, 97, 113, 117, 101, 6, 242, 8, 103, 101, 116, 95, 99, 111, 100, 101, 9, 62, 95, 102, 114, 111, 122, 101, 110, 95, 105, 109, 112, 111, 114, 116, 108, 105, 98, 95, 101, 120, 116, 101, 114, 110, 97, 108, 46, 69, 120, 116, 101, 110, 115, 105, 111, 110, 70, 105, 108, 101, 76, 111, 97, 100, 101, 114, 46, 103, 101, 116, 95, 99, 111, 100, 101, 35, 111, 112, 97, 113, 117, 101, 6, 243, 10, 103, 101, 116, 95, 115, 111, 117, 114, 99, 101, 9, 64, 95, 102, 114, 111, 122, 101, 110, 95, 105, 109, 112, 111, 114, 116, 108, 105, 98, 95, 101, 120, 116, 101, 114, 110, 97, 108, 46, 69, 120, 116, 101, 110, 115, 105, 111, 110, 70, 105, 108, 101, 76, 111, 97, 100, 101, 114, 46, 103, 101, 116, 95, 115, 111, 117, 114, 99, 101, 35, 111, 112, 97, 113, 117, 101, 6, 244, 12, 103, 101, 116, 95, 102, 105, 108, 101, 110, 97, 109, 101, 9, 66, 95, 102, 114, 111, 122, 101, 110, 95, 105, 109, 112, 111, 114, 116, 108, 105, 98, 95, 101, 120, 116, 101, 114, 110, 97, 108, 46, 69, 120, 116, 101, 110, 115, 105, 111, 110, 70, 105, 108, 101, 76, 111, 97, 100, 101, 114, 46, 103, 101, 116, 95, 102, 105, 108, 101, 110, 97, 109, 101, 35, 111, 112, 97, 113, 117, 101, 6, 245, 21, 95, 95, 115, 116, 97, 116, 105, 99, 95, 97, 116, 116, 114, 105, 98, 117, 116, 101, 115, 95, 95, 4, 0, 0, 28]⟩ 0), (.bool true), (.bool true), (.str ⟨#[]⟩ 246), (i 32 0), (.str ⟨#[6, 267, 10, 95, 95, 109, 111, 100, 117, 108, 101, 95, 95, 6, 257, 17, 95, 102, 114, 111, 122, 101, 110, 95, 105, 109, 112, 111, 114, 116, 108, 105, 98, 6, 268, 15, 95, 95, 102, 105, 114, 115, 116, 108, 105, 110, 101, 110, 111, 95, 95, 4, 258, 0, 562, 6, 269, 7, 95, 95, 100, 111, 99, 95, 95, 9, 47, 95, 102, 114, 111, 122, 101, 110, 95, 105, 109, 112, 111, 114, 116, 108, 105, 98, 46, 77, 111, 100, 117, 108, 101, 83, 112, 101, 99, 46, 95, 95, 100, 111, 99, 95, 95, 58, 115, 116, 114, 35, 111, 112, 97, 113, 117, 101, 6, 270, 8, 95, 95, 105, 110, 105, 116, 95, 95, 9, 44, 95, 102, 114, 111, 122, 101, 110, 95, 105, 109, 112, 111, 114, 116, 108, 105, 98, 46, 77, 111, 100, 117, 108, 101, 83, 112, 101, 99, 46, 95, 95, 105, 110, 105, 116, 95, 95, 35, 111, 112, 97, 113, 117, 101, 6, 271, 8, 95, 95, 114, 101, 112, 114, 95, 95, 9, 44, 95, 102, 114, 111, 122, 101, 110, 95, 105, 109, 112, 111, 114, 116, 108, 105, 98, 46, 77, 111, 100, 117, 108, 101, 83, 112, 101, 99, 46, 95, 95, 114, 101, 112, 114, 95, 95, 35, 111, 112, 97, 113, 117, 101, 6, 272, 6, 95, 95, 101, 113, 95, 95, 9, 42, 95, 102, 114, 111, 122, 101, 110, 95, 105, 109, 112, 111, 114, 116, 108, 105, 98, 46, 77, 111, 100, 117, 108, 101, 83, 112, 101, 99, 46, 95, 95, 101, 113, 95, 95, 35, 111, 112, 97, 113, 117, 101, 6, 273, 6, 99, 97, 99, 104, 101, 100, 9, 42, 95, 102, 114, 111, 122, 101, 110, 95, 105, 109, 112, 111, 114, 116, 108, 105, 98, 46, 77, 111, 100, 117, 108, 101, 83, 112, 101, 99, 46, 99, 97, 99, 104, 101, 100, 35, 111, 112, 97, 113, 117, 101, 6, 274, 6, 112, 97, 114, 101, 110, 116, 9, 42, 95, 102, 114, 111, 122, 101, 110, 95, 105, 109, 112, 111, 114, 116, 108, 105, 98, 46, 77, 111, 100, 117, 108, 101, 83, 112, 101, 99, 46, 112, 97, 114, 101, 110, 116, 35, 111, 112, 97, 113, 117, 101, 6, 275, 12, 104, 97, 115, 95, 108, 111, 99, 97, 116, 105, 111, 110, 9, 48, 95, 102, 114, 111, 122, 101, 110, 95, 105, 109, 112, 111, 114, 116, 108, 105, 98, 46, 77, 111, 100, 117, 108, 101, 83, 112, 101, 99, 46, 104, 97, 115, 95, 108, 111, 99, 97, 116, 105, 111, 110, 35, 111, 112, 97, 113, 117, 101, 6, 276, 21, 95, 95, 115, 116, 97, 116, 105, 99, 95, 97, 116, 116, 114, 105, 98, 117, 116, 101, 115, 95, 95, 4, 0, 0, 34, 6, 278, 8, 95, 95, 100, 105, 99, 116, 95, 95, 4, 0, 0, 35, 6, 280, 11, 95, 95, 119, 101, 97, 107, 114, 101, 102, 95, 95, 4, 0, 0, 36, 6, 281, 8, 95, 95, 104, 97, 115, 104, 95, 95, 0]⟩ 0), (.bool true), (.bool true), (.str ⟨#[]⟩ 282)] 3)),
  (o (t "dict") (.dict #[(er P ⟨#[95, 95, 109, 111, 100, 117, 108, 101, 95, 95]⟩ 212 (.str ⟨#[95, 102, 114, 111, 122, 101, 110, 95, 105, 109, 112, 111, 114, 116, 108, 105, 98, 95, 101, 120, 116, 101, 114, 110, 97, 108]⟩ 208)), (er P ⟨#[95, 95, 102, 105, 114, 115, 116, 108, 105, 110, 101, 110, 111, 95, 95]⟩ 213 (i 1176 209)), (er P ⟨#[95, 95, 100, 111, 99, 95, 95]⟩ 214 (b "_frozen_importlib_external.FileLoader.__doc__:str#opaque")), (er P ⟨#[95, 95, 105, 110, 105, 116, 95, 95]⟩ 215 (b "_frozen_importlib_external.FileLoader.__init__#opaque")), (er P ⟨#[95, 95, 101, 113, 95, 95]⟩ 216 (b "_frozen_importlib_external.FileLoader.__eq__#opaque")), (er P ⟨#[95, 95, 104, 97, 115, 104, 95, 95]⟩ 217 (b "_frozen_importlib_external.FileLoader.__hash__#opaque")), (er P ⟨#[108, 111, 97, 100, 95, 109, 111, 100, 117, 108, 101]⟩ 218 (b "_frozen_importlib_external.FileLoader.load_module#opaque")), (er P ⟨#[103, 101, 116, 95, 102, 105, 108, 101, 110, 97, 109, 101]⟩ 219 (b "_frozen_importlib_external.FileLoader.get_filename#opaque")), (er P ⟨#[103, 101, 116, 95, 100, 97, 116, 97]⟩ 220 (b "_frozen_importlib_external.FileLoader.get_data#opaque")), (er P ⟨#[103, 101, 116, 95, 114, 101, 115, 111, 117, 114, 99, 101, 95, 114, 101, 97, 100, 101, 114]⟩ 221 (b "_frozen_importlib_external.FileLoader.get_resource_reader#opaque")), (er P ⟨#[95, 95, 115, 116, 97, 116, 105, 99, 95, 97, 116, 116, 114, 105, 98, 117, 116, 101, 115, 95, 95]⟩ 222 (r 23)), (er P ⟨#[95, 95, 100, 105, 99, 116, 95, 95]⟩ 224 (r 24)), (er P ⟨#[95, 95, 119, 101, 97, 107, 114, 101, 102, 95, 95]⟩ 226 (r 25))] 13)),
  (o (t "type") (.cls ⟨⟨#[70, 105, 108, 101, 76, 111, 97, 100, 101, 114]⟩, [(t "object")], [(r 22), (t "object")], 21, ⟨#[70, 105, 108, 101, 76, 111, 97, 100, 101, 114]⟩, true, [], [(r 27)], false, none, false⟩)),
  (o (t "tuple") (.seq #[(.str ⟨#[110, 97, 109, 101]⟩ 210), (.str ⟨#[112, 97, 116, 104]⟩ 211)] 0)),
  (o (t "getset_descriptor") (.fields #[(.str ⟨#[95, 95, 100, 105, 99, 116, 95, 95]⟩ 223), (r 22), (b "function.__dict__"), (b "function.__dict__#set")])),
  (o (t "getset_descriptor") (.fields #[(.str ⟨#[95, 95, 119, 101, 97, 107, 114, 101, 102, 95, 95]⟩ 225), (r 22), (b "ExceptionGroup.__weakref__"), .none])),
  (o (t "dict") (.dict #[(er P ⟨#[95, 95, 109, 111, 100, 117, 108, 101, 95, 95]⟩ 233 (.str ⟨#[95, 102, 114, 111, 122, 101, 110, 95, 105, 109, 112, 111, 114, 116, 108, 105, 98, 95, 101, 120, 116, 101, 114, 110, 97, 108]⟩ 229)), (er P ⟨#[95, 95, 102, 105, 114, 115, 116, 108, 105, 110, 101, 110, 111, 95, 95]⟩ 234 (i 1296 230)), (er P ⟨#[95, 95, 100, 111, 99, 95, 95]⟩ 235 (b "_frozen_importlib_external.ExtensionFileLoader.__doc__:str#opaque")), (er P ⟨#[95, 95, 105, 110, 105, 116, 95, 95]⟩ 236 (b "_frozen_importlib_external.ExtensionFileLoader.__init__#opaque")), (er P ⟨#[95, 95, 101, 113, 95, 95]⟩ 237 (b "_frozen_importlib_external.ExtensionFileLoader.__eq__#opaque")), (er P ⟨#[95, 95, 104, 97, 115, 104, 95, 95]⟩ 238 (b "_frozen_importlib_external.ExtensionFileLoader.__hash__#opaque")), (er P ⟨#[99, 114, 101, 97, 116, 101, 95, 109, 111, 100, 117, 108, 101]⟩ 239 (b "_frozen_importlib_external.ExtensionFileLoader.create_module#opaque")), (er P ⟨#[101, 120, 101, 99, 95, 109, 111, 100, 117, 108, 101]⟩ 240 (b "_frozen_importlib_external.ExtensionFileLoader.exec_module#opaque")), (er P ⟨#[105, 115, 95, 112, 97, 99, 107, 97, 103, 101]⟩ 241 (b "_frozen_importlib_external.ExtensionFileLoader.is_package#opaque")), (er P ⟨#[103, 101, 116, 95, 99, 111, 100, 101]⟩ 242 (b "_frozen_importlib_external.ExtensionFileLoader.get_code#opaque")), (er P ⟨#[103, 101, 116, 95, 115, 111, 117, 114, 99, 101]⟩ 243 (b "_frozen_importlib_external.ExtensionFileLoader.get_source#opaque")), (er P ⟨#[103, 101, 116, 95, 102, 105, 108, 101, 110, 97, 109, 101]⟩ 244 (b "_frozen_importlib_external.ExtensionFileLoader.get_filename#opaque")), (er P ⟨#[95, 95, 115, 116, 97, 116, 105, 99, 95, 97, 116, 116, 114, 105, 98, 117, 116, 101, 115, 95, 95]⟩ 245 (r 28))] 13)),
  (o (t "type") (.cls ⟨⟨#[69, 120, 116, 101, 110, 115, 105, 111, 110, 70, 105, 108, 101, 76, 111, 97, 100, 101, 114]⟩, [(r 22), (r 16)], [(r 27), (r 22), (r 16), (t "object")], 26, ⟨#[69, 120, 116, 101, 110, 115, 105, 111, 110, 70, 105, 108, 101, 76, 111, 97, 100, 101, 114]⟩, true, [], [], false, none, false⟩)),
  (o (t "tuple") (.seq #[(.str ⟨#[110, 97, 109, 101]⟩ 231), (.str ⟨#[112, 97, 116, 104]⟩ 232)] 0)),
  (oo (r 27) (some 14) .plain #[]),
  (o (t "list") (.seq #[] 0)),
  (o (t "dict") (.dict #[(er P ⟨#[110, 97, 109, 101]⟩ 248 (.str ⟨#[95, 115, 116, 114, 117, 99, 116]⟩ 247)), (er P ⟨#[108, 111, 97, 100, 101, 114]⟩ 249 (r 29)), (er P ⟨#[111, 114, 105, 103, 105, 110]⟩ 250 (.str ⟨#[47, 110, 105, 120, 47, 115, 116, 111, 114, 101, 47, 119, 106, 49, 102, 53, 54, 113, 107, 121, 52, 112, 109, 106, 99, 55, 108, 48, 114, 54, 98, 54, 108, 55, 119, 104, 110, 110, 119, 55, 104, 112, 54, 45, 112, 121, 116, 104, 111, 110, 51, 45, 51, 46, 49, 51, 46, 49, 53, 47, 108, 105, 98, 47, 112, 121, 116, 104, 111, 110, 51, 46, 49, 51, 47, 108, 105, 98, 45, 100, 121, 110, 108, 111, 97, 100, 47, 95, 115, 116, 114, 117, 99, 116, 46, 99, 112, 121, 116, 104, 111, 110, 45, 51, 49, 51, 45, 120, 56, 54, 95, 54, 52, 45, 108, 105, 110, 117, 120, 45, 103, 110, 117, 46, 115, 111]⟩ 186)), (er P ⟨#[108, 111, 97, 100, 101, 114, 95, 115, 116, 97, 116, 101]⟩ 251 .none), (er P ⟨#[115, 117, 98, 109, 111, 100, 117, 108, 101, 95, 115, 101, 97, 114, 99, 104, 95, 108, 111, 99, 97, 116, 105, 111, 110, 115]⟩ 252 .none), (er P ⟨#[95, 117, 110, 105, 110, 105, 116, 105, 97, 108, 105, 122, 101, 100, 95, 115, 117, 98, 109, 111, 100, 117, 108, 101, 115]⟩ 253 (r 30)), (er P ⟨#[95, 115, 101, 116, 95, 102, 105, 108, 101, 97, 116, 116, 114]⟩ 254 (.bool true)), (er P ⟨#[95, 99, 97, 99, 104, 101, 100]⟩ 255 .none), (er P ⟨#[95, 105, 110, 105, 116, 105, 97, 108, 105, 122, 105, 110, 103]⟩ 283 (.bool false))] 9)),
  (o (t "dict") (.dict #[(er P ⟨#[95, 95, 109, 111, 100, 117, 108, 101, 95, 95]⟩ 267 (.str ⟨#[95, 102, 114, 111, 122, 101, 110, 95, 105, 109, 112, 111, 114, 116, 108, 105, 98]⟩ 257)), (er P ⟨#[95, 95, 102, 105, 114, 115, 116, 108, 105, 110, 101, 110, 111, 95, 95]⟩ 268 (i 562 258)), (er P ⟨#[95, 95, 100, 111, 99, 95, 95]⟩ 269 (b "_frozen_importlib.ModuleSpec.__doc__:str#opaque")), (er P ⟨#[95, 95, 105, 110, 105, 116, 95, 95]⟩ 270 (b "_frozen_importlib.ModuleSpec.__init__#opaque")), (er P ⟨#[95, 95, 114, 101, 112, 114, 95, 95]⟩ 271 (b "_frozen_importlib.ModuleSpec.__repr__#opaque")), (er P ⟨#[95, 95, 101, 113, 95, 95]⟩ 272 (b "_frozen_importlib.ModuleSpec.__eq__#opaque")), (er P ⟨#[99, 97, 99, 104, 101, 100]⟩ 273 (b "_frozen_importlib.ModuleSpec.cached#opaque")), (er P ⟨#[112, 97, 114, 101, 110, 116]⟩ 274 (b "_frozen_importlib.ModuleSpec.parent#opaque")), (er P ⟨#[104, 97, 115, 95, 108, 111, 99, 97, 116, 105, 111, 110]⟩ 275 (b "_frozen_importlib.ModuleSpec.has_location#opaque")), (er P ⟨#[95, 95, 115, 116, 97, 116, 105, 99, 95, 97, 116, 116, 114, 105, 98, 117, 116, 101, 115, 95, 95]⟩ 276 (r 34)), (er P ⟨#[95, 95, 100, 105, 99, 116, 95, 95]⟩ 278 (r 35)), (er P ⟨#[95, 95, 119, 101, 97, 107, 114, 101, 102, 95, 95]⟩ 280 (r 36)), (er P ⟨#[95, 95, 104, 97, 115, 104, 95, 95]⟩ 281 .none)] 13)),
  (o (t "type") (.cls ⟨⟨#[77, 111, 100, 117, 108, 101, 83, 112, 101, 99]⟩, [(t "object")], [(r 33), (t "object")], 32, ⟨#[77, 111, 100, 117, 108, 101, 83, 112, 101, 99]⟩, true, [], [], false, none, false⟩)),
  (o (t "tuple") (.seq #[(.str ⟨#[95, 99, 97, 99, 104, 101, 100]⟩ 259), (.str ⟨#[95, 115, 101, 116, 95, 102, 105, 108, 101, 97, 116, 116, 114]⟩ 260), (.str ⟨#[95, 117, 110, 105, 110, 105, 116, 105, 97, 108, 105, 122, 101, 100, 95, 115, 117, 98, 109, 111, 100, 117, 108, 101, 115]⟩ 261), (.str ⟨#[108, 111, 97, 100, 101, 114]⟩ 262), (.str ⟨#[108, 111, 97, 100, 101, 114, 95, 115, 116, 97, 116, 101]⟩ 263), (.str ⟨#[110, 97, 109, 101]⟩ 264), (.str ⟨#[111, 114, 105, 103, 105, 110]⟩ 265), (.str ⟨#[115, 117, 98, 109, 111, 100, 117, 108, 101, 95, 115, 101, 97, 114, 99, 104, 95, 108, 111, 99, 97, 116, 105, 111, 110, 115]⟩ 266)] 0)),
  (o (t "getset_descriptor") (.fields #[(.str ⟨#[95, 95, 100, 105, 99, 116, 95, 95]⟩ 277), (r 33), (b "function.__dict__"), (b "function.__dict__#set")])),
  (o (t "getset_descriptor") (.fields #[(.str ⟨#[95, 95, 119, 101, 97, 107, 114, 101, 102, 95, 95]⟩ 279), (r 33), (b "ExceptionGroup.__weakref__"), .none])),
  (oo (r 33) (some 31) .plain #[]),
  (o .none (.seq #[(i 12 0), (.str ⟨#[6, 287, 8, 95, 95, 110, 97, 109, 101, 95, 95, 6, 286, 7, 95, 115, 116, 114, 117, 99, 116, 6, 288, 7, 95, 95, 100, 111, 99, 95, 95, 9, 26, 95, 115, 116, 114, 117, 99, 116, 46, 95, 95, 100, 111, 99, 95, 95, 58, 115, 116, 114, 35, 111, 112, 97, 113, 117, 101, 6, 290, 11, 95, 95, 112, 97, 99, 107, 97, 103, 101, 95, 95, 6, 289, 0, 6, 291, 10, 95, 95, 108, 111, 97, 100, 101, 114, 95, 95, 4, 0, 0, 29, 6, 292, 8, 95, 95, 115, 112, 101, 99, 95, 95, 4, 0, 0, 37, 6, 293, 11, 95, 99, 108, 101, 97, 114, 99, 97, 99, 104, 101, 9, 19, 95, 115, 116, 114, 117, 99, 116, 46, 95, 99, 108, 101, 97, 114, 99, 97, 99, 104, 101, 6, 294, 8, 99, 97, 108, 99, 115, 105, 122, 101, 9, 16, 95, 115, 116, 114, 117, 99, 116, 46, 99, 97, 108, 99, 115, 105, 122, 101, 6, 295, 11, 105, 116, 101, 114, 95, 117, 110, 112, 97, 99, 107, 9, 19, 95, 115, 116, 114, 117, 99, 116, 46, 105, 116, 101, 114, 95, 117, 110, 112, 97, 99, 107, 6, 296, 4, 112, 97, 99, 107, 9, 12, 95, 115, 116, 114, 117, 99, 116, 46, 112, 97, 99, 107, 6, 297, 9, 112, 97, 99, 107, 95, 105, 110, 116, 111, 9, 17, 95, 115, 116, 114, 117, 99, 116, 46, 112, 97, 99, 107, 95, 105, 110, 116, 111, 6, 298, 6, 117, 110, 112, 97, 99, 107, 9, 14, 95, 115, 116, 114, 117, 99, 116, 46, 117, 110, 112, 97, 99, 107, 6, 299, 11, 117, 110, 112, 97, 99, 107, 95, 102, 114, 111, 109, 9, 19, 95, 115, 116, 114, 117, 99, 116, 46, 117, 110, 112, 97, 99, 107, 95, 102, 114, 111, 109, 6, 300, 8, 95, 95, 102, 105, 108, 101, 95, 95, 6, 186, 126, 47, 110, 105, 120, 47, 115, 116, 111, 114, 101, 47, 119, 106, 49, 102, 53, 54, 113, 107, 121, 52, 112, 109, 106, 99, 55, 108, 48, 114, 54, 98, 54, 108, 55, 119, 104, 110, 110, 119, 55, 104, 112, 54, 45, 112, 121, 116, 104, 111, 110, 51, 45, 51, 46, 49, 51, 46, 49, 53, 47, 108, 105, 98, 47, 112, 121, 116, 104, 111, 110, 51, 46, 49, 51, 47, 108, 105, 98, 45, 100, 121, 110, 108, 111, 97, 100, 47, 95, 115, 116, 114, 117, 99, 116, 46, 99, 112, 121, 116, 104, 111, 110, 45, 51, 49, 51, 45, 120, 56, 54, 95, 54, 52, 45, 108, 105, 110, 117, 120, 45, 103, 110, 117, 46, 115, 111, 6, 301, 6, 83, 116, 114, 117, 99, 116, 8, 14, 95, 115, 116, 114, 117, 99, 116, 46, 83, 116, 114, 117, 99, 116, 6, 303, 5, 101, 114, 114, 111, 114, 8, 12, 115, 116, 114, 117, 99, 116, 46, 101, 114, 114, 111, 114]⟩ 0), (.bool true), (.bool false), (.str ⟨#[95, 115, 116, 114, 117, 99, 116]⟩ 305)] 0)),
  (o (t "tuple") (.seq #[] 0)),
  (o .none (.fields #[(i 2 0), (i 0 0), (r 48), (i 6 0), (i 0 0), (r 55), (i 8 0), (i 0 0), (r 68), (i 10 0), (i 0 0), (r 80), (i 14 0), (i 0 0), (r 92), (i 19 0), (i 0 0), (r 99), (i 35 0), (i 0 0), (r 106), (i 37 0), (i 0 0), (r 113), (i 46 0), (i 0 0), (r 120), (i 48 0), (i 0 0), (r 127), (i 51 0), (i 0 0), (r 135), (i 64 0), (i 0 0), (r 143), (i 70 0), (i 0 0), (r 150), (i 86 0), (i 0 0), (r 158), (i 94 0), (i 0 0), (r 165), (i 99 0), (i 0 0), (r 173), (i 151 0), (i 0 0), (r 180), (i 175 0), (i 0 0), (r 187), (i 185 0), (i 0 0), (r 216), (i 191 0), (i 0 0), (r 223), (i 206 0), (i 0 0), (r 240), (i 279 0), (i 0 0), (r 322), (i 315 0), (i 0 0), (r 366), (i 331 0), (i 0 0), (r 404), (i 346 0), (i 0 0), (r 434), (i 382 0), (i 0 0), (r 504), (i 418 0), (i 0 0), (r 564), (i 443 0), (i 0 0), (r 627), (i 445 0), (i 0 0), (r 634), (i 460 0), (i 0 0), (r 647), (i 464 0), (i 0 0), (r 652), (i 495 0), (i 0 0), (r 659), (i 531 0), (i 0 0), (r 719), (i 533 0), (i 0 0), (r 732), (i 535 0), (i 0 0), (r 744), (i 537 0), (i 0 0), (r 757), (i 546 0), (i 0 0), (r 786), (i 549 0), (i 0 0), (r 798), (i 558 0), (i 0 0), (r 826), (i 582 0), (i 0 0), (r 889), (i 607 0), (i 0 0), (r 950), (i 614 0), (i 0 0), (r 957), (i 616 0), (i 0 0), (r 964), (i 691 0), (i 0 0), (r 1068), (i 706 0), (i 0 0), (r 1075), (i 730 0), (i 0 0), (r 1111), (i 802 0), (i 0 0), (r 1190), (i 806 0), (i 0 0), (r 1197), (i 808 0), (i 0 0), (r 1204), (i 810 0), (i 0 0), (r 1211), (i 812 0), (i 0 0), (r 1218), (i 814 0), (i 0 0), (r 1225), (i 816 0), (i 0 0), (r 1232), (i 818 0), (i 0 0), (r 1239), (i 823 0), (i 0 0), (r 1246), (i 825 0), (i 0 0), (r 1253), (i 827 0), (i 0 0), (r 1260), (i 829 0), (i 0 0), (r 1267), (i 832 0), (i 0 0), (r 1274), (i 841 0), (i 0 0), (r 1281), (i 854 0), (i 0 0), (r 1288), (i 861 0), (i 0 0), (r 1295), (i 881 0), (i 0 0), (r 1302), (i 904 0), (i 0 0), (r 1309), (i 907 0), (i 0 0), (r 1316), (i 915 0), (i 0 0), (r 1323), (i 917 0), (i 0 0), (r 1330), (i 920 0), (i 0 0), (r 1337), (i 927 0), (i 0 0), (r 1344), (i 932 0), (i 0 0), (r 1351), (i 936 0), (i 0 0), (r 1358), (i 939 0), (i 0 0), (r 1365), (i 941 0), (i 0 0), (r 1372), (i 945 0), (i 0 0), (r 1380), (i 946 0), (i 0 0), (r 1387), (i 947 0), (i 0 0), (r 1395), (i 948 0), (i 0 0), (r 1402), (i 949 0), (i 0 0), (r 1409), (i 958 0), (i 0 0), (r 1416), (i 967 0), (i 0 0), (r 1423), (i 976 0), (i 0 0), (r 1430), (i 978 0), (i 0 0), (r 1437), (i 980 0), (i 0 0), (r 1444), (i 984 0), (i 0 0), (r 1451), (i 986 0), (i 0 0), (r 1458), (i 999 0), (i 0 0), (r 1465), (i 1008 0), (i 0 0), (r 1472), (i 1012 0), (i 0 0), (r 1479), (i 1014 0), (i 0 0), (r 1484), (i 1017 0), (i 0 0), (r 1491), (i 1029 0), (i 0 0), (r 1496), (i 1032 0), (i 0 0), (r 1503), (i 1035 0), (i 0 0), (r 1510), (i 1041 0), (i 0 0), (r 1517), (i 1045 0), (i 0 0), (r 1524), (i 1047 0), (i 0 0), (r 1531), (i 1049 0), (i 0 0), (r 1538), (i 1052 0), (i 0 0), (r 1545), (i 1054 0), (i 0 0), (r 1552), (i 1076 0), (i 0 0), (r 1559), (i 1084 0), (i 0 0), (r 1566), (i 1092 0), (i 0 0), (r 1573), (i 1094 0), (i 0 0), (r 1580), (i 1099 0), (i 0 0), (r 1587), (i 1101 0), (i 0 0), (r 1594), (i 1103 0), (i 0 0), (r 1601), (i 1105 0), (i 0 0), (r 1609), (i 1154 0), (i 0 0), (r 1616), (i 1164 0), (i 0 0), (r 1624), (i 1178 0), (i 0 0), (r 1632), (i 1182 0), (i 0 0), (r 1640), (i 1188 0), (i 0 0), (r 1648), (i 1196 0), (i 0 0), (r 1655), (i 1200 0), (i 0 0), (r 1662), (i 1203 0), (i 0 0), (r 1669), (i 1205 0), (i 0 0), (r 1683), (i 1210 0), (i 0 0), (r 1704), (i 1216 0), (i 18 0), (r 1723), (i 1218 0), (i 0 0), (r 1738), (i 1220 0), (i 0 0), (r 1745), (i 1223 0), (i 0 0), (r 1752), (i 1241 0), (i 0 0), (r 1759), (i 1250 0), (i 0 0), (r 1766), (i 1278 0), (i 0 0), (r 1773), (i 1300 0), (i 0 0), (r 1780), (i 1304 0), (i 0 0), (r 1787), (i 1306 0), (i 0 0), (r 1794), (i 1314 0), (i 0 0), (r 1801), (i 1325 0), (i 0 0), (r 1808), (i 1339 0), (i 0 0), (r 1813)])),
  (o (t "code") (.fields #[(.str ⟨#[60, 109, 111, 100, 117, 108, 101, 62]⟩ 314), (.str ⟨#[60, 109, 111, 100, 117, 108, 101, 62]⟩ 315), (.str ⟨#[47, 99, 108, 97, 105, 109, 47, 99, 117, 116, 46, 112, 121]⟩ 316), (i 1 0), (i 0 0), (i 0 0), (i 0 0), (i 0 0), (r 39), (.bool false), (i 313 0), (r 40), .none, .none, .none, .none, (i 317 0), (i 1 0), (.str ⟨#[47, 99, 108, 97, 105, 109, 47, 99, 117, 116, 46, 112, 121]⟩ 318)])),
  (oo (t "frame") none .plain #[(some (r 41)), (some (r 3)), (some (r 3)), none, (some (.str ⟨#[95, 95, 109, 97, 105, 110, 95, 95]⟩ 164)), none, (some (r 0))]),
  (o (t "tuple") (.seq #[] 0)),
  (o .none (.fields #[])),
  (o (t "tuple") (.seq #[(s "k" 322)] 0)),
  (o (t "tuple") (.seq #[] 0)),
  (o .none (fn (d 1) "_wall" "_wall" 0 [] .none .none .none .none none .none .none 0)),
  (o (t "code") (.fields #[(s "_wall" 319), (s "_wall" 320), (s "/claim/cut.py" 321), (i 2 0), (i 1 0), (i 0 0), (i 0 0), (i 3 0), (r 43), (.bool true), (i 313 0), (r 44), .none, (r 45), (r 46), (r 47), (i 323 0), (i 2 0), (s "/claim/cut.py" 324)])),
  (o (t "function") (fn (d 1) "_wall" "_wall" 3 [] .none .none .none (.str ⟨#[95, 95, 109, 97, 105, 110, 95, 95]⟩ 164) none (r 48) .none 0)),
  (o (t "tuple") (.seq #[(t "Exception")] 0)),
  (o (t "builtin_function_or_method") (.fields #[(b "type.__prepare__"), (t "type")])),
  (o (t "dict") (.dict #[(er P ⟨#[95, 95, 109, 111, 100, 117, 108, 101, 95, 95]⟩ 335 (s "google.protobuf.internal.wire_format" 326)), (er P ⟨#[95, 95, 113, 117, 97, 108, 110, 97, 109, 101, 95, 95]⟩ 337 (s "Error" 336)), (er P ⟨#[95, 95, 102, 105, 114, 115, 116, 108, 105, 110, 101, 110, 111, 95, 95]⟩ 339 (i 6 338)), (er P ⟨#[95, 95, 115, 116, 97, 116, 105, 99, 95, 97, 116, 116, 114, 105, 98, 117, 116, 101, 115, 95, 95]⟩ 340 (r 57))] 4)),
  (o (t "tuple") (.seq #[] 0)),
  (o .none (.fields #[])),
  (o (t "code") (.fields #[(s "Error" 330), (s "Error" 331), (s "/claim/cut.py" 332), (i 6 0), (i 0 0), (i 0 0), (i 0 0), (i 0 0), (r 53), (.bool false), (i 313 0), (r 54), .none, .none, .none, .none, (i 333 0), (i 6 0), (s "/claim/cut.py" 334)])),
  (oo (t "frame") none .plain #[(some (r 55)), (some (r 3)), (some (r 52)), none, (some (s "google.protobuf.internal.wire_format" 326)), none, (some (r 0))]),
  (o (t "tuple") (.seq #[] 0)),
  (o (t "dict") (.dict #[(er P ⟨#[95, 95, 109, 111, 100, 117, 108, 101, 95, 95]⟩ 335 (s "google.protobuf.internal.wire_format" 326)), (er P ⟨#[95, 95, 102, 105, 114, 115, 116, 108, 105, 110, 101, 110, 111, 95, 95]⟩ 339 (i 6 338)), (er P ⟨#[95, 95, 115, 116, 97, 116, 105, 99, 95, 97, 116, 116, 114, 105, 98, 117, 116, 101, 115, 95, 95]⟩ 340 (r 57)), (er P ⟨#[95, 95, 119, 101, 97, 107, 114, 101, 102, 95, 95]⟩ 342 (r 60)), (er P ⟨#[95, 95, 100, 111, 99, 95, 95]⟩ 343 .none)] 3)),
  (oo (t "type") none (.cls ⟨n "Error", [(t "Exception")], [(r 59), (t "Exception"), (t "BaseException"), (t "object")], 58, n "Error", true, [], [(r 72), (r 84)], false, none, false⟩) #[(some (r 50)), none, (some (s "Error" 328)), (some (s "Error" 336)), (some (b "Exception.__new__")), (some (.bool true))]),
  (o (t "getset_descriptor") (.fields #[(.str ⟨#[95, 95, 119, 101, 97, 107, 114, 101, 102, 95, 95]⟩ 341), (r 59), (b "ExceptionGroup.__weakref__"), .none])),
  (o (t "super") (.fields #[(r 59), (r 59), (r 59)])),
  (o (t "builtin_function_or_method") (.fields #[(b "object.__init_subclass__"), (r 59)])),
  (o (t "tuple") (.seq #[(r 59)] 0))]
def C1 (P : Params) : List Obj := [
  (o (t "builtin_function_or_method") (.fields #[(b "type.__prepare__"), (t "type")])),
  (o (t "dict") (.dict #[(er P ⟨#[95, 95, 109, 111, 100, 117, 108, 101, 95, 95]⟩ 355 (s "google.protobuf.internal.wire_format" 326)), (er P ⟨#[95, 95, 113, 117, 97, 108, 110, 97, 109, 101, 95, 95]⟩ 357 (s "DecodeError" 356)), (er P ⟨#[95, 95, 102, 105, 114, 115, 116, 108, 105, 110, 101, 110, 111, 95, 95]⟩ 359 (i 8 358)), (er P ⟨#[95, 95, 115, 116, 97, 116, 105, 99, 95, 97, 116, 116, 114, 105, 98, 117, 116, 101, 115, 95, 95]⟩ 360 (r 70))] 4)),
  (o (t "tuple") (.seq #[] 0)),
  (o .none (.fields #[])),
  (o (t "code") (.fields #[(s "DecodeError" 350), (s "DecodeError" 351), (s "/claim/cut.py" 352), (i 8 0), (i 0 0), (i 0 0), (i 0 0), (i 0 0), (r 66), (.bool false), (i 313 0), (r 67), .none, .none, .none, .none, (i 353 0), (i 8 0), (s "/claim/cut.py" 354)])),
  (oo (t "frame") none .plain #[(some (r 68)), (some (r 3)), (some (r 65)), none, (some (s "google.protobuf.internal.wire_format" 326)), none, (some (r 0))]),
  (o (t "tuple") (.seq #[] 0)),
  (o (t "dict") (.dict #[(er P ⟨#[95, 95, 109, 111, 100, 117, 108, 101, 95, 95]⟩ 355 (s "google.protobuf.internal.wire_format" 326)), (er P ⟨#[95, 95, 102, 105, 114, 115, 116, 108, 105, 110, 101, 110, 111, 95, 95]⟩ 359 (i 8 358)), (er P ⟨#[95, 95, 115, 116, 97, 116, 105, 99, 95, 97, 116, 116, 114, 105, 98, 117, 116, 101, 115, 95, 95]⟩ 360 (r 70)), (er P ⟨#[95, 95, 100, 111, 99, 95, 95]⟩ 361 .none)] 2)),
  (oo (t "type") none (.cls ⟨n "DecodeError", [(r 59)], [(r 72), (r 59), (t "Exception"), (t "BaseException"), (t "object")], 71, n "DecodeError", true, [], [], false, none, false⟩) #[(some (r 63)), none, (some (s "DecodeError" 348)), (some (s "DecodeError" 356)), (some (b "Exception.__new__")), (some (.bool true))]),
  (o (t "super") (.fields #[(r 72), (r 72), (r 72)])),
  (o (t "builtin_function_or_method") (.fields #[(b "object.__init_subclass__"), (r 72)])),
  (o (t "tuple") (.seq #[(r 59)] 0)),
  (o (t "builtin_function_or_method") (.fields #[(b "type.__prepare__"), (t "type")])),
  (o (t "dict") (.dict #[(er P ⟨#[95, 95, 109, 111, 100, 117, 108, 101, 95, 95]⟩ 371 (s "google.protobuf.internal.wire_format" 326)), (er P ⟨#[95, 95, 113, 117, 97, 108, 110, 97, 109, 101, 95, 95]⟩ 373 (s "EncodeError" 372)), (er P ⟨#[95, 95, 102, 105, 114, 115, 116, 108, 105, 110, 101, 110, 111, 95, 95]⟩ 375 (i 10 374)), (er P ⟨#[95, 95, 115, 116, 97, 116, 105, 99, 95, 97, 116, 116, 114, 105, 98, 117, 116, 101, 115, 95, 95]⟩ 376 (r 82))] 4)),
  (o (t "tuple") (.seq #[] 0)),
  (o .none (.fields #[])),
  (o (t "code") (.fields #[(s "EncodeError" 366), (s "EncodeError" 367), (s "/claim/cut.py" 368), (i 10 0), (i 0 0), (i 0 0), (i 0 0), (i 0 0), (r 78), (.bool false), (i 313 0), (r 79), .none, .none, .none, .none, (i 369 0), (i 10 0), (s "/claim/cut.py" 370)])),
  (oo (t "frame") none .plain #[(some (r 80)), (some (r 3)), (some (r 77)), none, (some (s "google.protobuf.internal.wire_format" 326)), none, (some (r 0))]),
  (o (t "tuple") (.seq #[] 0)),
  (o (t "dict") (.dict #[(er P ⟨#[95, 95, 109, 111, 100, 117, 108, 101, 95, 95]⟩ 371 (s "google.protobuf.internal.wire_format" 326)), (er P ⟨#[95, 95, 102, 105, 114, 115, 116, 108, 105, 110, 101, 110, 111, 95, 95]⟩ 375 (i 10 374)), (er P ⟨#[95, 95, 115, 116, 97, 116, 105, 99, 95, 97, 116, 116, 114, 105, 98, 117, 116, 101, 115, 95, 95]⟩ 376 (r 82)), (er P ⟨#[95, 95, 100, 111, 99, 95, 95]⟩ 377 .none)] 2)),
  (oo (t "type") none (.cls ⟨n "EncodeError", [(r 59)], [(r 84), (r 59), (t "Exception"), (t "BaseException"), (t "object")], 83, n "EncodeError", true, [], [], false, none, false⟩) #[(some (r 75)), none, (some (s "EncodeError" 364)), (some (s "EncodeError" 372)), (some (b "Exception.__new__")), (some (.bool true))]),
  (o (t "super") (.fields #[(r 84), (r 84), (r 84)])),
  (o (t "builtin_function_or_method") (.fields #[(b "object.__init_subclass__"), (r 84)])),
  (o (t "tuple") (.seq #[] 0)),
  (o .none (.fields #[])),
  (o (t "tuple") (.seq #[(s "field_number" 387), (s "wire_type" 388)] 0)),
  (o (t "tuple") (.seq #[] 0)),
  (o .none (fn (d 8) "PackTag" "PackTag" 0 [] .none .none .none .none none .none .none 0)),
  (o (t "code") (.fields #[(s "PackTag" 384), (s "PackTag" 385), (s "/claim/cut.py" 386), (i 14 0), (i 2 0), (i 0 0), (i 0 0), (i 3 0), (r 87), (.bool true), (i 313 0), (r 88), .none, (r 89), (r 90), (r 91), (i 389 0), (i 14 0), (s "/claim/cut.py" 390)])),
  (o (t "function") (fn (d 8) "PackTag" "PackTag" 3 [] .none .none .none (s "google.protobuf.internal.wire_format" 326) none (r 92) .none 0)),
  (o (t "tuple") (.seq #[] 0)),
  (o .none (.fields #[])),
  (o (t "tuple") (.seq #[(s "mask" 397), (s "DecodeVarint" 398)] 0)),
  (o (t "tuple") (.seq #[(s "mask" 399)] 0)),
  (o .none (fn (d 10) "_VarintDecoder" "_VarintDecoder" 0 [] .none .none .none .none none .none .none 0)),
  (o (t "code") (.fields #[(s "_VarintDecoder" 394), (s "_VarintDecoder" 395), (s "/claim/cut.py" 396), (i 19 0), (i 1 0), (i 0 0), (i 0 0), (i 3 0), (r 94), (.bool true), (i 313 0), (r 95), .none, (r 96), (r 97), (r 98), (i 400 0), (i 19 0), (s "/claim/cut.py" 401)])),
  (o (t "function") (fn (d 10) "_VarintDecoder" "_VarintDecoder" 3 [] .none .none .none (s "google.protobuf.internal.decoder" 392) none (r 99) .none 0)),
  (o (t "tuple") (.seq #[] 0)),
  (o .none (.fields #[])),
  (o (t "tuple") (.seq #[(s "buffer" 406), (s "pos" 407)] 0)),
  (o (t "tuple") (.seq #[] 0)),
  (o .none (fn (d 11) "_DecodeVarint" "_DecodeVarint" 0 [] .none .none .none .none none .none .none 0)),
  (o (t "code") (.fields #[(s "_DecodeVarint" 403), (s "_DecodeVarint" 404), (s "/claim/cut.py" 405), (i 35 0), (i 2 0), (i 0 0), (i 0 0), (i 3 0), (r 101), (.bool true), (i 313 0), (r 102), .none, (r 103), (r 104), (r 105), (i 408 0), (i 35 0), (s "/claim/cut.py" 409)])),
  (o (t "function") (fn (d 11) "_DecodeVarint" "_DecodeVarint" 3 [] .none .none .none (s "google.protobuf.internal.decoder" 392) none (r 106) .none 0)),
  (o (t "tuple") (.seq #[] 0)),
  (o .none (.fields #[])),
  (o (t "tuple") (.seq #[(s "buffer" 414), (s "pos" 415), (s "start" 416), (s "tag_bytes" 417)] 0)),
  (o (t "tuple") (.seq #[] 0)),
  (o .none (fn (d 12) "ReadTag" "ReadTag" 0 [] .none .none .none .none none .none .none 0)),
  (o (t "code") (.fields #[(s "ReadTag" 411), (s "ReadTag" 412), (s "/claim/cut.py" 413), (i 37 0), (i 2 0), (i 0 0), (i 0 0), (i 3 0), (r 108), (.bool true), (i 313 0), (r 109), .none, (r 110), (r 111), (r 112), (i 418 0), (i 37 0), (s "/claim/cut.py" 419)])),
  (o (t "function") (fn (d 12) "ReadTag" "ReadTag" 3 [] .none .none .none (s "google.protobuf.internal.decoder" 392) none (r 113) .none 0)),
  (o (t "tuple") (.seq #[] 0)),
  (o .none (.fields #[])),
  (o (t "tuple") (.seq #[(s "num" 427)] 0)),
  (o (t "tuple") (.seq #[] 0)),
  (o .none (fn (d 15) "chr_cls" "chr_cls" 0 [] .none .none .none .none none .none .none 0)),
  (o (t "code") (.fields #[(s "chr_cls" 424), (s "chr_cls" 425), (s "/claim/cut.py" 426), (i 46 0), (i 1 0), (i 0 0), (i 0 0), (i 3 0), (r 115), (.bool true), (i 313 0), (r 116), .none, (r 117), (r 118), (r 119), (i 428 0), (i 46 0), (s "/claim/cut.py" 429)])),
  (o (t "function") (fn (d 15) "chr_cls" "chr_cls" 3 [] .none .none .none (s "asn1crypto._types" 421) none (r 120) .none 0)),
  (o (t "tuple") (.seq #[] 0)),
  (o .none (.fields #[])),
  (o (t "tuple") (.seq #[(s "value" 434)] 0)),
  (o (t "tuple") (.seq #[] 0)),
  (o .none (fn (d 16) "type_name" "type_name" 0 [] .none .none .none .none none .none .none 0)),
  (o (t "code") (.fields #[(s "type_name" 431), (s "type_name" 432), (s "/claim/cut.py" 433), (i 48 0), (i 1 0), (i 0 0), (i 0 0), (i 3 0), (r 122), (.bool true), (i 313 0), (r 123), .none, (r 124), (r 125), (r 126), (i 435 0), (i 48 0), (s "/claim/cut.py" 436)]))]
def C2 (P : Params) : List Obj := [
  (o (t "function") (fn (d 16) "type_name" "type_name" 3 [] .none .none .none (s "asn1crypto._types" 421) none (r 127) .none 0)),
  (o (t "tuple") (.seq #[(.bool false), .none] 0)),
  (o (t "tuple") (.seq #[] 0)),
  (o .none (.fields #[])),
  (o (t "tuple") (.seq #[(s "value" 443), (s "signed" 444), (s "width" 445), (s "bits_required" 446)] 0)),
  (o (t "tuple") (.seq #[] 0)),
  (o .none (fn (d 18) "int_to_bytes" "int_to_bytes" 0 [] .none .none .none .none none .none .none 0)),
  (o (t "code") (.fields #[(s "int_to_bytes" 440), (s "int_to_bytes" 441), (s "/claim/cut.py" 442), (i 51 0), (i 3 0), (i 0 0), (i 0 0), (i 3 0), (r 130), (.bool true), (i 313 0), (r 131), .none, (r 132), (r 133), (r 134), (i 447 0), (i 51 0), (s "/claim/cut.py" 448)])),
  (o (t "function") (fn (d 18) "int_to_bytes" "int_to_bytes" 3 [] (r 129) .none .none (s "asn1crypto.util" 438) none (r 135) .none 0)),
  (o (t "tuple") (.seq #[(.bool false)] 0)),
  (o (t "tuple") (.seq #[] 0)),
  (o .none (.fields #[])),
  (o (t "tuple") (.seq #[(s "value" 453), (s "signed" 454)] 0)),
  (o (t "tuple") (.seq #[] 0)),
  (o .none (fn (d 19) "int_from_bytes" "int_from_bytes" 0 [] .none .none .none .none none .none .none 0)),
  (o (t "code") (.fields #[(s "int_from_bytes" 450), (s "int_from_bytes" 451), (s "/claim/cut.py" 452), (i 64 0), (i 2 0), (i 0 0), (i 0 0), (i 3 0), (r 138), (.bool true), (i 313 0), (r 139), .none, (r 140), (r 141), (r 142), (i 455 0), (i 64 0), (s "/claim/cut.py" 456)])),
  (o (t "function") (fn (d 19) "int_from_bytes" "int_from_bytes" 3 [] (r 137) .none .none (s "asn1crypto.util" 438) none (r 143) .none 0)),
  (o (t "tuple") (.seq #[] 0)),
  (o .none (.fields #[])),
  (o (t "tuple") (.seq #[(s "class_" 468), (s "method" 469), (s "tag" 470), (s "contents" 471)] 0)),
  (o (t "tuple") (.seq #[] 0)),
  (o .none (fn (d 24) "emit" "emit" 0 [] .none .none .none .none none .none .none 0)),
  (o (t "code") (.fields #[(s "emit" 465), (s "emit" 466), (s "/claim/cut.py" 467), (i 70 0), (i 4 0), (i 0 0), (i 0 0), (i 3 0), (r 145), (.bool true), (i 313 0), (r 146), .none, (r 147), (r 148), (r 149), (i 472 0), (i 70 0), (s "/claim/cut.py" 473)])),
  (o (t "function") (fn (d 24) "emit" "emit" 3 [] .none .none .none (s "asn1crypto.parser" 458) none (r 150) .none 0)),
  (o (t "tuple") (.seq #[(.bool false)] 0)),
  (o (t "tuple") (.seq #[] 0)),
  (o .none (.fields #[])),
  (o (t "tuple") (.seq #[(s "contents" 478), (s "strict" 479), (s "contents_len" 480), (s "info" 481), (s "consumed" 482)] 0)),
  (o (t "tuple") (.seq #[] 0)),
  (o .none (fn (d 25) "parse" "parse" 0 [] .none .none .none .none none .none .none 0)),
  (o (t "code") (.fields #[(s "parse" 475), (s "parse" 476), (s "/claim/cut.py" 477), (i 86 0), (i 2 0), (i 0 0), (i 0 0), (i 3 0), (r 153), (.bool true), (i 313 0), (r 154), .none, (r 155), (r 156), (r 157), (i 483 0), (i 86 0), (s "/claim/cut.py" 484)])),
  (o (t "function") (fn (d 25) "parse" "parse" 3 [] (r 152) .none .none (s "asn1crypto.parser" 458) none (r 158) .none 0)),
  (o (t "tuple") (.seq #[] 0)),
  (o .none (.fields #[])),
  (o (t "tuple") (.seq #[(s "contents" 489), (s "info" 490), (s "consumed" 491)] 0)),
  (o (t "tuple") (.seq #[] 0)),
  (o .none (fn (d 26) "peek" "peek" 0 [] .none .none .none .none none .none .none 0)),
  (o (t "code") (.fields #[(s "peek" 486), (s "peek" 487), (s "/claim/cut.py" 488), (i 94 0), (i 1 0), (i 0 0), (i 0 0), (i 3 0), (r 160), (.bool true), (i 313 0), (r 161), .none, (r 162), (r 163), (r 164), (i 492 0), (i 94 0), (s "/claim/cut.py" 493)])),
  (o (t "function") (fn (d 26) "peek" "peek" 3 [] .none .none .none (s "asn1crypto.parser" 458) none (r 165) .none 0)),
  (o (t "tuple") (.seq #[(i 0 495), (.bool false), (i 0 496)] 0)),
  (o (t "tuple") (.seq #[] 0)),
  (o .none (.fields #[])),
  (o (t "tuple") (.seq #[(s "encoded_data" 500), (s "data_len" 501), (s "pointer" 502), (s "lengths_only" 503), (s "depth" 504), (s "start" 505), (s "first_octet" 506), (s "tag" 507), (s "constructed" 508), (s "num" 509), (s "length_octet" 510), (s "trailer" 511), (s "contents_end" 512), (s "length_octets" 513), (s "_" 514)] 0)),
  (o (t "tuple") (.seq #[] 0)),
  (o .none (fn (d 27) "_parse" "_parse" 0 [] .none .none .none .none none .none .none 0)),
  (o (t "code") (.fields #[(s "_parse" 497), (s "_parse" 498), (s "/claim/cut.py" 499), (i 99 0), (i 5 0), (i 0 0), (i 0 0), (i 3 0), (r 168), (.bool true), (i 313 0), (r 169), .none, (r 170), (r 171), (r 172), (i 515 0), (i 99 0), (s "/claim/cut.py" 516)])),
  (o (t "function") (fn (d 27) "_parse" "_parse" 3 [] (r 167) .none .none (s "asn1crypto.parser" 458) none (r 173) .none 0)),
  (o (t "tuple") (.seq #[] 0)),
  (o .none (.fields #[])),
  (o (t "tuple") (.seq #[(s "class_" 521), (s "method" 522), (s "tag" 523), (s "contents" 524), (s "header" 525), (s "id_num" 526), (s "cont_bit" 527), (s "length" 528), (s "length_bytes" 529)] 0)),
  (o (t "tuple") (.seq #[] 0)),
  (o .none (fn (d 28) "_dump_header" "_dump_header" 0 [] .none .none .none .none none .none .none 0)),
  (o (t "code") (.fields #[(s "_dump_header" 518), (s "_dump_header" 519), (s "/claim/cut.py" 520), (i 151 0), (i 4 0), (i 0 0), (i 0 0), (i 3 0), (r 175), (.bool true), (i 313 0), (r 176), .none, (r 177), (r 178), (r 179), (i 530 0), (i 151 0), (s "/claim/cut.py" 531)])),
  (o (t "function") (fn (d 28) "_dump_header" "_dump_header" 3 [] .none .none .none (s "asn1crypto.parser" 458) none (r 180) .none 0)),
  (o (t "tuple") (.seq #[] 0)),
  (o (t "builtin_function_or_method") (.fields #[(b "type.__prepare__"), (t "type")])),
  (o (t "dict") (.dict #[(er P ⟨#[95, 95, 109, 111, 100, 117, 108, 101, 95, 95]⟩ 542 (s "bson.uuids" 533)), (er P ⟨#[95, 95, 113, 117, 97, 108, 110, 97, 109, 101, 95, 95]⟩ 544 (s "UUID" 543)), (er P ⟨#[95, 95, 102, 105, 114, 115, 116, 108, 105, 110, 101, 110, 111, 95, 95]⟩ 546 (i 175 545)), (e P "__init__" 556 (r 196)), (e P "__eq__" 564 (r 203)), (er P ⟨#[95, 95, 115, 116, 97, 116, 105, 99, 95, 97, 116, 116, 114, 105, 98, 117, 116, 101, 115, 95, 95]⟩ 567 (r 204))] 6)),
  (o (t "tuple") (.seq #[] 0)),
  (o .none (.fields #[(i 177 0), (i 4 0), (r 195), (i 183 0), (i 4 0), (r 202)])),
  (o (t "code") (.fields #[(s "UUID" 537), (s "UUID" 538), (s "/claim/cut.py" 539), (i 175 0), (i 0 0), (i 0 0), (i 0 0), (i 0 0), (r 185), (.bool false), (i 313 0), (r 186), .none, .none, .none, .none, (i 540 0), (i 175 0), (s "/claim/cut.py" 541)])),
  (oo (t "frame") none .plain #[(some (r 187)), (some (r 3)), (some (r 184)), none, (some (s "bson.uuids" 533)), none, (some (r 0))]),
  (o (t "tuple") (.seq #[.none, .none] 0)),
  (o (t "tuple") (.seq #[] 0)),
  (o .none (.fields #[]))]
def C3 (P : Params) : List Obj := [
  (o (t "tuple") (.seq #[(s "self" 550), (s "raw" 551), (s "bytes_le" 552), (s "octets" 553)] 0)),
  (o (t "tuple") (.seq #[] 0)),
  (o .none (fn (m (d 30) 0) "__init__" "UUID.__init__" 0 [] .none .none .none .none none .none .none 0)),
  (o (t "code") (.fields #[(s "__init__" 547), (s "UUID.__init__" 548), (s "/claim/cut.py" 549), (i 177 0), (i 3 0), (i 0 0), (i 0 0), (i 3 0), (r 190), (.bool true), (i 313 0), (r 191), .none, (r 192), (r 193), (r 194), (i 554 0), (i 177 0), (s "/claim/cut.py" 555)])),
  (o (t "function") (fn (m (d 30) 0) "__init__" "UUID.__init__" 3 [] (r 189) .none .none (s "bson.uuids" 533) none (r 195) .none 0)),
  (o (t "tuple") (.seq #[] 0)),
  (o .none (.fields #[])),
  (o (t "tuple") (.seq #[(s "self" 560), (s "other" 561)] 0)),
  (o (t "tuple") (.seq #[] 0)),
  (o .none (fn (m (d 30) 1) "__eq__" "UUID.__eq__" 0 [] .none .none .none .none none .none .none 0)),
  (o (t "code") (.fields #[(s "__eq__" 557), (s "UUID.__eq__" 558), (s "/claim/cut.py" 559), (i 183 0), (i 2 0), (i 0 0), (i 0 0), (i 3 0), (r 197), (.bool true), (i 313 0), (r 198), .none, (r 199), (r 200), (r 201), (i 562 0), (i 183 0), (s "/claim/cut.py" 563)])),
  (o (t "function") (fn (m (d 30) 1) "__eq__" "UUID.__eq__" 3 [] .none .none .none (s "bson.uuids" 533) none (r 202) .none 0)),
  (o (t "tuple") (.seq #[(s "bytes" 565), (s "bytes_le" 566)] 0)),
  (o (t "dict") (.dict #[(er P ⟨#[95, 95, 109, 111, 100, 117, 108, 101, 95, 95]⟩ 542 (s "bson.uuids" 533)), (er P ⟨#[95, 95, 102, 105, 114, 115, 116, 108, 105, 110, 101, 110, 111, 95, 95]⟩ 546 (i 175 545)), (e P "__init__" 556 (r 196)), (e P "__eq__" 564 (r 203)), (er P ⟨#[95, 95, 115, 116, 97, 116, 105, 99, 95, 97, 116, 116, 114, 105, 98, 117, 116, 101, 115, 95, 95]⟩ 567 (r 204)), (er P ⟨#[95, 95, 100, 105, 99, 116, 95, 95]⟩ 569 (r 207)), (er P ⟨#[95, 95, 119, 101, 97, 107, 114, 101, 102, 95, 95]⟩ 571 (r 208)), (er P ⟨#[95, 95, 100, 111, 99, 95, 95]⟩ 572 .none), (er P ⟨#[95, 95, 104, 97, 115, 104, 95, 95]⟩ 573 .none)] 5)),
  (oo (t "type") none (.cls ⟨n "UUID", [(t "object")], [(r 206), (t "object")], 205, n "UUID", true, [], [], false, none, false⟩) #[none, none, (some (s "UUID" 535)), (some (s "UUID" 543)), (some (b "object.__new__")), (some (.bool true))]),
  (o (t "getset_descriptor") (.fields #[(.str ⟨#[95, 95, 100, 105, 99, 116, 95, 95]⟩ 568), (r 206), (b "function.__dict__"), (b "function.__dict__#set")])),
  (o (t "getset_descriptor") (.fields #[(.str ⟨#[95, 95, 119, 101, 97, 107, 114, 101, 102, 95, 95]⟩ 570), (r 206), (b "ExceptionGroup.__weakref__"), .none])),
  (o (t "super") (.fields #[(r 206), (r 206), (r 206)])),
  (o (t "builtin_function_or_method") (.fields #[(b "object.__init_subclass__"), (r 206)])),
  (o (t "tuple") (.seq #[] 0)),
  (o .none (.fields #[])),
  (o (t "tuple") (.seq #[(s "octets" 579)] 0)),
  (o (t "tuple") (.seq #[] 0)),
  (o .none (fn (d 31) "_turned" "_turned" 0 [] .none .none .none .none none .none .none 0)),
  (o (t "code") (.fields #[(s "_turned" 576), (s "_turned" 577), (s "/claim/cut.py" 578), (i 185 0), (i 1 0), (i 0 0), (i 0 0), (i 3 0), (r 211), (.bool true), (i 313 0), (r 212), .none, (r 213), (r 214), (r 215), (i 580 0), (i 185 0), (s "/claim/cut.py" 581)])),
  (o (t "function") (fn (d 31) "_turned" "_turned" 3 [] .none .none .none (s "bson.uuids" 533) none (r 216) .none 0)),
  (o (t "tuple") (.seq #[] 0)),
  (o (t "builtin_function_or_method") (.fields #[(b "type.__prepare__"), (t "type")])),
  (o (t "dict") (.dict #[(er P ⟨#[95, 95, 109, 111, 100, 117, 108, 101, 95, 95]⟩ 598 (s "bson.binary" 583)), (er P ⟨#[95, 95, 113, 117, 97, 108, 110, 97, 109, 101, 95, 95]⟩ 600 (s "UuidRepresentation" 599)), (er P ⟨#[95, 95, 102, 105, 114, 115, 116, 108, 105, 110, 101, 110, 111, 95, 95]⟩ 602 (i 191 601)), (e P "UNSPECIFIED" 604 (i 0 603)), (e P "STANDARD" 606 (i 4 589)), (e P "PYTHON_LEGACY" 608 (i 3 587)), (e P "JAVA_LEGACY" 611 (i 5 610)), (e P "CSHARP_LEGACY" 614 (i 6 613)), (er P ⟨#[95, 95, 115, 116, 97, 116, 105, 99, 95, 97, 116, 116, 114, 105, 98, 117, 116, 101, 115, 95, 95]⟩ 616 (r 225))] 9)),
  (o (t "tuple") (.seq #[] 0)),
  (o .none (.fields #[])),
  (o (t "code") (.fields #[(s "UuidRepresentation" 593), (s "UuidRepresentation" 594), (s "/claim/cut.py" 595), (i 191 0), (i 0 0), (i 0 0), (i 0 0), (i 0 0), (r 221), (.bool false), (i 313 0), (r 222), .none, .none, .none, .none, (i 596 0), (i 191 0), (s "/claim/cut.py" 597)])),
  (oo (t "frame") none .plain #[(some (r 223)), (some (r 3)), (some (r 220)), none, (some (s "bson.binary" 583)), none, (some (r 0))]),
  (o (t "tuple") (.seq #[] 0)),
  (o (t "dict") (.dict #[(er P ⟨#[95, 95, 109, 111, 100, 117, 108, 101, 95, 95]⟩ 598 (s "bson.binary" 583)), (er P ⟨#[95, 95, 102, 105, 114, 115, 116, 108, 105, 110, 101, 110, 111, 95, 95]⟩ 602 (i 191 601)), (e P "UNSPECIFIED" 604 (i 0 603)), (e P "STANDARD" 606 (i 4 589)), (e P "PYTHON_LEGACY" 608 (i 3 587)), (e P "JAVA_LEGACY" 611 (i 5 610)), (e P "CSHARP_LEGACY" 614 (i 6 613)), (er P ⟨#[95, 95, 115, 116, 97, 116, 105, 99, 95, 97, 116, 116, 114, 105, 98, 117, 116, 101, 115, 95, 95]⟩ 616 (r 225)), (er P ⟨#[95, 95, 100, 105, 99, 116, 95, 95]⟩ 618 (r 228)), (er P ⟨#[95, 95, 119, 101, 97, 107, 114, 101, 102, 95, 95]⟩ 620 (r 229)), (er P ⟨#[95, 95, 100, 111, 99, 95, 95]⟩ 621 .none)] 4)),
  (oo (t "type") none (.cls ⟨n "UuidRepresentation", [(t "object")], [(r 227), (t "object")], 226, n "UuidRepresentation", true, [], [], false, none, false⟩) #[none, none, (some (s "UuidRepresentation" 591)), (some (s "UuidRepresentation" 599)), (some (b "object.__new__")), (some (.bool true))]),
  (o (t "getset_descriptor") (.fields #[(.str ⟨#[95, 95, 100, 105, 99, 116, 95, 95]⟩ 617), (r 227), (b "function.__dict__"), (b "function.__dict__#set")])),
  (o (t "getset_descriptor") (.fields #[(.str ⟨#[95, 95, 119, 101, 97, 107, 114, 101, 102, 95, 95]⟩ 619), (r 227), (b "ExceptionGroup.__weakref__"), .none])),
  (o (t "super") (.fields #[(r 227), (r 227), (r 227)])),
  (o (t "builtin_function_or_method") (.fields #[(b "object.__init_subclass__"), (r 227)])),
  (o (t "tuple") (.seq #[(i 3 587), (i 4 589)] 0)),
  (o (t "tuple") (.seq #[(i 0 603), (i 4 589), (i 3 587), (i 5 610), (i 6 613)] 0)),
  (o (t "dict") (.dict #[(en 0 (i 0 603) (s "UuidRepresentation.UNSPECIFIED" 634)), (en 4 (i 4 589) (s "UuidRepresentation.STANDARD" 636)), (en 3 (i 3 587) (s "UuidRepresentation.PYTHON_LEGACY" 638)), (en 5 (i 5 610) (s "UuidRepresentation.JAVA_LEGACY" 640)), (en 6 (i 6 613) (s "UuidRepresentation.CSHARP_LEGACY" 642))] 5)),
  (o (t "tuple") (.seq #[] 0)),
  (o (t "builtin_function_or_method") (.fields #[(b "type.__prepare__"), (t "type")])),
  (o (t "dict") (.dict #[(er P ⟨#[95, 95, 109, 111, 100, 117, 108, 101, 95, 95]⟩ 656 (s "bson.binary" 583)), (er P ⟨#[95, 95, 113, 117, 97, 108, 110, 97, 109, 101, 95, 95]⟩ 658 (s "Binary" 657)), (er P ⟨#[95, 95, 102, 105, 114, 115, 116, 108, 105, 110, 101, 110, 111, 95, 95]⟩ 660 (i 206 659)), (e P "_type_marker" 662 (i 5 661)), (e P "__init__" 671 (r 249)), (e P "from_uuid" 696 (r 259)), (e P "as_uuid" 705 (r 268)), (e P "from_vector" 727 (r 278)), (e P "as_vector" 735 (r 287)), (e P "subtype" 743 (r 295)), (e P "__eq__" 751 (r 302)), (e P "__ne__" 759 (r 309)), (er P ⟨#[95, 95, 115, 116, 97, 116, 105, 99, 95, 97, 116, 116, 114, 105, 98, 117, 116, 101, 115, 95, 95]⟩ 762 (r 310))] 13)),
  (o (t "tuple") (.seq #[] 0)),
  (o .none (.fields #[(i 209 0), (i 4 0), (r 248), (i 218 0), (i 4 0), (r 256), (i 238 0), (i 4 0), (r 267), (i 261 0), (i 4 0), (r 275), (i 264 0), (i 4 0), (r 286), (i 268 0), (i 4 0), (r 293), (i 271 0), (i 4 0), (r 301), (i 276 0), (i 4 0), (r 308)])),
  (o (t "code") (.fields #[(s "Binary" 651), (s "Binary" 652), (s "/claim/cut.py" 653), (i 206 0), (i 0 0), (i 0 0), (i 0 0), (i 0 0), (r 238), (.bool false), (i 313 0), (r 239), .none, .none, .none, .none, (i 654 0), (i 206 0), (s "/claim/cut.py" 655)])),
  (oo (t "frame") none .plain #[(some (r 240)), (some (r 3)), (some (r 237)), none, (some (s "bson.binary" 583)), none, (some (r 0))]),
  (o (t "tuple") (.seq #[(i 0 585)] 0)),
  (o (t "tuple") (.seq #[] 0)),
  (o .none (.fields #[])),
  (o (t "tuple") (.seq #[(s "self" 666), (s "data" 667), (s "subtype" 668)] 0)),
  (o (t "tuple") (.seq #[] 0)),
  (o .none (fn (m (d 41) 1) "__init__" "Binary.__init__" 0 [] .none .none .none .none none .none .none 0)),
  (o (t "code") (.fields #[(s "__init__" 663), (s "Binary.__init__" 664), (s "/claim/cut.py" 665), (i 209 0), (i 3 0), (i 0 0), (i 0 0), (i 3 0), (r 243), (.bool true), (i 313 0), (r 244), .none, (r 245), (r 246), (r 247), (i 669 0), (i 209 0), (s "/claim/cut.py" 670)])),
  (o (t "function") (fn (m (d 41) 1) "__init__" "Binary.__init__" 3 [] (r 242) .none .none (s "bson.binary" 583) none (r 248) .none 0)),
  (o (t "tuple") (.seq #[(i 4 589)] 0)),
  (o (t "tuple") (.seq #[] 0)),
  (o .none (.fields #[])),
  (o (t "tuple") (.seq #[(s "cls" 676), (s "uuid" 677), (s "uuid_representation" 678), (s "subtype" 679), (s "payload" 680), (s "from_uuid" 681)] 0)),
  (o (t "tuple") (.seq #[] 0)),
  (o .none (fn (m (d 41) 2) "from_uuid" "Binary.from_uuid" 0 [] .none .none .none .none none .none .none 0))]
def C4 (P : Params) : List Obj := [
  (o (t "code") (.fields #[(s "from_uuid" 673), (s "Binary.from_uuid" 674), (s "/claim/cut.py" 675), (i 217 0), (i 3 0), (i 0 0), (i 0 0), (i 3 0), (r 251), (.bool true), (i 313 0), (r 252), .none, (r 253), (r 254), (r 255), (i 682 0), (i 217 0), (s "/claim/cut.py" 683)])),
  (o (t "function") (fn (m (d 41) 2) "from_uuid" "Binary.from_uuid" 3 [] (r 250) .none .none (s "bson.binary" 583) (some 260) (r 256) .none 0)),
  (o (t "dict") (.dict #[(er P ⟨#[95, 95, 109, 111, 100, 117, 108, 101, 95, 95]⟩ 685 (s "bson.binary" 583)), (e P "__name__" 688 (s "from_uuid" 687)), (er P ⟨#[95, 95, 113, 117, 97, 108, 110, 97, 109, 101, 95, 95]⟩ 691 (s "Binary.from_uuid" 690)), (er P ⟨#[95, 95, 100, 111, 99, 95, 95]⟩ 693 .none), (e P "__annotations__" 695 (r 260))] 5)),
  (oo (t "classmethod") (some 258) (.fields #[(r 257), (.bool false)]) #[]),
  (o (t "dict") (.dict #[] 0)),
  (o (t "tuple") (.seq #[(i 4 589)] 0)),
  (o (t "tuple") (.seq #[] 0)),
  (o .none (.fields #[])),
  (o (t "tuple") (.seq #[(s "self" 701), (s "uuid_representation" 702)] 0)),
  (o (t "tuple") (.seq #[] 0)),
  (o .none (fn (m (d 41) 3) "as_uuid" "Binary.as_uuid" 0 [] .none .none .none .none none .none .none 0)),
  (o (t "code") (.fields #[(s "as_uuid" 698), (s "Binary.as_uuid" 699), (s "/claim/cut.py" 700), (i 238 0), (i 2 0), (i 0 0), (i 0 0), (i 3 0), (r 262), (.bool true), (i 313 0), (r 263), .none, (r 264), (r 265), (r 266), (i 703 0), (i 238 0), (s "/claim/cut.py" 704)])),
  (o (t "function") (fn (m (d 41) 3) "as_uuid" "Binary.as_uuid" 3 [] (r 261) .none .none (s "bson.binary" 583) none (r 267) .none 0)),
  (o (t "tuple") (.seq #[.none, .none] 0)),
  (o (t "tuple") (.seq #[] 0)),
  (o .none (.fields #[])),
  (o (t "tuple") (.seq #[(s "cls" 709), (s "vector" 710), (s "dtype" 711), (s "padding" 712)] 0)),
  (o (t "tuple") (.seq #[] 0)),
  (o .none (fn (m (d 41) 4) "from_vector" "Binary.from_vector" 0 [] .none .none .none .none none .none .none 0)),
  (o (t "code") (.fields #[(s "from_vector" 706), (s "Binary.from_vector" 707), (s "/claim/cut.py" 708), (i 260 0), (i 4 0), (i 0 0), (i 0 0), (i 3 0), (r 270), (.bool true), (i 313 0), (r 271), .none, (r 272), (r 273), (r 274), (i 713 0), (i 260 0), (s "/claim/cut.py" 714)])),
  (o (t "function") (fn (m (d 41) 4) "from_vector" "Binary.from_vector" 3 [] (r 269) .none .none (s "bson.binary" 583) (some 279) (r 275) .none 0)),
  (o (t "dict") (.dict #[(er P ⟨#[95, 95, 109, 111, 100, 117, 108, 101, 95, 95]⟩ 716 (s "bson.binary" 583)), (e P "__name__" 719 (s "from_vector" 718)), (er P ⟨#[95, 95, 113, 117, 97, 108, 110, 97, 109, 101, 95, 95]⟩ 722 (s "Binary.from_vector" 721)), (er P ⟨#[95, 95, 100, 111, 99, 95, 95]⟩ 724 .none), (e P "__annotations__" 726 (r 279))] 5)),
  (oo (t "classmethod") (some 277) (.fields #[(r 276), (.bool false)]) #[]),
  (o (t "dict") (.dict #[] 0)),
  (o (t "tuple") (.seq #[(.bool false)] 0)),
  (o (t "tuple") (.seq #[] 0)),
  (o .none (.fields #[])),
  (o (t "tuple") (.seq #[(s "self" 731), (s "return_numpy" 732)] 0)),
  (o (t "tuple") (.seq #[] 0)),
  (o .none (fn (m (d 41) 5) "as_vector" "Binary.as_vector" 0 [] .none .none .none .none none .none .none 0)),
  (o (t "code") (.fields #[(s "as_vector" 728), (s "Binary.as_vector" 729), (s "/claim/cut.py" 730), (i 264 0), (i 2 0), (i 0 0), (i 0 0), (i 3 0), (r 281), (.bool true), (i 313 0), (r 282), .none, (r 283), (r 284), (r 285), (i 733 0), (i 264 0), (s "/claim/cut.py" 734)])),
  (o (t "function") (fn (m (d 41) 5) "as_vector" "Binary.as_vector" 3 [] (r 280) .none .none (s "bson.binary" 583) none (r 286) .none 0)),
  (o (t "tuple") (.seq #[] 0)),
  (o .none (.fields #[])),
  (o (t "tuple") (.seq #[(s "self" 739)] 0)),
  (o (t "tuple") (.seq #[] 0)),
  (o .none (fn (m (d 41) 6) "subtype" "Binary.subtype" 0 [] .none .none .none .none none .none .none 0)),
  (o (t "code") (.fields #[(s "subtype" 736), (s "Binary.subtype" 737), (s "/claim/cut.py" 738), (i 267 0), (i 1 0), (i 0 0), (i 0 0), (i 3 0), (r 288), (.bool true), (i 313 0), (r 289), .none, (r 290), (r 291), (r 292), (i 740 0), (i 267 0), (s "/claim/cut.py" 741)])),
  (o (t "function") (fn (m (d 41) 6) "subtype" "Binary.subtype" 3 [] .none .none .none (s "bson.binary" 583) none (r 293) .none 0)),
  (o (t "property") (.fields #[(r 294), .none, .none, .none, (s "subtype" 743), (.bool false)])),
  (o (t "tuple") (.seq #[] 0)),
  (o .none (.fields #[])),
  (o (t "tuple") (.seq #[(s "self" 747), (s "other" 748)] 0)),
  (o (t "tuple") (.seq #[] 0)),
  (o .none (fn (m (d 41) 7) "__eq__" "Binary.__eq__" 0 [] .none .none .none .none none .none .none 0)),
  (o (t "code") (.fields #[(s "__eq__" 744), (s "Binary.__eq__" 745), (s "/claim/cut.py" 746), (i 271 0), (i 2 0), (i 0 0), (i 0 0), (i 3 0), (r 296), (.bool true), (i 313 0), (r 297), .none, (r 298), (r 299), (r 300), (i 749 0), (i 271 0), (s "/claim/cut.py" 750)])),
  (o (t "function") (fn (m (d 41) 7) "__eq__" "Binary.__eq__" 3 [] .none .none .none (s "bson.binary" 583) none (r 301) .none 0)),
  (o (t "tuple") (.seq #[] 0)),
  (o .none (.fields #[])),
  (o (t "tuple") (.seq #[(s "self" 755), (s "other" 756)] 0)),
  (o (t "tuple") (.seq #[] 0)),
  (o .none (fn (m (d 41) 8) "__ne__" "Binary.__ne__" 0 [] .none .none .none .none none .none .none 0)),
  (o (t "code") (.fields #[(s "__ne__" 752), (s "Binary.__ne__" 753), (s "/claim/cut.py" 754), (i 276 0), (i 2 0), (i 0 0), (i 0 0), (i 3 0), (r 303), (.bool true), (i 313 0), (r 304), .none, (r 305), (r 306), (r 307), (i 757 0), (i 276 0), (s "/claim/cut.py" 758)])),
  (o (t "function") (fn (m (d 41) 8) "__ne__" "Binary.__ne__" 3 [] .none .none .none (s "bson.binary" 583) none (r 308) .none 0)),
  (o (t "tuple") (.seq #[(s "_subtype" 760), (s "data" 761)] 0)),
  (o (t "dict") (.dict #[(er P ⟨#[95, 95, 109, 111, 100, 117, 108, 101, 95, 95]⟩ 656 (s "bson.binary" 583)), (er P ⟨#[95, 95, 102, 105, 114, 115, 116, 108, 105, 110, 101, 110, 111, 95, 95]⟩ 660 (i 206 659)), (e P "_type_marker" 662 (i 5 661)), (e P "__init__" 671 (r 249)), (e P "from_uuid" 696 (r 259)), (e P "as_uuid" 705 (r 268)), (e P "from_vector" 727 (r 278)), (e P "as_vector" 735 (r 287)), (e P "subtype" 743 (r 295)), (e P "__eq__" 751 (r 302)), (e P "__ne__" 759 (r 309)), (er P ⟨#[95, 95, 115, 116, 97, 116, 105, 99, 95, 97, 116, 116, 114, 105, 98, 117, 116, 101, 115, 95, 95]⟩ 762 (r 310)), (er P ⟨#[95, 95, 100, 105, 99, 116, 95, 95]⟩ 764 (r 313)), (er P ⟨#[95, 95, 119, 101, 97, 107, 114, 101, 102, 95, 95]⟩ 766 (r 314)), (er P ⟨#[95, 95, 100, 111, 99, 95, 95]⟩ 767 .none), (er P ⟨#[95, 95, 104, 97, 115, 104, 95, 95]⟩ 768 .none)] 5)),
  (oo (t "type") none (.cls ⟨n "Binary", [(t "object")], [(r 312), (t "object")], 311, n "Binary", true, [], [], false, none, false⟩) #[none, none, (some (s "Binary" 649)), (some (s "Binary" 657)), (some (b "object.__new__")), (some (.bool true))]),
  (o (t "getset_descriptor") (.fields #[(.str ⟨#[95, 95, 100, 105, 99, 116, 95, 95]⟩ 763), (r 312), (b "function.__dict__"), (b "function.__dict__#set")])),
  (o (t "getset_descriptor") (.fields #[(.str ⟨#[95, 95, 119, 101, 97, 107, 114, 101, 102, 95, 95]⟩ 765), (r 312), (b "ExceptionGroup.__weakref__"), .none])),
  (o (t "super") (.fields #[(r 312), (r 312), (r 312)])),
  (o (t "builtin_function_or_method") (.fields #[(b "object.__init_subclass__"), (r 312)])),
  (o (t "tuple") (.seq #[] 0)),
  (o (t "builtin_function_or_method") (.fields #[(b "type.__prepare__"), (t "type")])),
  (o (t "dict") (.dict #[(er P ⟨#[95, 95, 109, 111, 100, 117, 108, 101, 95, 95]⟩ 780 (s "bson.code" 771)), (er P ⟨#[95, 95, 113, 117, 97, 108, 110, 97, 109, 101, 95, 95]⟩ 782 (s "Code" 781)), (er P ⟨#[95, 95, 102, 105, 114, 115, 116, 108, 105, 110, 101, 110, 111, 95, 95]⟩ 784 (i 279 783)), (e P "_type_marker" 786 (i 13 785)), (e P "__init__" 796 (r 331)), (e P "scope" 804 (r 339)), (e P "__eq__" 812 (r 346)), (e P "__ne__" 820 (r 353)), (er P ⟨#[95, 95, 115, 116, 97, 116, 105, 99, 95, 97, 116, 116, 114, 105, 98, 117, 116, 101, 115, 95, 95]⟩ 823 (r 354))] 9))]
def C5 (P : Params) : List Obj := [
  (o (t "tuple") (.seq #[] 0)),
  (o .none (.fields #[(i 282 0), (i 4 0), (r 330), (i 304 0), (i 4 0), (r 337), (i 307 0), (i 4 0), (r 345), (i 312 0), (i 4 0), (r 352)])),
  (o (t "code") (.fields #[(s "Code" 775), (s "Code" 776), (s "/claim/cut.py" 777), (i 279 0), (i 0 0), (i 0 0), (i 0 0), (i 0 0), (r 320), (.bool false), (i 313 0), (r 321), .none, .none, .none, .none, (i 778 0), (i 279 0), (s "/claim/cut.py" 779)])),
  (oo (t "frame") none .plain #[(some (r 322)), (some (r 3)), (some (r 319)), none, (some (s "bson.code" 771)), none, (some (r 0))]),
  (o (t "tuple") (.seq #[.none] 0)),
  (o (t "tuple") (.seq #[] 0)),
  (o .none (.fields #[])),
  (o (t "tuple") (.seq #[(s "self" 790), (s "code" 791), (s "scope" 792), (s "kwargs" 793)] 0)),
  (o (t "tuple") (.seq #[] 0)),
  (o .none (fn (m (d 43) 1) "__init__" "Code.__init__" 0 [] .none .none .none .none none .none .none 0)),
  (o (t "code") (.fields #[(s "__init__" 787), (s "Code.__init__" 788), (s "/claim/cut.py" 789), (i 282 0), (i 3 0), (i 0 0), (i 0 0), (i 11 0), (r 325), (.bool true), (i 313 0), (r 326), .none, (r 327), (r 328), (r 329), (i 794 0), (i 282 0), (s "/claim/cut.py" 795)])),
  (o (t "function") (fn (m (d 43) 1) "__init__" "Code.__init__" 3 [] (r 324) .none .none (s "bson.code" 771) none (r 330) .none 0)),
  (o (t "tuple") (.seq #[] 0)),
  (o .none (.fields #[])),
  (o (t "tuple") (.seq #[(s "self" 800)] 0)),
  (o (t "tuple") (.seq #[] 0)),
  (o .none (fn (m (d 43) 2) "scope" "Code.scope" 0 [] .none .none .none .none none .none .none 0)),
  (o (t "code") (.fields #[(s "scope" 797), (s "Code.scope" 798), (s "/claim/cut.py" 799), (i 303 0), (i 1 0), (i 0 0), (i 0 0), (i 3 0), (r 332), (.bool true), (i 313 0), (r 333), .none, (r 334), (r 335), (r 336), (i 801 0), (i 303 0), (s "/claim/cut.py" 802)])),
  (o (t "function") (fn (m (d 43) 2) "scope" "Code.scope" 3 [] .none .none .none (s "bson.code" 771) none (r 337) .none 0)),
  (o (t "property") (.fields #[(r 338), .none, .none, .none, (s "scope" 804), (.bool false)])),
  (o (t "tuple") (.seq #[] 0)),
  (o .none (.fields #[])),
  (o (t "tuple") (.seq #[(s "self" 808), (s "other" 809)] 0)),
  (o (t "tuple") (.seq #[] 0)),
  (o .none (fn (m (d 43) 3) "__eq__" "Code.__eq__" 0 [] .none .none .none .none none .none .none 0)),
  (o (t "code") (.fields #[(s "__eq__" 805), (s "Code.__eq__" 806), (s "/claim/cut.py" 807), (i 307 0), (i 2 0), (i 0 0), (i 0 0), (i 3 0), (r 340), (.bool true), (i 313 0), (r 341), .none, (r 342), (r 343), (r 344), (i 810 0), (i 307 0), (s "/claim/cut.py" 811)])),
  (o (t "function") (fn (m (d 43) 3) "__eq__" "Code.__eq__" 3 [] .none .none .none (s "bson.code" 771) none (r 345) .none 0)),
  (o (t "tuple") (.seq #[] 0)),
  (o .none (.fields #[])),
  (o (t "tuple") (.seq #[(s "self" 816), (s "other" 817)] 0)),
  (o (t "tuple") (.seq #[] 0)),
  (o .none (fn (m (d 43) 4) "__ne__" "Code.__ne__" 0 [] .none .none .none .none none .none .none 0)),
  (o (t "code") (.fields #[(s "__ne__" 813), (s "Code.__ne__" 814), (s "/claim/cut.py" 815), (i 312 0), (i 2 0), (i 0 0), (i 0 0), (i 3 0), (r 347), (.bool true), (i 313 0), (r 348), .none, (r 349), (r 350), (r 351), (i 818 0), (i 312 0), (s "/claim/cut.py" 819)])),
  (o (t "function") (fn (m (d 43) 4) "__ne__" "Code.__ne__" 3 [] .none .none .none (s "bson.code" 771) none (r 352) .none 0)),
  (o (t "tuple") (.seq #[(s "_scope" 821), (s "text" 822)] 0)),
  (o (t "dict") (.dict #[(er P ⟨#[95, 95, 109, 111, 100, 117, 108, 101, 95, 95]⟩ 780 (s "bson.code" 771)), (er P ⟨#[95, 95, 102, 105, 114, 115, 116, 108, 105, 110, 101, 110, 111, 95, 95]⟩ 784 (i 279 783)), (e P "_type_marker" 786 (i 13 785)), (e P "__init__" 796 (r 331)), (e P "scope" 804 (r 339)), (e P "__eq__" 812 (r 346)), (e P "__ne__" 820 (r 353)), (er P ⟨#[95, 95, 115, 116, 97, 116, 105, 99, 95, 97, 116, 116, 114, 105, 98, 117, 116, 101, 115, 95, 95]⟩ 823 (r 354)), (er P ⟨#[95, 95, 100, 105, 99, 116, 95, 95]⟩ 825 (r 357)), (er P ⟨#[95, 95, 119, 101, 97, 107, 114, 101, 102, 95, 95]⟩ 827 (r 358)), (er P ⟨#[95, 95, 100, 111, 99, 95, 95]⟩ 828 .none), (er P ⟨#[95, 95, 104, 97, 115, 104, 95, 95]⟩ 829 .none)] 5)),
  (oo (t "type") none (.cls ⟨n "Code", [(t "object")], [(r 356), (t "object")], 355, n "Code", true, [], [], false, none, false⟩) #[none, none, (some (s "Code" 773)), (some (s "Code" 781)), (some (b "object.__new__")), (some (.bool true))]),
  (o (t "getset_descriptor") (.fields #[(.str ⟨#[95, 95, 100, 105, 99, 116, 95, 95]⟩ 824), (r 356), (b "function.__dict__"), (b "function.__dict__#set")])),
  (o (t "getset_descriptor") (.fields #[(.str ⟨#[95, 95, 119, 101, 97, 107, 114, 101, 102, 95, 95]⟩ 826), (r 356), (b "ExceptionGroup.__weakref__"), .none])),
  (o (t "super") (.fields #[(r 356), (r 356), (r 356)])),
  (o (t "builtin_function_or_method") (.fields #[(b "object.__init_subclass__"), (r 356)])),
  (o (t "tuple") (.seq #[] 0)),
  (o (t "builtin_function_or_method") (.fields #[(b "type.__prepare__"), (t "type")])),
  (o (t "dict") (.dict #[(er P ⟨#[95, 95, 109, 111, 100, 117, 108, 101, 95, 95]⟩ 841 (s "bson.codec_options" 832)), (er P ⟨#[95, 95, 113, 117, 97, 108, 110, 97, 109, 101, 95, 95]⟩ 843 (s "TypeRegistry" 842)), (er P ⟨#[95, 95, 102, 105, 114, 115, 116, 108, 105, 110, 101, 110, 111, 95, 95]⟩ 845 (i 315 844)), (e P "__init__" 854 (r 375)), (e P "codecs" 862 (r 383)), (e P "fallback_encoder" 870 (r 391)), (er P ⟨#[95, 95, 115, 116, 97, 116, 105, 99, 95, 97, 116, 116, 114, 105, 98, 117, 116, 101, 115, 95, 95]⟩ 873 (r 392))] 7)),
  (o (t "tuple") (.seq #[] 0)),
  (o .none (.fields #[(i 317 0), (i 4 0), (r 374), (i 325 0), (i 4 0), (r 381), (i 329 0), (i 4 0), (r 389)])),
  (o (t "code") (.fields #[(s "TypeRegistry" 836), (s "TypeRegistry" 837), (s "/claim/cut.py" 838), (i 315 0), (i 0 0), (i 0 0), (i 0 0), (i 0 0), (r 364), (.bool false), (i 313 0), (r 365), .none, .none, .none, .none, (i 839 0), (i 315 0), (s "/claim/cut.py" 840)])),
  (oo (t "frame") none .plain #[(some (r 366)), (some (r 3)), (some (r 363)), none, (some (s "bson.codec_options" 832)), none, (some (r 0))]),
  (o (t "tuple") (.seq #[.none, .none] 0)),
  (o (t "tuple") (.seq #[] 0)),
  (o .none (.fields #[])),
  (o (t "tuple") (.seq #[(s "self" 849), (s "type_codecs" 850), (s "fallback_encoder" 851)] 0)),
  (o (t "tuple") (.seq #[] 0)),
  (o .none (fn (m (d 45) 0) "__init__" "TypeRegistry.__init__" 0 [] .none .none .none .none none .none .none 0)),
  (o (t "code") (.fields #[(s "__init__" 846), (s "TypeRegistry.__init__" 847), (s "/claim/cut.py" 848), (i 317 0), (i 3 0), (i 0 0), (i 0 0), (i 3 0), (r 369), (.bool true), (i 313 0), (r 370), .none, (r 371), (r 372), (r 373), (i 852 0), (i 317 0), (s "/claim/cut.py" 853)])),
  (o (t "function") (fn (m (d 45) 0) "__init__" "TypeRegistry.__init__" 3 [] (r 368) .none .none (s "bson.codec_options" 832) none (r 374) .none 0)),
  (o (t "tuple") (.seq #[] 0)),
  (o .none (.fields #[])),
  (o (t "tuple") (.seq #[(s "self" 858)] 0)),
  (o (t "tuple") (.seq #[] 0)),
  (o .none (fn (m (d 45) 1) "codecs" "TypeRegistry.codecs" 0 [] .none .none .none .none none .none .none 0)),
  (o (t "code") (.fields #[(s "codecs" 855), (s "TypeRegistry.codecs" 856), (s "/claim/cut.py" 857), (i 324 0), (i 1 0), (i 0 0), (i 0 0), (i 3 0), (r 376), (.bool true), (i 313 0), (r 377), .none, (r 378), (r 379), (r 380), (i 859 0), (i 324 0), (s "/claim/cut.py" 860)])),
  (o (t "function") (fn (m (d 45) 1) "codecs" "TypeRegistry.codecs" 3 [] .none .none .none (s "bson.codec_options" 832) none (r 381) .none 0)),
  (o (t "property") (.fields #[(r 382), .none, .none, .none, (s "codecs" 862), (.bool false)]))]
def C6 (P : Params) : List Obj := [
  (o (t "tuple") (.seq #[] 0)),
  (o .none (.fields #[])),
  (o (t "tuple") (.seq #[(s "self" 866)] 0)),
  (o (t "tuple") (.seq #[] 0)),
  (o .none (fn (m (d 45) 2) "fallback_encoder" "TypeRegistry.fallback_encoder" 0 [] .none .none .none .none none .none .none 0)),
  (o (t "code") (.fields #[(s "fallback_encoder" 863), (s "TypeRegistry.fallback_encoder" 864), (s "/claim/cut.py" 865), (i 328 0), (i 1 0), (i 0 0), (i 0 0), (i 3 0), (r 384), (.bool true), (i 313 0), (r 385), .none, (r 386), (r 387), (r 388), (i 867 0), (i 328 0), (s "/claim/cut.py" 868)])),
  (o (t "function") (fn (m (d 45) 2) "fallback_encoder" "TypeRegistry.fallback_encoder" 3 [] .none .none .none (s "bson.codec_options" 832) none (r 389) .none 0)),
  (o (t "property") (.fields #[(r 390), .none, .none, .none, (s "fallback_encoder" 870), (.bool false)])),
  (o (t "tuple") (.seq #[(s "_fallback_encoder" 871), (s "_type_codecs" 872)] 0)),
  (o (t "dict") (.dict #[(er P ⟨#[95, 95, 109, 111, 100, 117, 108, 101, 95, 95]⟩ 841 (s "bson.codec_options" 832)), (er P ⟨#[95, 95, 102, 105, 114, 115, 116, 108, 105, 110, 101, 110, 111, 95, 95]⟩ 845 (i 315 844)), (e P "__init__" 854 (r 375)), (e P "codecs" 862 (r 383)), (e P "fallback_encoder" 870 (r 391)), (er P ⟨#[95, 95, 115, 116, 97, 116, 105, 99, 95, 97, 116, 116, 114, 105, 98, 117, 116, 101, 115, 95, 95]⟩ 873 (r 392)), (er P ⟨#[95, 95, 100, 105, 99, 116, 95, 95]⟩ 875 (r 395)), (er P ⟨#[95, 95, 119, 101, 97, 107, 114, 101, 102, 95, 95]⟩ 877 (r 396)), (er P ⟨#[95, 95, 100, 111, 99, 95, 95]⟩ 878 .none)] 4)),
  (oo (t "type") none (.cls ⟨n "TypeRegistry", [(t "object")], [(r 394), (t "object")], 393, n "TypeRegistry", true, [], [], false, none, false⟩) #[none, none, (some (s "TypeRegistry" 834)), (some (s "TypeRegistry" 842)), (some (b "object.__new__")), (some (.bool true))]),
  (o (t "getset_descriptor") (.fields #[(.str ⟨#[95, 95, 100, 105, 99, 116, 95, 95]⟩ 874), (r 394), (b "function.__dict__"), (b "function.__dict__#set")])),
  (o (t "getset_descriptor") (.fields #[(.str ⟨#[95, 95, 119, 101, 97, 107, 114, 101, 102, 95, 95]⟩ 876), (r 394), (b "ExceptionGroup.__weakref__"), .none])),
  (o (t "super") (.fields #[(r 394), (r 394), (r 394)])),
  (o (t "builtin_function_or_method") (.fields #[(b "object.__init_subclass__"), (r 394)])),
  (o (t "tuple") (.seq #[] 0)),
  (o (t "builtin_function_or_method") (.fields #[(b "type.__prepare__"), (t "type")])),
  (o (t "dict") (.dict #[(er P ⟨#[95, 95, 109, 111, 100, 117, 108, 101, 95, 95]⟩ 888 (s "bson.codec_options" 832)), (er P ⟨#[95, 95, 113, 117, 97, 108, 110, 97, 109, 101, 95, 95]⟩ 890 (s "CodecOptions" 889)), (er P ⟨#[95, 95, 102, 105, 114, 115, 116, 108, 105, 110, 101, 110, 111, 95, 95]⟩ 892 (i 331 891)), (e P "__init__" 904 (r 413)), (er P ⟨#[95, 95, 115, 116, 97, 116, 105, 99, 95, 97, 116, 116, 114, 105, 98, 117, 116, 101, 115, 95, 95]⟩ 908 (r 414))] 5)),
  (o (t "tuple") (.seq #[] 0)),
  (o .none (.fields #[(i 333 0), (i 4 0), (r 412)])),
  (o (t "code") (.fields #[(s "CodecOptions" 883), (s "CodecOptions" 884), (s "/claim/cut.py" 885), (i 331 0), (i 0 0), (i 0 0), (i 0 0), (i 0 0), (r 402), (.bool false), (i 313 0), (r 403), .none, .none, .none, .none, (i 886 0), (i 331 0), (s "/claim/cut.py" 887)])),
  (oo (t "frame") none .plain #[(some (r 404)), (some (r 3)), (some (r 401)), none, (some (s "bson.codec_options" 832)), none, (some (r 0))]),
  (o (t "tuple") (.seq #[(i 0 603), (s "strict" 894), .none] 0)),
  (o (t "tuple") (.seq #[] 0)),
  (o .none (.fields #[])),
  (o (t "tuple") (.seq #[(s "self" 898), (s "uuid_representation" 899), (s "unicode_decode_error_handler" 900), (s "type_registry" 901)] 0)),
  (o (t "tuple") (.seq #[] 0)),
  (o .none (fn (m (d 46) 0) "__init__" "CodecOptions.__init__" 0 [] .none .none .none .none none .none .none 0)),
  (o (t "code") (.fields #[(s "__init__" 895), (s "CodecOptions.__init__" 896), (s "/claim/cut.py" 897), (i 333 0), (i 4 0), (i 0 0), (i 0 0), (i 3 0), (r 407), (.bool true), (i 313 0), (r 408), .none, (r 409), (r 410), (r 411), (i 902 0), (i 333 0), (s "/claim/cut.py" 903)])),
  (o (t "function") (fn (m (d 46) 0) "__init__" "CodecOptions.__init__" 3 [] (r 406) .none .none (s "bson.codec_options" 832) none (r 412) .none 0)),
  (o (t "tuple") (.seq #[(s "type_registry" 905), (s "unicode_decode_error_handler" 906), (s "uuid_representation" 907)] 0)),
  (o (t "dict") (.dict #[(er P ⟨#[95, 95, 109, 111, 100, 117, 108, 101, 95, 95]⟩ 888 (s "bson.codec_options" 832)), (er P ⟨#[95, 95, 102, 105, 114, 115, 116, 108, 105, 110, 101, 110, 111, 95, 95]⟩ 892 (i 331 891)), (e P "__init__" 904 (r 413)), (er P ⟨#[95, 95, 115, 116, 97, 116, 105, 99, 95, 97, 116, 116, 114, 105, 98, 117, 116, 101, 115, 95, 95]⟩ 908 (r 414)), (er P ⟨#[95, 95, 100, 105, 99, 116, 95, 95]⟩ 910 (r 417)), (er P ⟨#[95, 95, 119, 101, 97, 107, 114, 101, 102, 95, 95]⟩ 912 (r 418)), (er P ⟨#[95, 95, 100, 111, 99, 95, 95]⟩ 913 .none)] 4)),
  (oo (t "type") none (.cls ⟨n "CodecOptions", [(t "object")], [(r 416), (t "object")], 415, n "CodecOptions", true, [], [], false, none, false⟩) #[none, none, (some (s "CodecOptions" 881)), (some (s "CodecOptions" 889)), (some (b "object.__new__")), (some (.bool true))]),
  (o (t "getset_descriptor") (.fields #[(.str ⟨#[95, 95, 100, 105, 99, 116, 95, 95]⟩ 909), (r 416), (b "function.__dict__"), (b "function.__dict__#set")])),
  (o (t "getset_descriptor") (.fields #[(.str ⟨#[95, 95, 119, 101, 97, 107, 114, 101, 102, 95, 95]⟩ 911), (r 416), (b "ExceptionGroup.__weakref__"), .none])),
  (o (t "super") (.fields #[(r 416), (r 416), (r 416)])),
  (o (t "builtin_function_or_method") (.fields #[(b "object.__init_subclass__"), (r 416)])),
  (o (t "dict") (.dict #[(e P "uuid_representation" 930 (i 0 603)), (e P "unicode_decode_error_handler" 932 (s "strict" 894)), (e P "type_registry" 934 (r 425))] 3)),
  (oo (r 416) (some 421) .plain #[]),
  (o (t "frame") (.dict #[(e P "self" 916 (r 422)), (e P "uuid_representation" 917 (i 0 603)), (e P "unicode_decode_error_handler" 918 (s "strict" 894)), (e P "type_registry" 919 (r 425))] 4)),
  (o (t "dict") (.dict #[(e P "_type_codecs" 924 (r 428)), (e P "_fallback_encoder" 926 .none)] 2)),
  (oo (r 394) (some 424) .plain #[]),
  (o (t "frame") (.dict #[(e P "self" 920 (r 425)), (e P "type_codecs" 921 .none), (e P "fallback_encoder" 922 .none)] 3)),
  (o (t "list") (.seq #[] 0)),
  (o (t "list") (.seq #[] 0)),
  (o (t "tuple") (.seq #[] 0)),
  (o (t "builtin_function_or_method") (.fields #[(b "type.__prepare__"), (t "type")])),
  (o (t "dict") (.dict #[(er P ⟨#[95, 95, 109, 111, 100, 117, 108, 101, 95, 95]⟩ 945 (s "bson.datetime_ms" 936)), (er P ⟨#[95, 95, 113, 117, 97, 108, 110, 97, 109, 101, 95, 95]⟩ 947 (s "DatetimeMS" 946)), (er P ⟨#[95, 95, 102, 105, 114, 115, 116, 108, 105, 110, 101, 110, 111, 95, 95]⟩ 949 (i 346 948)), (e P "__init__" 957 (r 442)), (e P "__lt__" 965 (r 449)), (e P "__le__" 973 (r 456)), (e P "__eq__" 981 (r 463)), (e P "__ne__" 989 (r 470)), (e P "__gt__" 997 (r 477)), (e P "__ge__" 1005 (r 484)), (e P "_type_marker" 1007 (i 9 1006)), (e P "__int__" 1014 (r 491)), (er P ⟨#[95, 95, 115, 116, 97, 116, 105, 99, 95, 97, 116, 116, 114, 105, 98, 117, 116, 101, 115, 95, 95]⟩ 1016 (r 492))] 13)),
  (o (t "tuple") (.seq #[] 0)),
  (o .none (.fields #[(i 348 0), (i 4 0), (r 441), (i 356 0), (i 4 0), (r 448), (i 359 0), (i 4 0), (r 455), (i 362 0), (i 4 0), (r 462), (i 367 0), (i 4 0), (r 469), (i 372 0), (i 4 0), (r 476), (i 375 0), (i 4 0), (r 483), (i 379 0), (i 4 0), (r 490)])),
  (o (t "code") (.fields #[(s "DatetimeMS" 940), (s "DatetimeMS" 941), (s "/claim/cut.py" 942), (i 346 0), (i 0 0), (i 0 0), (i 0 0), (i 0 0), (r 432), (.bool false), (i 313 0), (r 433), .none, .none, .none, .none, (i 943 0), (i 346 0), (s "/claim/cut.py" 944)])),
  (oo (t "frame") none .plain #[(some (r 434)), (some (r 3)), (some (r 431)), none, (some (s "bson.datetime_ms" 936)), none, (some (r 0))]),
  (o (t "tuple") (.seq #[] 0)),
  (o .none (.fields #[])),
  (o (t "tuple") (.seq #[(s "self" 953), (s "value" 954)] 0)),
  (o (t "tuple") (.seq #[] 0)),
  (o .none (fn (m (d 49) 0) "__init__" "DatetimeMS.__init__" 0 [] .none .none .none .none none .none .none 0)),
  (o (t "code") (.fields #[(s "__init__" 950), (s "DatetimeMS.__init__" 951), (s "/claim/cut.py" 952), (i 348 0), (i 2 0), (i 0 0), (i 0 0), (i 3 0), (r 436), (.bool true), (i 313 0), (r 437), .none, (r 438), (r 439), (r 440), (i 955 0), (i 348 0), (s "/claim/cut.py" 956)])),
  (o (t "function") (fn (m (d 49) 0) "__init__" "DatetimeMS.__init__" 3 [] .none .none .none (s "bson.datetime_ms" 936) none (r 441) .none 0)),
  (o (t "tuple") (.seq #[] 0)),
  (o .none (.fields #[])),
  (o (t "tuple") (.seq #[(s "self" 961), (s "other" 962)] 0)),
  (o (t "tuple") (.seq #[] 0)),
  (o .none (fn (m (d 49) 1) "__lt__" "DatetimeMS.__lt__" 0 [] .none .none .none .none none .none .none 0))]
def C7 (P : Params) : List Obj := [
  (o (t "code") (.fields #[(s "__lt__" 958), (s "DatetimeMS.__lt__" 959), (s "/claim/cut.py" 960), (i 356 0), (i 2 0), (i 0 0), (i 0 0), (i 3 0), (r 443), (.bool true), (i 313 0), (r 444), .none, (r 445), (r 446), (r 447), (i 963 0), (i 356 0), (s "/claim/cut.py" 964)])),
  (o (t "function") (fn (m (d 49) 1) "__lt__" "DatetimeMS.__lt__" 3 [] .none .none .none (s "bson.datetime_ms" 936) none (r 448) .none 0)),
  (o (t "tuple") (.seq #[] 0)),
  (o .none (.fields #[])),
  (o (t "tuple") (.seq #[(s "self" 969), (s "other" 970)] 0)),
  (o (t "tuple") (.seq #[] 0)),
  (o .none (fn (m (d 49) 2) "__le__" "DatetimeMS.__le__" 0 [] .none .none .none .none none .none .none 0)),
  (o (t "code") (.fields #[(s "__le__" 966), (s "DatetimeMS.__le__" 967), (s "/claim/cut.py" 968), (i 359 0), (i 2 0), (i 0 0), (i 0 0), (i 3 0), (r 450), (.bool true), (i 313 0), (r 451), .none, (r 452), (r 453), (r 454), (i 971 0), (i 359 0), (s "/claim/cut.py" 972)])),
  (o (t "function") (fn (m (d 49) 2) "__le__" "DatetimeMS.__le__" 3 [] .none .none .none (s "bson.datetime_ms" 936) none (r 455) .none 0)),
  (o (t "tuple") (.seq #[] 0)),
  (o .none (.fields #[])),
  (o (t "tuple") (.seq #[(s "self" 977), (s "other" 978)] 0)),
  (o (t "tuple") (.seq #[] 0)),
  (o .none (fn (m (d 49) 3) "__eq__" "DatetimeMS.__eq__" 0 [] .none .none .none .none none .none .none 0)),
  (o (t "code") (.fields #[(s "__eq__" 974), (s "DatetimeMS.__eq__" 975), (s "/claim/cut.py" 976), (i 362 0), (i 2 0), (i 0 0), (i 0 0), (i 3 0), (r 457), (.bool true), (i 313 0), (r 458), .none, (r 459), (r 460), (r 461), (i 979 0), (i 362 0), (s "/claim/cut.py" 980)])),
  (o (t "function") (fn (m (d 49) 3) "__eq__" "DatetimeMS.__eq__" 3 [] .none .none .none (s "bson.datetime_ms" 936) none (r 462) .none 0)),
  (o (t "tuple") (.seq #[] 0)),
  (o .none (.fields #[])),
  (o (t "tuple") (.seq #[(s "self" 985), (s "other" 986)] 0)),
  (o (t "tuple") (.seq #[] 0)),
  (o .none (fn (m (d 49) 4) "__ne__" "DatetimeMS.__ne__" 0 [] .none .none .none .none none .none .none 0)),
  (o (t "code") (.fields #[(s "__ne__" 982), (s "DatetimeMS.__ne__" 983), (s "/claim/cut.py" 984), (i 367 0), (i 2 0), (i 0 0), (i 0 0), (i 3 0), (r 464), (.bool true), (i 313 0), (r 465), .none, (r 466), (r 467), (r 468), (i 987 0), (i 367 0), (s "/claim/cut.py" 988)])),
  (o (t "function") (fn (m (d 49) 4) "__ne__" "DatetimeMS.__ne__" 3 [] .none .none .none (s "bson.datetime_ms" 936) none (r 469) .none 0)),
  (o (t "tuple") (.seq #[] 0)),
  (o .none (.fields #[])),
  (o (t "tuple") (.seq #[(s "self" 993), (s "other" 994)] 0)),
  (o (t "tuple") (.seq #[] 0)),
  (o .none (fn (m (d 49) 5) "__gt__" "DatetimeMS.__gt__" 0 [] .none .none .none .none none .none .none 0)),
  (o (t "code") (.fields #[(s "__gt__" 990), (s "DatetimeMS.__gt__" 991), (s "/claim/cut.py" 992), (i 372 0), (i 2 0), (i 0 0), (i 0 0), (i 3 0), (r 471), (.bool true), (i 313 0), (r 472), .none, (r 473), (r 474), (r 475), (i 995 0), (i 372 0), (s "/claim/cut.py" 996)])),
  (o (t "function") (fn (m (d 49) 5) "__gt__" "DatetimeMS.__gt__" 3 [] .none .none .none (s "bson.datetime_ms" 936) none (r 476) .none 0)),
  (o (t "tuple") (.seq #[] 0)),
  (o .none (.fields #[])),
  (o (t "tuple") (.seq #[(s "self" 1001), (s "other" 1002)] 0)),
  (o (t "tuple") (.seq #[] 0)),
  (o .none (fn (m (d 49) 6) "__ge__" "DatetimeMS.__ge__" 0 [] .none .none .none .none none .none .none 0)),
  (o (t "code") (.fields #[(s "__ge__" 998), (s "DatetimeMS.__ge__" 999), (s "/claim/cut.py" 1000), (i 375 0), (i 2 0), (i 0 0), (i 0 0), (i 3 0), (r 478), (.bool true), (i 313 0), (r 479), .none, (r 480), (r 481), (r 482), (i 1003 0), (i 375 0), (s "/claim/cut.py" 1004)])),
  (o (t "function") (fn (m (d 49) 6) "__ge__" "DatetimeMS.__ge__" 3 [] .none .none .none (s "bson.datetime_ms" 936) none (r 483) .none 0)),
  (o (t "tuple") (.seq #[] 0)),
  (o .none (.fields #[])),
  (o (t "tuple") (.seq #[(s "self" 1011)] 0)),
  (o (t "tuple") (.seq #[] 0)),
  (o .none (fn (m (d 49) 8) "__int__" "DatetimeMS.__int__" 0 [] .none .none .none .none none .none .none 0)),
  (o (t "code") (.fields #[(s "__int__" 1008), (s "DatetimeMS.__int__" 1009), (s "/claim/cut.py" 1010), (i 379 0), (i 1 0), (i 0 0), (i 0 0), (i 3 0), (r 485), (.bool true), (i 313 0), (r 486), .none, (r 487), (r 488), (r 489), (i 1012 0), (i 379 0), (s "/claim/cut.py" 1013)])),
  (o (t "function") (fn (m (d 49) 8) "__int__" "DatetimeMS.__int__" 3 [] .none .none .none (s "bson.datetime_ms" 936) none (r 490) .none 0)),
  (o (t "tuple") (.seq #[(s "_value" 1015)] 0)),
  (o (t "dict") (.dict #[(er P ⟨#[95, 95, 109, 111, 100, 117, 108, 101, 95, 95]⟩ 945 (s "bson.datetime_ms" 936)), (er P ⟨#[95, 95, 102, 105, 114, 115, 116, 108, 105, 110, 101, 110, 111, 95, 95]⟩ 949 (i 346 948)), (e P "__init__" 957 (r 442)), (e P "__lt__" 965 (r 449)), (e P "__le__" 973 (r 456)), (e P "__eq__" 981 (r 463)), (e P "__ne__" 989 (r 470)), (e P "__gt__" 997 (r 477)), (e P "__ge__" 1005 (r 484)), (e P "_type_marker" 1007 (i 9 1006)), (e P "__int__" 1014 (r 491)), (er P ⟨#[95, 95, 115, 116, 97, 116, 105, 99, 95, 97, 116, 116, 114, 105, 98, 117, 116, 101, 115, 95, 95]⟩ 1016 (r 492)), (er P ⟨#[95, 95, 100, 105, 99, 116, 95, 95]⟩ 1018 (r 495)), (er P ⟨#[95, 95, 119, 101, 97, 107, 114, 101, 102, 95, 95]⟩ 1020 (r 496)), (er P ⟨#[95, 95, 100, 111, 99, 95, 95]⟩ 1021 .none), (er P ⟨#[95, 95, 104, 97, 115, 104, 95, 95]⟩ 1022 .none)] 5)),
  (oo (t "type") none (.cls ⟨n "DatetimeMS", [(t "object")], [(r 494), (t "object")], 493, n "DatetimeMS", true, [], [], false, none, false⟩) #[none, none, (some (s "DatetimeMS" 938)), (some (s "DatetimeMS" 946)), (some (b "object.__new__")), (some (.bool true))]),
  (o (t "getset_descriptor") (.fields #[(.str ⟨#[95, 95, 100, 105, 99, 116, 95, 95]⟩ 1017), (r 494), (b "function.__dict__"), (b "function.__dict__#set")])),
  (o (t "getset_descriptor") (.fields #[(.str ⟨#[95, 95, 119, 101, 97, 107, 114, 101, 102, 95, 95]⟩ 1019), (r 494), (b "ExceptionGroup.__weakref__"), .none])),
  (o (t "super") (.fields #[(r 494), (r 494), (r 494)])),
  (o (t "builtin_function_or_method") (.fields #[(b "object.__init_subclass__"), (r 494)])),
  (o (t "tuple") (.seq #[] 0)),
  (o (t "builtin_function_or_method") (.fields #[(b "type.__prepare__"), (t "type")])),
  (o (t "dict") (.dict #[(er P ⟨#[95, 95, 109, 111, 100, 117, 108, 101, 95, 95]⟩ 1034 (s "bson.dbref" 1025)), (er P ⟨#[95, 95, 113, 117, 97, 108, 110, 97, 109, 101, 95, 95]⟩ 1036 (s "DBRef" 1035)), (er P ⟨#[95, 95, 102, 105, 114, 115, 116, 108, 105, 110, 101, 110, 111, 95, 95]⟩ 1038 (i 382 1037)), (e P "_type_marker" 1040 (i 100 1039)), (e P "__init__" 1052 (r 513)), (e P "collection" 1060 (r 521)), (e P "id" 1068 (r 529)), (e P "database" 1076 (r 537)), (e P "__eq__" 1086 (r 544)), (e P "__ne__" 1094 (r 551)), (er P ⟨#[95, 95, 115, 116, 97, 116, 105, 99, 95, 97, 116, 116, 114, 105, 98, 117, 116, 101, 115, 95, 95]⟩ 1099 (r 552))] 11)),
  (o (t "tuple") (.seq #[] 0)),
  (o .none (.fields #[(i 385 0), (i 4 0), (r 512), (i 397 0), (i 4 0), (r 519), (i 401 0), (i 4 0), (r 527), (i 405 0), (i 4 0), (r 535), (i 408 0), (i 4 0), (r 543), (i 415 0), (i 4 0), (r 550)])),
  (o (t "code") (.fields #[(s "DBRef" 1029), (s "DBRef" 1030), (s "/claim/cut.py" 1031), (i 382 0), (i 0 0), (i 0 0), (i 0 0), (i 0 0), (r 502), (.bool false), (i 313 0), (r 503), .none, .none, .none, .none, (i 1032 0), (i 382 0), (s "/claim/cut.py" 1033)])),
  (oo (t "frame") none .plain #[(some (r 504)), (some (r 3)), (some (r 501)), none, (some (s "bson.dbref" 1025)), none, (some (r 0))]),
  (o (t "tuple") (.seq #[.none, .none] 0)),
  (o (t "tuple") (.seq #[] 0)),
  (o .none (.fields #[])),
  (o (t "tuple") (.seq #[(s "self" 1044), (s "collection" 1045), (s "id" 1046), (s "database" 1047), (s "_extra" 1048), (s "kwargs" 1049)] 0)),
  (o (t "tuple") (.seq #[] 0)),
  (o .none (fn (m (d 51) 1) "__init__" "DBRef.__init__" 0 [] .none .none .none .none none .none .none 0))]
def C8 (P : Params) : List Obj := [
  (o (t "code") (.fields #[(s "__init__" 1041), (s "DBRef.__init__" 1042), (s "/claim/cut.py" 1043), (i 385 0), (i 5 0), (i 0 0), (i 0 0), (i 11 0), (r 507), (.bool true), (i 313 0), (r 508), .none, (r 509), (r 510), (r 511), (i 1050 0), (i 385 0), (s "/claim/cut.py" 1051)])),
  (o (t "function") (fn (m (d 51) 1) "__init__" "DBRef.__init__" 3 [] (r 506) .none .none (s "bson.dbref" 1025) none (r 512) .none 0)),
  (o (t "tuple") (.seq #[] 0)),
  (o .none (.fields #[])),
  (o (t "tuple") (.seq #[(s "self" 1056)] 0)),
  (o (t "tuple") (.seq #[] 0)),
  (o .none (fn (m (d 51) 2) "collection" "DBRef.collection" 0 [] .none .none .none .none none .none .none 0)),
  (o (t "code") (.fields #[(s "collection" 1053), (s "DBRef.collection" 1054), (s "/claim/cut.py" 1055), (i 396 0), (i 1 0), (i 0 0), (i 0 0), (i 3 0), (r 514), (.bool true), (i 313 0), (r 515), .none, (r 516), (r 517), (r 518), (i 1057 0), (i 396 0), (s "/claim/cut.py" 1058)])),
  (o (t "function") (fn (m (d 51) 2) "collection" "DBRef.collection" 3 [] .none .none .none (s "bson.dbref" 1025) none (r 519) .none 0)),
  (o (t "property") (.fields #[(r 520), .none, .none, .none, (s "collection" 1060), (.bool false)])),
  (o (t "tuple") (.seq #[] 0)),
  (o .none (.fields #[])),
  (o (t "tuple") (.seq #[(s "self" 1064)] 0)),
  (o (t "tuple") (.seq #[] 0)),
  (o .none (fn (m (d 51) 3) "id" "DBRef.id" 0 [] .none .none .none .none none .none .none 0)),
  (o (t "code") (.fields #[(s "id" 1061), (s "DBRef.id" 1062), (s "/claim/cut.py" 1063), (i 400 0), (i 1 0), (i 0 0), (i 0 0), (i 3 0), (r 522), (.bool true), (i 313 0), (r 523), .none, (r 524), (r 525), (r 526), (i 1065 0), (i 400 0), (s "/claim/cut.py" 1066)])),
  (o (t "function") (fn (m (d 51) 3) "id" "DBRef.id" 3 [] .none .none .none (s "bson.dbref" 1025) none (r 527) .none 0)),
  (o (t "property") (.fields #[(r 528), .none, .none, .none, (s "id" 1068), (.bool false)])),
  (o (t "tuple") (.seq #[] 0)),
  (o .none (.fields #[])),
  (o (t "tuple") (.seq #[(s "self" 1072)] 0)),
  (o (t "tuple") (.seq #[] 0)),
  (o .none (fn (m (d 51) 4) "database" "DBRef.database" 0 [] .none .none .none .none none .none .none 0)),
  (o (t "code") (.fields #[(s "database" 1069), (s "DBRef.database" 1070), (s "/claim/cut.py" 1071), (i 404 0), (i 1 0), (i 0 0), (i 0 0), (i 3 0), (r 530), (.bool true), (i 313 0), (r 531), .none, (r 532), (r 533), (r 534), (i 1073 0), (i 404 0), (s "/claim/cut.py" 1074)])),
  (o (t "function") (fn (m (d 51) 4) "database" "DBRef.database" 3 [] .none .none .none (s "bson.dbref" 1025) none (r 535) .none 0)),
  (o (t "property") (.fields #[(r 536), .none, .none, .none, (s "database" 1076), (.bool false)])),
  (o (t "tuple") (.seq #[] 0)),
  (o .none (.fields #[])),
  (o (t "tuple") (.seq #[(s "self" 1080), (s "other" 1081), (s "us" 1082), (s "them" 1083)] 0)),
  (o (t "tuple") (.seq #[] 0)),
  (o .none (fn (m (d 51) 5) "__eq__" "DBRef.__eq__" 0 [] .none .none .none .none none .none .none 0)),
  (o (t "code") (.fields #[(s "__eq__" 1077), (s "DBRef.__eq__" 1078), (s "/claim/cut.py" 1079), (i 408 0), (i 2 0), (i 0 0), (i 0 0), (i 3 0), (r 538), (.bool true), (i 313 0), (r 539), .none, (r 540), (r 541), (r 542), (i 1084 0), (i 408 0), (s "/claim/cut.py" 1085)])),
  (o (t "function") (fn (m (d 51) 5) "__eq__" "DBRef.__eq__" 3 [] .none .none .none (s "bson.dbref" 1025) none (r 543) .none 0)),
  (o (t "tuple") (.seq #[] 0)),
  (o .none (.fields #[])),
  (o (t "tuple") (.seq #[(s "self" 1090), (s "other" 1091)] 0)),
  (o (t "tuple") (.seq #[] 0)),
  (o .none (fn (m (d 51) 6) "__ne__" "DBRef.__ne__" 0 [] .none .none .none .none none .none .none 0)),
  (o (t "code") (.fields #[(s "__ne__" 1087), (s "DBRef.__ne__" 1088), (s "/claim/cut.py" 1089), (i 415 0), (i 2 0), (i 0 0), (i 0 0), (i 3 0), (r 545), (.bool true), (i 313 0), (r 546), .none, (r 547), (r 548), (r 549), (i 1092 0), (i 415 0), (s "/claim/cut.py" 1093)])),
  (o (t "function") (fn (m (d 51) 6) "__ne__" "DBRef.__ne__" 3 [] .none .none .none (s "bson.dbref" 1025) none (r 550) .none 0)),
  (o (t "tuple") (.seq #[(s "_collection" 1095), (s "_database" 1096), (s "_id" 1097), (s "_kwargs" 1098)] 0)),
  (o (t "dict") (.dict #[(er P ⟨#[95, 95, 109, 111, 100, 117, 108, 101, 95, 95]⟩ 1034 (s "bson.dbref" 1025)), (er P ⟨#[95, 95, 102, 105, 114, 115, 116, 108, 105, 110, 101, 110, 111, 95, 95]⟩ 1038 (i 382 1037)), (e P "_type_marker" 1040 (i 100 1039)), (e P "__init__" 1052 (r 513)), (e P "collection" 1060 (r 521)), (e P "id" 1068 (r 529)), (e P "database" 1076 (r 537)), (e P "__eq__" 1086 (r 544)), (e P "__ne__" 1094 (r 551)), (er P ⟨#[95, 95, 115, 116, 97, 116, 105, 99, 95, 97, 116, 116, 114, 105, 98, 117, 116, 101, 115, 95, 95]⟩ 1099 (r 552)), (er P ⟨#[95, 95, 100, 105, 99, 116, 95, 95]⟩ 1101 (r 555)), (er P ⟨#[95, 95, 119, 101, 97, 107, 114, 101, 102, 95, 95]⟩ 1103 (r 556)), (er P ⟨#[95, 95, 100, 111, 99, 95, 95]⟩ 1104 .none), (er P ⟨#[95, 95, 104, 97, 115, 104, 95, 95]⟩ 1105 .none)] 5)),
  (oo (t "type") none (.cls ⟨n "DBRef", [(t "object")], [(r 554), (t "object")], 553, n "DBRef", true, [], [], false, none, false⟩) #[none, none, (some (s "DBRef" 1027)), (some (s "DBRef" 1035)), (some (b "object.__new__")), (some (.bool true))]),
  (o (t "getset_descriptor") (.fields #[(.str ⟨#[95, 95, 100, 105, 99, 116, 95, 95]⟩ 1100), (r 554), (b "function.__dict__"), (b "function.__dict__#set")])),
  (o (t "getset_descriptor") (.fields #[(.str ⟨#[95, 95, 119, 101, 97, 107, 114, 101, 102, 95, 95]⟩ 1102), (r 554), (b "ExceptionGroup.__weakref__"), .none])),
  (o (t "super") (.fields #[(r 554), (r 554), (r 554)])),
  (o (t "builtin_function_or_method") (.fields #[(b "object.__init_subclass__"), (r 554)])),
  (o (t "tuple") (.seq #[] 0)),
  (o (t "builtin_function_or_method") (.fields #[(b "type.__prepare__"), (t "type")])),
  (o (t "dict") (.dict #[(er P ⟨#[95, 95, 109, 111, 100, 117, 108, 101, 95, 95]⟩ 1117 (s "bson.decimals" 1108)), (er P ⟨#[95, 95, 113, 117, 97, 108, 110, 97, 109, 101, 95, 95]⟩ 1119 (s "Decimal" 1118)), (er P ⟨#[95, 95, 102, 105, 114, 115, 116, 108, 105, 110, 101, 110, 111, 95, 95]⟩ 1121 (i 418 1120)), (e P "__init__" 1129 (r 572)), (e P "as_tuple" 1136 (r 579)), (e P "is_infinite" 1143 (r 586)), (e P "is_nan" 1150 (r 593)), (e P "is_snan" 1157 (r 600)), (e P "is_signed" 1164 (r 607)), (e P "__eq__" 1172 (r 614)), (er P ⟨#[95, 95, 115, 116, 97, 116, 105, 99, 95, 97, 116, 116, 114, 105, 98, 117, 116, 101, 115, 95, 95]⟩ 1176 (r 615))] 11)),
  (o (t "tuple") (.seq #[] 0)),
  (o .none (.fields #[(i 420 0), (i 4 0), (r 571), (i 425 0), (i 4 0), (r 578), (i 428 0), (i 4 0), (r 585), (i 431 0), (i 4 0), (r 592), (i 434 0), (i 4 0), (r 599), (i 437 0), (i 4 0), (r 606), (i 440 0), (i 4 0), (r 613)])),
  (o (t "code") (.fields #[(s "Decimal" 1112), (s "Decimal" 1113), (s "/claim/cut.py" 1114), (i 418 0), (i 0 0), (i 0 0), (i 0 0), (i 0 0), (r 562), (.bool false), (i 313 0), (r 563), .none, .none, .none, .none, (i 1115 0), (i 418 0), (s "/claim/cut.py" 1116)])),
  (oo (t "frame") none .plain #[(some (r 564)), (some (r 3)), (some (r 561)), none, (some (s "bson.decimals" 1108)), none, (some (r 0))]),
  (o (t "tuple") (.seq #[] 0)),
  (o .none (.fields #[])),
  (o (t "tuple") (.seq #[(s "self" 1125), (s "value" 1126)] 0)),
  (o (t "tuple") (.seq #[] 0)),
  (o .none (fn (m (d 53) 0) "__init__" "Decimal.__init__" 0 [] .none .none .none .none none .none .none 0)),
  (o (t "code") (.fields #[(s "__init__" 1122), (s "Decimal.__init__" 1123), (s "/claim/cut.py" 1124), (i 420 0), (i 2 0), (i 0 0), (i 0 0), (i 3 0), (r 566), (.bool true), (i 313 0), (r 567), .none, (r 568), (r 569), (r 570), (i 1127 0), (i 420 0), (s "/claim/cut.py" 1128)])),
  (o (t "function") (fn (m (d 53) 0) "__init__" "Decimal.__init__" 3 [] .none .none .none (s "bson.decimals" 1108) none (r 571) .none 0)),
  (o (t "tuple") (.seq #[] 0)),
  (o .none (.fields #[])),
  (o (t "tuple") (.seq #[(s "self" 1133)] 0))]
def C9 (P : Params) : List Obj := [
  (o (t "tuple") (.seq #[] 0)),
  (o .none (fn (m (d 53) 1) "as_tuple" "Decimal.as_tuple" 0 [] .none .none .none .none none .none .none 0)),
  (o (t "code") (.fields #[(s "as_tuple" 1130), (s "Decimal.as_tuple" 1131), (s "/claim/cut.py" 1132), (i 425 0), (i 1 0), (i 0 0), (i 0 0), (i 3 0), (r 573), (.bool true), (i 313 0), (r 574), .none, (r 575), (r 576), (r 577), (i 1134 0), (i 425 0), (s "/claim/cut.py" 1135)])),
  (o (t "function") (fn (m (d 53) 1) "as_tuple" "Decimal.as_tuple" 3 [] .none .none .none (s "bson.decimals" 1108) none (r 578) .none 0)),
  (o (t "tuple") (.seq #[] 0)),
  (o .none (.fields #[])),
  (o (t "tuple") (.seq #[(s "self" 1140)] 0)),
  (o (t "tuple") (.seq #[] 0)),
  (o .none (fn (m (d 53) 2) "is_infinite" "Decimal.is_infinite" 0 [] .none .none .none .none none .none .none 0)),
  (o (t "code") (.fields #[(s "is_infinite" 1137), (s "Decimal.is_infinite" 1138), (s "/claim/cut.py" 1139), (i 428 0), (i 1 0), (i 0 0), (i 0 0), (i 3 0), (r 580), (.bool true), (i 313 0), (r 581), .none, (r 582), (r 583), (r 584), (i 1141 0), (i 428 0), (s "/claim/cut.py" 1142)])),
  (o (t "function") (fn (m (d 53) 2) "is_infinite" "Decimal.is_infinite" 3 [] .none .none .none (s "bson.decimals" 1108) none (r 585) .none 0)),
  (o (t "tuple") (.seq #[] 0)),
  (o .none (.fields #[])),
  (o (t "tuple") (.seq #[(s "self" 1147)] 0)),
  (o (t "tuple") (.seq #[] 0)),
  (o .none (fn (m (d 53) 3) "is_nan" "Decimal.is_nan" 0 [] .none .none .none .none none .none .none 0)),
  (o (t "code") (.fields #[(s "is_nan" 1144), (s "Decimal.is_nan" 1145), (s "/claim/cut.py" 1146), (i 431 0), (i 1 0), (i 0 0), (i 0 0), (i 3 0), (r 587), (.bool true), (i 313 0), (r 588), .none, (r 589), (r 590), (r 591), (i 1148 0), (i 431 0), (s "/claim/cut.py" 1149)])),
  (o (t "function") (fn (m (d 53) 3) "is_nan" "Decimal.is_nan" 3 [] .none .none .none (s "bson.decimals" 1108) none (r 592) .none 0)),
  (o (t "tuple") (.seq #[] 0)),
  (o .none (.fields #[])),
  (o (t "tuple") (.seq #[(s "self" 1154)] 0)),
  (o (t "tuple") (.seq #[] 0)),
  (o .none (fn (m (d 53) 4) "is_snan" "Decimal.is_snan" 0 [] .none .none .none .none none .none .none 0)),
  (o (t "code") (.fields #[(s "is_snan" 1151), (s "Decimal.is_snan" 1152), (s "/claim/cut.py" 1153), (i 434 0), (i 1 0), (i 0 0), (i 0 0), (i 3 0), (r 594), (.bool true), (i 313 0), (r 595), .none, (r 596), (r 597), (r 598), (i 1155 0), (i 434 0), (s "/claim/cut.py" 1156)])),
  (o (t "function") (fn (m (d 53) 4) "is_snan" "Decimal.is_snan" 3 [] .none .none .none (s "bson.decimals" 1108) none (r 599) .none 0)),
  (o (t "tuple") (.seq #[] 0)),
  (o .none (.fields #[])),
  (o (t "tuple") (.seq #[(s "self" 1161)] 0)),
  (o (t "tuple") (.seq #[] 0)),
  (o .none (fn (m (d 53) 5) "is_signed" "Decimal.is_signed" 0 [] .none .none .none .none none .none .none 0)),
  (o (t "code") (.fields #[(s "is_signed" 1158), (s "Decimal.is_signed" 1159), (s "/claim/cut.py" 1160), (i 437 0), (i 1 0), (i 0 0), (i 0 0), (i 3 0), (r 601), (.bool true), (i 313 0), (r 602), .none, (r 603), (r 604), (r 605), (i 1162 0), (i 437 0), (s "/claim/cut.py" 1163)])),
  (o (t "function") (fn (m (d 53) 5) "is_signed" "Decimal.is_signed" 3 [] .none .none .none (s "bson.decimals" 1108) none (r 606) .none 0)),
  (o (t "tuple") (.seq #[] 0)),
  (o .none (.fields #[])),
  (o (t "tuple") (.seq #[(s "self" 1168), (s "other" 1169)] 0)),
  (o (t "tuple") (.seq #[] 0)),
  (o .none (fn (m (d 53) 6) "__eq__" "Decimal.__eq__" 0 [] .none .none .none .none none .none .none 0)),
  (o (t "code") (.fields #[(s "__eq__" 1165), (s "Decimal.__eq__" 1166), (s "/claim/cut.py" 1167), (i 440 0), (i 2 0), (i 0 0), (i 0 0), (i 3 0), (r 608), (.bool true), (i 313 0), (r 609), .none, (r 610), (r 611), (r 612), (i 1170 0), (i 440 0), (s "/claim/cut.py" 1171)])),
  (o (t "function") (fn (m (d 53) 6) "__eq__" "Decimal.__eq__" 3 [] .none .none .none (s "bson.decimals" 1108) none (r 613) .none 0)),
  (o (t "tuple") (.seq #[(s "digits" 1173), (s "exponent" 1174), (s "sign" 1175)] 0)),
  (o (t "dict") (.dict #[(er P ⟨#[95, 95, 109, 111, 100, 117, 108, 101, 95, 95]⟩ 1117 (s "bson.decimals" 1108)), (er P ⟨#[95, 95, 102, 105, 114, 115, 116, 108, 105, 110, 101, 110, 111, 95, 95]⟩ 1121 (i 418 1120)), (e P "__init__" 1129 (r 572)), (e P "as_tuple" 1136 (r 579)), (e P "is_infinite" 1143 (r 586)), (e P "is_nan" 1150 (r 593)), (e P "is_snan" 1157 (r 600)), (e P "is_signed" 1164 (r 607)), (e P "__eq__" 1172 (r 614)), (er P ⟨#[95, 95, 115, 116, 97, 116, 105, 99, 95, 97, 116, 116, 114, 105, 98, 117, 116, 101, 115, 95, 95]⟩ 1176 (r 615)), (er P ⟨#[95, 95, 100, 105, 99, 116, 95, 95]⟩ 1178 (r 618)), (er P ⟨#[95, 95, 119, 101, 97, 107, 114, 101, 102, 95, 95]⟩ 1180 (r 619)), (er P ⟨#[95, 95, 100, 111, 99, 95, 95]⟩ 1181 .none), (er P ⟨#[95, 95, 104, 97, 115, 104, 95, 95]⟩ 1182 .none)] 5)),
  (oo (t "type") none (.cls ⟨n "Decimal", [(t "object")], [(r 617), (t "object")], 616, n "Decimal", true, [], [], false, none, false⟩) #[none, none, (some (s "Decimal" 1110)), (some (s "Decimal" 1118)), (some (b "object.__new__")), (some (.bool true))]),
  (o (t "getset_descriptor") (.fields #[(.str ⟨#[95, 95, 100, 105, 99, 116, 95, 95]⟩ 1177), (r 617), (b "function.__dict__"), (b "function.__dict__#set")])),
  (o (t "getset_descriptor") (.fields #[(.str ⟨#[95, 95, 119, 101, 97, 107, 114, 101, 102, 95, 95]⟩ 1179), (r 617), (b "ExceptionGroup.__weakref__"), .none])),
  (o (t "super") (.fields #[(r 617), (r 617), (r 617)])),
  (o (t "builtin_function_or_method") (.fields #[(b "object.__init_subclass__"), (r 617)])),
  (o (t "tuple") (.seq #[] 0)),
  (o .none (.fields #[])),
  (o (t "tuple") (.seq #[(s "number" 1190)] 0)),
  (o (t "tuple") (.seq #[] 0)),
  (o .none (fn (d 55) "_PACK_64" "_PACK_64" 0 [] .none .none .none .none none .none .none 0)),
  (o (t "code") (.fields #[(s "_PACK_64" 1187), (s "_PACK_64" 1188), (s "/claim/cut.py" 1189), (i 443 0), (i 1 0), (i 0 0), (i 0 0), (i 3 0), (r 622), (.bool true), (i 313 0), (r 623), .none, (r 624), (r 625), (r 626), (i 1191 0), (i 443 0), (s "/claim/cut.py" 1192)])),
  (o (t "function") (fn (d 55) "_PACK_64" "_PACK_64" 3 [] .none .none .none (s "bson.decimal128" 1185) none (r 627) .none 0)),
  (o (t "tuple") (.seq #[] 0)),
  (o .none (.fields #[])),
  (o (t "tuple") (.seq #[(s "octets" 1197)] 0)),
  (o (t "tuple") (.seq #[] 0)),
  (o .none (fn (d 56) "_UNPACK_64" "_UNPACK_64" 0 [] .none .none .none .none none .none .none 0)),
  (o (t "code") (.fields #[(s "_UNPACK_64" 1194), (s "_UNPACK_64" 1195), (s "/claim/cut.py" 1196), (i 445 0), (i 1 0), (i 0 0), (i 0 0), (i 3 0), (r 629), (.bool true), (i 313 0), (r 630), .none, (r 631), (r 632), (r 633), (i 1198 0), (i 445 0), (s "/claim/cut.py" 1199)])),
  (o (t "function") (fn (d 56) "_UNPACK_64" "_UNPACK_64" 3 [] .none .none .none (s "bson.decimal128" 1185) none (r 634) .none 0)),
  (o (t "tuple") (.seq #[(i 17870283321406128128 1217), (i 0 1218)] 0)),
  (o (t "tuple") (.seq #[(i 8646911284551352320 1209), (i 0 1220)] 0)),
  (o (t "tuple") (.seq #[(i 18158513697557839872 1222), (i 0 1223)] 0)),
  (o (t "tuple") (.seq #[(i 8935141660703064064 1211), (i 0 1225)] 0))]
def C10 (P : Params) : List Obj := [
  (o (t "tuple") (.seq #[(i 18302628885633695744 1227), (i 0 1228)] 0)),
  (o (t "tuple") (.seq #[(i 9079256848778919936 1213), (i 0 1230)] 0)),
  (o (t "tuple") (.seq #[] 0)),
  (o .none (.fields #[])),
  (o (t "tuple") (.seq #[(s "value" 1235)] 0)),
  (o (t "tuple") (.seq #[] 0)),
  (o .none (fn (d 70) "_check_fits" "_check_fits" 0 [] .none .none .none .none none .none .none 0)),
  (o (t "code") (.fields #[(s "_check_fits" 1232), (s "_check_fits" 1233), (s "/claim/cut.py" 1234), (i 460 0), (i 1 0), (i 0 0), (i 0 0), (i 3 0), (r 642), (.bool true), (i 313 0), (r 643), .none, (r 644), (r 645), (r 646), (i 1236 0), (i 460 0), (s "/claim/cut.py" 1237)])),
  (o (t "function") (fn (d 70) "_check_fits" "_check_fits" 3 [] .none .none .none (s "bson.decimal128" 1185) none (r 647) .none 0)),
  (o (t "tuple") (.seq #[] 0)),
  (o .none (.fields #[])),
  (o .none (fn (d 71) "_decimal_to_128" "_decimal_to_128" 0 [] .none .none .none .none none .none .none 0)),
  (o (t "code") (.fields #[(s "_decimal_to_128" 1239), (s "_decimal_to_128" 1240), (s "/claim/cut.py" 1241), (i 464 0), (i 1 0), (i 0 0), (i 0 0), (i 3 0), (r 649), (.bool true), (i 313 0), (r 650), .none, .none, .none, (r 651), (i 1242 0), (i 464 0), (s "/claim/cut.py" 1243)])),
  (o (t "function") (fn (d 71) "_decimal_to_128" "_decimal_to_128" 3 [] .none .none .none (s "bson.decimal128" 1185) none (r 652) .none 0)),
  (o (t "tuple") (.seq #[] 0)),
  (o (t "builtin_function_or_method") (.fields #[(b "type.__prepare__"), (t "type")])),
  (o (t "dict") (.dict #[(er P ⟨#[95, 95, 109, 111, 100, 117, 108, 101, 95, 95]⟩ 1252 (s "bson.decimal128" 1185)), (er P ⟨#[95, 95, 113, 117, 97, 108, 110, 97, 109, 101, 95, 95]⟩ 1254 (s "Decimal128" 1253)), (er P ⟨#[95, 95, 102, 105, 114, 115, 116, 108, 105, 110, 101, 110, 111, 95, 95]⟩ 1256 (i 495 1255)), (e P "_type_marker" 1258 (i 19 1257)), (e P "__init__" 1266 (r 667)), (e P "to_decimal" 1273 (r 674)), (e P "from_bid" 1293 (r 683)), (e P "bid" 1301 (r 692)), (e P "__eq__" 1309 (r 699)), (e P "__ne__" 1317 (r 706)), (er P ⟨#[95, 95, 115, 116, 97, 116, 105, 99, 95, 97, 116, 116, 114, 105, 98, 117, 116, 101, 115, 95, 95]⟩ 1320 (r 707))] 11)),
  (o (t "tuple") (.seq #[] 0)),
  (o .none (.fields #[(i 498 0), (i 4 0), (r 666), (i 508 0), (i 4 0), (r 673), (i 512 0), (i 4 0), (r 680), (i 520 0), (i 4 0), (r 690), (i 523 0), (i 4 0), (r 698), (i 528 0), (i 4 0), (r 705)])),
  (o (t "code") (.fields #[(s "Decimal128" 1247), (s "Decimal128" 1248), (s "/claim/cut.py" 1249), (i 495 0), (i 0 0), (i 0 0), (i 0 0), (i 0 0), (r 657), (.bool false), (i 313 0), (r 658), .none, .none, .none, .none, (i 1250 0), (i 495 0), (s "/claim/cut.py" 1251)])),
  (oo (t "frame") none .plain #[(some (r 659)), (some (r 3)), (some (r 656)), none, (some (s "bson.decimal128" 1185)), none, (some (r 0))]),
  (o (t "tuple") (.seq #[] 0)),
  (o .none (.fields #[])),
  (o (t "tuple") (.seq #[(s "self" 1262), (s "value" 1263)] 0)),
  (o (t "tuple") (.seq #[] 0)),
  (o .none (fn (m (d 72) 1) "__init__" "Decimal128.__init__" 0 [] .none .none .none .none none .none .none 0)),
  (o (t "code") (.fields #[(s "__init__" 1259), (s "Decimal128.__init__" 1260), (s "/claim/cut.py" 1261), (i 498 0), (i 2 0), (i 0 0), (i 0 0), (i 3 0), (r 661), (.bool true), (i 313 0), (r 662), .none, (r 663), (r 664), (r 665), (i 1264 0), (i 498 0), (s "/claim/cut.py" 1265)])),
  (o (t "function") (fn (m (d 72) 1) "__init__" "Decimal128.__init__" 3 [] .none .none .none (s "bson.decimal128" 1185) none (r 666) .none 0)),
  (o (t "tuple") (.seq #[] 0)),
  (o .none (.fields #[])),
  (o (t "tuple") (.seq #[(s "self" 1270)] 0)),
  (o (t "tuple") (.seq #[] 0)),
  (o .none (fn (m (d 72) 2) "to_decimal" "Decimal128.to_decimal" 0 [] .none .none .none .none none .none .none 0)),
  (o (t "code") (.fields #[(s "to_decimal" 1267), (s "Decimal128.to_decimal" 1268), (s "/claim/cut.py" 1269), (i 508 0), (i 1 0), (i 0 0), (i 0 0), (i 3 0), (r 668), (.bool true), (i 313 0), (r 669), .none, (r 670), (r 671), (r 672), (i 1271 0), (i 508 0), (s "/claim/cut.py" 1272)])),
  (o (t "function") (fn (m (d 72) 2) "to_decimal" "Decimal128.to_decimal" 3 [] .none .none .none (s "bson.decimal128" 1185) none (r 673) .none 0)),
  (o (t "tuple") (.seq #[] 0)),
  (o .none (.fields #[])),
  (o (t "tuple") (.seq #[(s "cls" 1277), (s "value" 1278)] 0)),
  (o (t "tuple") (.seq #[] 0)),
  (o .none (fn (m (d 72) 3) "from_bid" "Decimal128.from_bid" 0 [] .none .none .none .none none .none .none 0)),
  (o (t "code") (.fields #[(s "from_bid" 1274), (s "Decimal128.from_bid" 1275), (s "/claim/cut.py" 1276), (i 511 0), (i 2 0), (i 0 0), (i 0 0), (i 3 0), (r 675), (.bool true), (i 313 0), (r 676), .none, (r 677), (r 678), (r 679), (i 1279 0), (i 511 0), (s "/claim/cut.py" 1280)])),
  (o (t "function") (fn (m (d 72) 3) "from_bid" "Decimal128.from_bid" 3 [] .none .none .none (s "bson.decimal128" 1185) (some 684) (r 680) .none 0)),
  (o (t "dict") (.dict #[(er P ⟨#[95, 95, 109, 111, 100, 117, 108, 101, 95, 95]⟩ 1282 (s "bson.decimal128" 1185)), (e P "__name__" 1285 (s "from_bid" 1284)), (er P ⟨#[95, 95, 113, 117, 97, 108, 110, 97, 109, 101, 95, 95]⟩ 1288 (s "Decimal128.from_bid" 1287)), (er P ⟨#[95, 95, 100, 111, 99, 95, 95]⟩ 1290 .none), (e P "__annotations__" 1292 (r 684))] 5)),
  (oo (t "classmethod") (some 682) (.fields #[(r 681), (.bool false)]) #[]),
  (o (t "dict") (.dict #[] 0)),
  (o (t "tuple") (.seq #[] 0)),
  (o .none (.fields #[])),
  (o (t "tuple") (.seq #[(s "self" 1297)] 0)),
  (o (t "tuple") (.seq #[] 0)),
  (o .none (fn (m (d 72) 4) "bid" "Decimal128.bid" 0 [] .none .none .none .none none .none .none 0)),
  (o (t "code") (.fields #[(s "bid" 1294), (s "Decimal128.bid" 1295), (s "/claim/cut.py" 1296), (i 519 0), (i 1 0), (i 0 0), (i 0 0), (i 3 0), (r 685), (.bool true), (i 313 0), (r 686), .none, (r 687), (r 688), (r 689), (i 1298 0), (i 519 0), (s "/claim/cut.py" 1299)])),
  (o (t "function") (fn (m (d 72) 4) "bid" "Decimal128.bid" 3 [] .none .none .none (s "bson.decimal128" 1185) none (r 690) .none 0)),
  (o (t "property") (.fields #[(r 691), .none, .none, .none, (s "bid" 1301), (.bool false)])),
  (o (t "tuple") (.seq #[] 0)),
  (o .none (.fields #[])),
  (o (t "tuple") (.seq #[(s "self" 1305), (s "other" 1306)] 0)),
  (o (t "tuple") (.seq #[] 0)),
  (o .none (fn (m (d 72) 5) "__eq__" "Decimal128.__eq__" 0 [] .none .none .none .none none .none .none 0)),
  (o (t "code") (.fields #[(s "__eq__" 1302), (s "Decimal128.__eq__" 1303), (s "/claim/cut.py" 1304), (i 523 0), (i 2 0), (i 0 0), (i 0 0), (i 3 0), (r 693), (.bool true), (i 313 0), (r 694), .none, (r 695), (r 696), (r 697), (i 1307 0), (i 523 0), (s "/claim/cut.py" 1308)])),
  (o (t "function") (fn (m (d 72) 5) "__eq__" "Decimal128.__eq__" 3 [] .none .none .none (s "bson.decimal128" 1185) none (r 698) .none 0)),
  (o (t "tuple") (.seq #[] 0)),
  (o .none (.fields #[])),
  (o (t "tuple") (.seq #[(s "self" 1313), (s "other" 1314)] 0)),
  (o (t "tuple") (.seq #[] 0))]
def C11 (P : Params) : List Obj := [
  (o .none (fn (m (d 72) 6) "__ne__" "Decimal128.__ne__" 0 [] .none .none .none .none none .none .none 0)),
  (o (t "code") (.fields #[(s "__ne__" 1310), (s "Decimal128.__ne__" 1311), (s "/claim/cut.py" 1312), (i 528 0), (i 2 0), (i 0 0), (i 0 0), (i 3 0), (r 700), (.bool true), (i 313 0), (r 701), .none, (r 702), (r 703), (r 704), (i 1315 0), (i 528 0), (s "/claim/cut.py" 1316)])),
  (o (t "function") (fn (m (d 72) 6) "__ne__" "Decimal128.__ne__" 3 [] .none .none .none (s "bson.decimal128" 1185) none (r 705) .none 0)),
  (o (t "tuple") (.seq #[(s "_high" 1318), (s "_low" 1319)] 0)),
  (o (t "dict") (.dict #[(er P ⟨#[95, 95, 109, 111, 100, 117, 108, 101, 95, 95]⟩ 1252 (s "bson.decimal128" 1185)), (er P ⟨#[95, 95, 102, 105, 114, 115, 116, 108, 105, 110, 101, 110, 111, 95, 95]⟩ 1256 (i 495 1255)), (e P "_type_marker" 1258 (i 19 1257)), (e P "__init__" 1266 (r 667)), (e P "to_decimal" 1273 (r 674)), (e P "from_bid" 1293 (r 683)), (e P "bid" 1301 (r 692)), (e P "__eq__" 1309 (r 699)), (e P "__ne__" 1317 (r 706)), (er P ⟨#[95, 95, 115, 116, 97, 116, 105, 99, 95, 97, 116, 116, 114, 105, 98, 117, 116, 101, 115, 95, 95]⟩ 1320 (r 707)), (er P ⟨#[95, 95, 100, 105, 99, 116, 95, 95]⟩ 1322 (r 710)), (er P ⟨#[95, 95, 119, 101, 97, 107, 114, 101, 102, 95, 95]⟩ 1324 (r 711)), (er P ⟨#[95, 95, 100, 111, 99, 95, 95]⟩ 1325 .none), (er P ⟨#[95, 95, 104, 97, 115, 104, 95, 95]⟩ 1326 .none)] 5)),
  (oo (t "type") none (.cls ⟨n "Decimal128", [(t "object")], [(r 709), (t "object")], 708, n "Decimal128", true, [], [], false, none, false⟩) #[none, none, (some (s "Decimal128" 1245)), (some (s "Decimal128" 1253)), (some (b "object.__new__")), (some (.bool true))]),
  (o (t "getset_descriptor") (.fields #[(.str ⟨#[95, 95, 100, 105, 99, 116, 95, 95]⟩ 1321), (r 709), (b "function.__dict__"), (b "function.__dict__#set")])),
  (o (t "getset_descriptor") (.fields #[(.str ⟨#[95, 95, 119, 101, 97, 107, 114, 101, 102, 95, 95]⟩ 1323), (r 709), (b "ExceptionGroup.__weakref__"), .none])),
  (o (t "super") (.fields #[(r 709), (r 709), (r 709)])),
  (o (t "builtin_function_or_method") (.fields #[(b "object.__init_subclass__"), (r 709)])),
  (o (t "tuple") (.seq #[(t "Exception")] 0)),
  (o (t "builtin_function_or_method") (.fields #[(b "type.__prepare__"), (t "type")])),
  (o (t "dict") (.dict #[(er P ⟨#[95, 95, 109, 111, 100, 117, 108, 101, 95, 95]⟩ 1338 (s "bson.errors" 1329)), (er P ⟨#[95, 95, 113, 117, 97, 108, 110, 97, 109, 101, 95, 95]⟩ 1340 (s "BSONError" 1339)), (er P ⟨#[95, 95, 102, 105, 114, 115, 116, 108, 105, 110, 101, 110, 111, 95, 95]⟩ 1342 (i 531 1341)), (er P ⟨#[95, 95, 115, 116, 97, 116, 105, 99, 95, 97, 116, 116, 114, 105, 98, 117, 116, 101, 115, 95, 95]⟩ 1343 (r 721))] 4)),
  (o (t "tuple") (.seq #[] 0)),
  (o .none (.fields #[])),
  (o (t "code") (.fields #[(s "BSONError" 1333), (s "BSONError" 1334), (s "/claim/cut.py" 1335), (i 531 0), (i 0 0), (i 0 0), (i 0 0), (i 0 0), (r 717), (.bool false), (i 313 0), (r 718), .none, .none, .none, .none, (i 1336 0), (i 531 0), (s "/claim/cut.py" 1337)])),
  (oo (t "frame") none .plain #[(some (r 719)), (some (r 3)), (some (r 716)), none, (some (s "bson.errors" 1329)), none, (some (r 0))]),
  (o (t "tuple") (.seq #[] 0)),
  (o (t "dict") (.dict #[(er P ⟨#[95, 95, 109, 111, 100, 117, 108, 101, 95, 95]⟩ 1338 (s "bson.errors" 1329)), (er P ⟨#[95, 95, 102, 105, 114, 115, 116, 108, 105, 110, 101, 110, 111, 95, 95]⟩ 1342 (i 531 1341)), (er P ⟨#[95, 95, 115, 116, 97, 116, 105, 99, 95, 97, 116, 116, 114, 105, 98, 117, 116, 101, 115, 95, 95]⟩ 1343 (r 721)), (er P ⟨#[95, 95, 119, 101, 97, 107, 114, 101, 102, 95, 95]⟩ 1345 (r 724)), (er P ⟨#[95, 95, 100, 111, 99, 95, 95]⟩ 1346 .none)] 3)),
  (oo (t "type") none (.cls ⟨n "BSONError", [(t "Exception")], [(r 723), (t "Exception"), (t "BaseException"), (t "object")], 722, n "BSONError", true, [], [(r 736), (r 748), (r 778), (r 790)], false, none, false⟩) #[(some (r 714)), none, (some (s "BSONError" 1331)), (some (s "BSONError" 1339)), (some (b "Exception.__new__")), (some (.bool true))]),
  (o (t "getset_descriptor") (.fields #[(.str ⟨#[95, 95, 119, 101, 97, 107, 114, 101, 102, 95, 95]⟩ 1344), (r 723), (b "ExceptionGroup.__weakref__"), .none])),
  (o (t "super") (.fields #[(r 723), (r 723), (r 723)])),
  (o (t "builtin_function_or_method") (.fields #[(b "object.__init_subclass__"), (r 723)])),
  (o (t "tuple") (.seq #[(r 723)] 0)),
  (o (t "builtin_function_or_method") (.fields #[(b "type.__prepare__"), (t "type")])),
  (o (t "dict") (.dict #[(er P ⟨#[95, 95, 109, 111, 100, 117, 108, 101, 95, 95]⟩ 1358 (s "bson.errors" 1329)), (er P ⟨#[95, 95, 113, 117, 97, 108, 110, 97, 109, 101, 95, 95]⟩ 1360 (s "InvalidBSON" 1359)), (er P ⟨#[95, 95, 102, 105, 114, 115, 116, 108, 105, 110, 101, 110, 111, 95, 95]⟩ 1362 (i 533 1361)), (er P ⟨#[95, 95, 115, 116, 97, 116, 105, 99, 95, 97, 116, 116, 114, 105, 98, 117, 116, 101, 115, 95, 95]⟩ 1363 (r 734))] 4)),
  (o (t "tuple") (.seq #[] 0)),
  (o .none (.fields #[])),
  (o (t "code") (.fields #[(s "InvalidBSON" 1353), (s "InvalidBSON" 1354), (s "/claim/cut.py" 1355), (i 533 0), (i 0 0), (i 0 0), (i 0 0), (i 0 0), (r 730), (.bool false), (i 313 0), (r 731), .none, .none, .none, .none, (i 1356 0), (i 533 0), (s "/claim/cut.py" 1357)])),
  (oo (t "frame") none .plain #[(some (r 732)), (some (r 3)), (some (r 729)), none, (some (s "bson.errors" 1329)), none, (some (r 0))]),
  (o (t "tuple") (.seq #[] 0)),
  (o (t "dict") (.dict #[(er P ⟨#[95, 95, 109, 111, 100, 117, 108, 101, 95, 95]⟩ 1358 (s "bson.errors" 1329)), (er P ⟨#[95, 95, 102, 105, 114, 115, 116, 108, 105, 110, 101, 110, 111, 95, 95]⟩ 1362 (i 533 1361)), (er P ⟨#[95, 95, 115, 116, 97, 116, 105, 99, 95, 97, 116, 116, 114, 105, 98, 117, 116, 101, 115, 95, 95]⟩ 1363 (r 734)), (er P ⟨#[95, 95, 100, 111, 99, 95, 95]⟩ 1364 .none)] 2)),
  (oo (t "type") none (.cls ⟨n "InvalidBSON", [(r 723)], [(r 736), (r 723), (t "Exception"), (t "BaseException"), (t "object")], 735, n "InvalidBSON", true, [], [], false, none, false⟩) #[(some (r 727)), none, (some (s "InvalidBSON" 1351)), (some (s "InvalidBSON" 1359)), (some (b "Exception.__new__")), (some (.bool true))]),
  (o (t "super") (.fields #[(r 736), (r 736), (r 736)])),
  (o (t "builtin_function_or_method") (.fields #[(b "object.__init_subclass__"), (r 736)])),
  (o (t "tuple") (.seq #[(r 723)] 0)),
  (o (t "builtin_function_or_method") (.fields #[(b "type.__prepare__"), (t "type")])),
  (o (t "dict") (.dict #[(er P ⟨#[95, 95, 109, 111, 100, 117, 108, 101, 95, 95]⟩ 1374 (s "bson.errors" 1329)), (er P ⟨#[95, 95, 113, 117, 97, 108, 110, 97, 109, 101, 95, 95]⟩ 1376 (s "InvalidStringData" 1375)), (er P ⟨#[95, 95, 102, 105, 114, 115, 116, 108, 105, 110, 101, 110, 111, 95, 95]⟩ 1378 (i 535 1377)), (er P ⟨#[95, 95, 115, 116, 97, 116, 105, 99, 95, 97, 116, 116, 114, 105, 98, 117, 116, 101, 115, 95, 95]⟩ 1379 (r 746))] 4)),
  (o (t "tuple") (.seq #[] 0)),
  (o .none (.fields #[])),
  (o (t "code") (.fields #[(s "InvalidStringData" 1369), (s "InvalidStringData" 1370), (s "/claim/cut.py" 1371), (i 535 0), (i 0 0), (i 0 0), (i 0 0), (i 0 0), (r 742), (.bool false), (i 313 0), (r 743), .none, .none, .none, .none, (i 1372 0), (i 535 0), (s "/claim/cut.py" 1373)])),
  (oo (t "frame") none .plain #[(some (r 744)), (some (r 3)), (some (r 741)), none, (some (s "bson.errors" 1329)), none, (some (r 0))]),
  (o (t "tuple") (.seq #[] 0)),
  (o (t "dict") (.dict #[(er P ⟨#[95, 95, 109, 111, 100, 117, 108, 101, 95, 95]⟩ 1374 (s "bson.errors" 1329)), (er P ⟨#[95, 95, 102, 105, 114, 115, 116, 108, 105, 110, 101, 110, 111, 95, 95]⟩ 1378 (i 535 1377)), (er P ⟨#[95, 95, 115, 116, 97, 116, 105, 99, 95, 97, 116, 116, 114, 105, 98, 117, 116, 101, 115, 95, 95]⟩ 1379 (r 746)), (er P ⟨#[95, 95, 100, 111, 99, 95, 95]⟩ 1380 .none)] 2)),
  (oo (t "type") none (.cls ⟨n "InvalidStringData", [(r 723)], [(r 748), (r 723), (t "Exception"), (t "BaseException"), (t "object")], 747, n "InvalidStringData", true, [], [], false, none, false⟩) #[(some (r 739)), none, (some (s "InvalidStringData" 1367)), (some (s "InvalidStringData" 1375)), (some (b "Exception.__new__")), (some (.bool true))]),
  (o (t "super") (.fields #[(r 748), (r 748), (r 748)])),
  (o (t "builtin_function_or_method") (.fields #[(b "object.__init_subclass__"), (r 748)])),
  (o (t "tuple") (.seq #[(r 723)] 0)),
  (o (t "builtin_function_or_method") (.fields #[(b "type.__prepare__"), (t "type")])),
  (o (t "dict") (.dict #[(er P ⟨#[95, 95, 109, 111, 100, 117, 108, 101, 95, 95]⟩ 1390 (s "bson.errors" 1329)), (er P ⟨#[95, 95, 113, 117, 97, 108, 110, 97, 109, 101, 95, 95]⟩ 1392 (s "InvalidDocument" 1391)), (er P ⟨#[95, 95, 102, 105, 114, 115, 116, 108, 105, 110, 101, 110, 111, 95, 95]⟩ 1394 (i 537 1393)), (e P "__init__" 1404 (r 767)), (e P "document" 1412 (r 775)), (er P ⟨#[95, 95, 115, 116, 97, 116, 105, 99, 95, 97, 116, 116, 114, 105, 98, 117, 116, 101, 115, 95, 95]⟩ 1414 (r 776)), (er P ⟨#[95, 95, 99, 108, 97, 115, 115, 99, 101, 108, 108, 95, 95]⟩ 1415 (r 754))] 7)),
  (o (t "cell") (.cell (some (r 778)))),
  (o (t "tuple") (.seq #[] 0)),
  (o .none (.fields #[(i 539 0), (i 4 0), (r 766), (i 544 0), (i 4 0), (r 773)])),
  (o (t "code") (.fields #[(s "InvalidDocument" 1385), (s "InvalidDocument" 1386), (s "/claim/cut.py" 1387), (i 537 0), (i 0 0), (i 0 0), (i 0 0), (i 0 0), (r 755), (.bool false), (i 313 0), (r 756), .none, .none, .none, .none, (i 1388 0), (i 537 0), (s "/claim/cut.py" 1389)])),
  (oo (t "frame") none .plain #[(some (r 757)), (some (r 3)), (some (r 753)), none, (some (s "bson.errors" 1329)), none, (some (r 0))]),
  (o (t "tuple") (.seq #[.none] 0)),
  (o (t "tuple") (.seq #[(r 754)] 0)),
  (o (t "tuple") (.seq #[(s "__class__" 1398)] 0)),
  (o .none (.fields #[])),
  (o (t "tuple") (.seq #[(s "self" 1399), (s "message" 1400), (s "document" 1401)] 0)),
  (o (t "tuple") (.seq #[] 0)),
  (o .none (fn (m (d 77) 0) "__init__" "InvalidDocument.__init__" 0 [] .none .none .none .none none .none .none 0)),
  (o (t "code") (.fields #[(s "__init__" 1395), (s "InvalidDocument.__init__" 1396), (s "/claim/cut.py" 1397), (i 539 0), (i 3 0), (i 0 0), (i 0 0), (i 3 0), (r 761), (.bool true), (i 313 0), (r 762), .none, (r 763), (r 764), (r 765), (i 1402 0), (i 539 0), (s "/claim/cut.py" 1403)])),
  (o (t "function") (fn (m (d 77) 0) "__init__" "InvalidDocument.__init__" 3 [(n "__class__", 754)] (r 759) .none .none (s "bson.errors" 1329) none (r 766) (r 760) 0))]
def C12 (P : Params) : List Obj := [
  (o (t "tuple") (.seq #[] 0)),
  (o .none (.fields #[])),
  (o (t "tuple") (.seq #[(s "self" 1408)] 0)),
  (o (t "tuple") (.seq #[] 0)),
  (o .none (fn (m (d 77) 1) "document" "InvalidDocument.document" 0 [] .none .none .none .none none .none .none 0)),
  (o (t "code") (.fields #[(s "document" 1405), (s "InvalidDocument.document" 1406), (s "/claim/cut.py" 1407), (i 543 0), (i 1 0), (i 0 0), (i 0 0), (i 3 0), (r 768), (.bool true), (i 313 0), (r 769), .none, (r 770), (r 771), (r 772), (i 1409 0), (i 543 0), (s "/claim/cut.py" 1410)])),
  (o (t "function") (fn (m (d 77) 1) "document" "InvalidDocument.document" 3 [] .none .none .none (s "bson.errors" 1329) none (r 773) .none 0)),
  (o (t "property") (.fields #[(r 774), .none, .none, .none, (s "document" 1412), (.bool false)])),
  (o (t "tuple") (.seq #[(s "_document" 1413)] 0)),
  (o (t "dict") (.dict #[(er P ⟨#[95, 95, 109, 111, 100, 117, 108, 101, 95, 95]⟩ 1390 (s "bson.errors" 1329)), (er P ⟨#[95, 95, 102, 105, 114, 115, 116, 108, 105, 110, 101, 110, 111, 95, 95]⟩ 1394 (i 537 1393)), (e P "__init__" 1404 (r 767)), (e P "document" 1412 (r 775)), (er P ⟨#[95, 95, 115, 116, 97, 116, 105, 99, 95, 97, 116, 116, 114, 105, 98, 117, 116, 101, 115, 95, 95]⟩ 1414 (r 776)), (er P ⟨#[95, 95, 100, 111, 99, 95, 95]⟩ 1416 .none)] 3)),
  (oo (t "type") none (.cls ⟨n "InvalidDocument", [(r 723)], [(r 778), (r 723), (t "Exception"), (t "BaseException"), (t "object")], 777, n "InvalidDocument", true, [], [], false, none, false⟩) #[(some (r 751)), none, (some (s "InvalidDocument" 1383)), (some (s "InvalidDocument" 1391)), (some (b "Exception.__new__")), (some (.bool true))]),
  (o (t "super") (.fields #[(r 778), (r 778), (r 778)])),
  (o (t "builtin_function_or_method") (.fields #[(b "object.__init_subclass__"), (r 778)])),
  (o (t "tuple") (.seq #[(r 723)] 0)),
  (o (t "builtin_function_or_method") (.fields #[(b "type.__prepare__"), (t "type")])),
  (o (t "dict") (.dict #[(er P ⟨#[95, 95, 109, 111, 100, 117, 108, 101, 95, 95]⟩ 1426 (s "bson.errors" 1329)), (er P ⟨#[95, 95, 113, 117, 97, 108, 110, 97, 109, 101, 95, 95]⟩ 1428 (s "InvalidId" 1427)), (er P ⟨#[95, 95, 102, 105, 114, 115, 116, 108, 105, 110, 101, 110, 111, 95, 95]⟩ 1430 (i 546 1429)), (er P ⟨#[95, 95, 115, 116, 97, 116, 105, 99, 95, 97, 116, 116, 114, 105, 98, 117, 116, 101, 115, 95, 95]⟩ 1431 (r 788))] 4)),
  (o (t "tuple") (.seq #[] 0)),
  (o .none (.fields #[])),
  (o (t "code") (.fields #[(s "InvalidId" 1421), (s "InvalidId" 1422), (s "/claim/cut.py" 1423), (i 546 0), (i 0 0), (i 0 0), (i 0 0), (i 0 0), (r 784), (.bool false), (i 313 0), (r 785), .none, .none, .none, .none, (i 1424 0), (i 546 0), (s "/claim/cut.py" 1425)])),
  (oo (t "frame") none .plain #[(some (r 786)), (some (r 3)), (some (r 783)), none, (some (s "bson.errors" 1329)), none, (some (r 0))]),
  (o (t "tuple") (.seq #[] 0)),
  (o (t "dict") (.dict #[(er P ⟨#[95, 95, 109, 111, 100, 117, 108, 101, 95, 95]⟩ 1426 (s "bson.errors" 1329)), (er P ⟨#[95, 95, 102, 105, 114, 115, 116, 108, 105, 110, 101, 110, 111, 95, 95]⟩ 1430 (i 546 1429)), (er P ⟨#[95, 95, 115, 116, 97, 116, 105, 99, 95, 97, 116, 116, 114, 105, 98, 117, 116, 101, 115, 95, 95]⟩ 1431 (r 788)), (er P ⟨#[95, 95, 100, 111, 99, 95, 95]⟩ 1432 .none)] 2)),
  (oo (t "type") none (.cls ⟨n "InvalidId", [(r 723)], [(r 790), (r 723), (t "Exception"), (t "BaseException"), (t "object")], 789, n "InvalidId", true, [], [], false, none, false⟩) #[(some (r 781)), none, (some (s "InvalidId" 1419)), (some (s "InvalidId" 1427)), (some (b "Exception.__new__")), (some (.bool true))]),
  (o (t "super") (.fields #[(r 790), (r 790), (r 790)])),
  (o (t "builtin_function_or_method") (.fields #[(b "object.__init_subclass__"), (r 790)])),
  (o (t "tuple") (.seq #[] 0)),
  (o (t "builtin_function_or_method") (.fields #[(b "type.__prepare__"), (t "type")])),
  (o (t "dict") (.dict #[(er P ⟨#[95, 95, 109, 111, 100, 117, 108, 101, 95, 95]⟩ 1444 (s "bson.int64" 1435)), (er P ⟨#[95, 95, 113, 117, 97, 108, 110, 97, 109, 101, 95, 95]⟩ 1446 (s "Int64" 1445)), (er P ⟨#[95, 95, 102, 105, 114, 115, 116, 108, 105, 110, 101, 110, 111, 95, 95]⟩ 1448 (i 549 1447)), (e P "_type_marker" 1450 (i 18 1449)), (e P "__init__" 1458 (r 806)), (e P "__eq__" 1466 (r 813)), (er P ⟨#[95, 95, 115, 116, 97, 116, 105, 99, 95, 97, 116, 116, 114, 105, 98, 117, 116, 101, 115, 95, 95]⟩ 1468 (r 814))] 7)),
  (o (t "tuple") (.seq #[] 0)),
  (o .none (.fields #[(i 552 0), (i 4 0), (r 805), (i 555 0), (i 4 0), (r 812)])),
  (o (t "code") (.fields #[(s "Int64" 1439), (s "Int64" 1440), (s "/claim/cut.py" 1441), (i 549 0), (i 0 0), (i 0 0), (i 0 0), (i 0 0), (r 796), (.bool false), (i 313 0), (r 797), .none, .none, .none, .none, (i 1442 0), (i 549 0), (s "/claim/cut.py" 1443)])),
  (oo (t "frame") none .plain #[(some (r 798)), (some (r 3)), (some (r 795)), none, (some (s "bson.int64" 1435)), none, (some (r 0))]),
  (o (t "tuple") (.seq #[] 0)),
  (o .none (.fields #[])),
  (o (t "tuple") (.seq #[(s "self" 1454), (s "value" 1455)] 0)),
  (o (t "tuple") (.seq #[] 0)),
  (o .none (fn (m (d 80) 1) "__init__" "Int64.__init__" 0 [] .none .none .none .none none .none .none 0)),
  (o (t "code") (.fields #[(s "__init__" 1451), (s "Int64.__init__" 1452), (s "/claim/cut.py" 1453), (i 552 0), (i 2 0), (i 0 0), (i 0 0), (i 3 0), (r 800), (.bool true), (i 313 0), (r 801), .none, (r 802), (r 803), (r 804), (i 1456 0), (i 552 0), (s "/claim/cut.py" 1457)])),
  (o (t "function") (fn (m (d 80) 1) "__init__" "Int64.__init__" 3 [] .none .none .none (s "bson.int64" 1435) none (r 805) .none 0)),
  (o (t "tuple") (.seq #[] 0)),
  (o .none (.fields #[])),
  (o (t "tuple") (.seq #[(s "self" 1462), (s "other" 1463)] 0)),
  (o (t "tuple") (.seq #[] 0)),
  (o .none (fn (m (d 80) 2) "__eq__" "Int64.__eq__" 0 [] .none .none .none .none none .none .none 0)),
  (o (t "code") (.fields #[(s "__eq__" 1459), (s "Int64.__eq__" 1460), (s "/claim/cut.py" 1461), (i 555 0), (i 2 0), (i 0 0), (i 0 0), (i 3 0), (r 807), (.bool true), (i 313 0), (r 808), .none, (r 809), (r 810), (r 811), (i 1464 0), (i 555 0), (s "/claim/cut.py" 1465)])),
  (o (t "function") (fn (m (d 80) 2) "__eq__" "Int64.__eq__" 3 [] .none .none .none (s "bson.int64" 1435) none (r 812) .none 0)),
  (o (t "tuple") (.seq #[(s "value" 1467)] 0)),
  (o (t "dict") (.dict #[(er P ⟨#[95, 95, 109, 111, 100, 117, 108, 101, 95, 95]⟩ 1444 (s "bson.int64" 1435)), (er P ⟨#[95, 95, 102, 105, 114, 115, 116, 108, 105, 110, 101, 110, 111, 95, 95]⟩ 1448 (i 549 1447)), (e P "_type_marker" 1450 (i 18 1449)), (e P "__init__" 1458 (r 806)), (e P "__eq__" 1466 (r 813)), (er P ⟨#[95, 95, 115, 116, 97, 116, 105, 99, 95, 97, 116, 116, 114, 105, 98, 117, 116, 101, 115, 95, 95]⟩ 1468 (r 814)), (er P ⟨#[95, 95, 100, 105, 99, 116, 95, 95]⟩ 1470 (r 817)), (er P ⟨#[95, 95, 119, 101, 97, 107, 114, 101, 102, 95, 95]⟩ 1472 (r 818)), (er P ⟨#[95, 95, 100, 111, 99, 95, 95]⟩ 1473 .none), (er P ⟨#[95, 95, 104, 97, 115, 104, 95, 95]⟩ 1474 .none)] 5)),
  (oo (t "type") none (.cls ⟨n "Int64", [(t "object")], [(r 816), (t "object")], 815, n "Int64", true, [], [], false, none, false⟩) #[none, none, (some (s "Int64" 1437)), (some (s "Int64" 1445)), (some (b "object.__new__")), (some (.bool true))]),
  (o (t "getset_descriptor") (.fields #[(.str ⟨#[95, 95, 100, 105, 99, 116, 95, 95]⟩ 1469), (r 816), (b "function.__dict__"), (b "function.__dict__#set")])),
  (o (t "getset_descriptor") (.fields #[(.str ⟨#[95, 95, 119, 101, 97, 107, 114, 101, 102, 95, 95]⟩ 1471), (r 816), (b "ExceptionGroup.__weakref__"), .none])),
  (o (t "super") (.fields #[(r 816), (r 816), (r 816)])),
  (o (t "builtin_function_or_method") (.fields #[(b "object.__init_subclass__"), (r 816)])),
  (o (t "tuple") (.seq #[] 0)),
  (o (t "builtin_function_or_method") (.fields #[(b "type.__prepare__"), (t "type")])),
  (o (t "dict") (.dict #[(er P ⟨#[95, 95, 109, 111, 100, 117, 108, 101, 95, 95]⟩ 1486 (s "bson.max_key" 1477)), (er P ⟨#[95, 95, 113, 117, 97, 108, 110, 97, 109, 101, 95, 95]⟩ 1488 (s "MaxKey" 1487)), (er P ⟨#[95, 95, 102, 105, 114, 115, 116, 108, 105, 110, 101, 110, 111, 95, 95]⟩ 1490 (i 558 1489)), (e P "_type_marker" 1492 (i 127 1491)), (e P "__eq__" 1500 (r 834)), (e P "__ne__" 1508 (r 841)), (e P "__le__" 1516 (r 848)), (e P "__lt__" 1524 (r 855)), (e P "__ge__" 1532 (r 862)), (e P "__gt__" 1540 (r 869)), (e P "__repr__" 1547 (r 876)), (er P ⟨#[95, 95, 115, 116, 97, 116, 105, 99, 95, 97, 116, 116, 114, 105, 98, 117, 116, 101, 115, 95, 95]⟩ 1548 (r 877))] 12)),
  (o (t "tuple") (.seq #[] 0)),
  (o .none (.fields #[(i 561 0), (i 4 0), (r 833), (i 564 0), (i 4 0), (r 840), (i 567 0), (i 4 0), (r 847), (i 570 0), (i 4 0), (r 854), (i 573 0), (i 4 0), (r 861), (i 576 0), (i 4 0), (r 868), (i 579 0), (i 4 0), (r 875)])),
  (o (t "code") (.fields #[(s "MaxKey" 1481), (s "MaxKey" 1482), (s "/claim/cut.py" 1483), (i 558 0), (i 0 0), (i 0 0), (i 0 0), (i 0 0), (r 824), (.bool false), (i 313 0), (r 825), .none, .none, .none, .none, (i 1484 0), (i 558 0), (s "/claim/cut.py" 1485)])),
  (oo (t "frame") none .plain #[(some (r 826)), (some (r 3)), (some (r 823)), none, (some (s "bson.max_key" 1477)), none, (some (r 0))]),
  (o (t "tuple") (.seq #[] 0)),
  (o .none (.fields #[])),
  (o (t "tuple") (.seq #[(s "self" 1496), (s "other" 1497)] 0)),
  (o (t "tuple") (.seq #[] 0))]
def C13 (P : Params) : List Obj := [
  (o .none (fn (m (d 82) 1) "__eq__" "MaxKey.__eq__" 0 [] .none .none .none .none none .none .none 0)),
  (o (t "code") (.fields #[(s "__eq__" 1493), (s "MaxKey.__eq__" 1494), (s "/claim/cut.py" 1495), (i 561 0), (i 2 0), (i 0 0), (i 0 0), (i 3 0), (r 828), (.bool true), (i 313 0), (r 829), .none, (r 830), (r 831), (r 832), (i 1498 0), (i 561 0), (s "/claim/cut.py" 1499)])),
  (o (t "function") (fn (m (d 82) 1) "__eq__" "MaxKey.__eq__" 3 [] .none .none .none (s "bson.max_key" 1477) none (r 833) .none 0)),
  (o (t "tuple") (.seq #[] 0)),
  (o .none (.fields #[])),
  (o (t "tuple") (.seq #[(s "self" 1504), (s "other" 1505)] 0)),
  (o (t "tuple") (.seq #[] 0)),
  (o .none (fn (m (d 82) 2) "__ne__" "MaxKey.__ne__" 0 [] .none .none .none .none none .none .none 0)),
  (o (t "code") (.fields #[(s "__ne__" 1501), (s "MaxKey.__ne__" 1502), (s "/claim/cut.py" 1503), (i 564 0), (i 2 0), (i 0 0), (i 0 0), (i 3 0), (r 835), (.bool true), (i 313 0), (r 836), .none, (r 837), (r 838), (r 839), (i 1506 0), (i 564 0), (s "/claim/cut.py" 1507)])),
  (o (t "function") (fn (m (d 82) 2) "__ne__" "MaxKey.__ne__" 3 [] .none .none .none (s "bson.max_key" 1477) none (r 840) .none 0)),
  (o (t "tuple") (.seq #[] 0)),
  (o .none (.fields #[])),
  (o (t "tuple") (.seq #[(s "self" 1512), (s "other" 1513)] 0)),
  (o (t "tuple") (.seq #[] 0)),
  (o .none (fn (m (d 82) 3) "__le__" "MaxKey.__le__" 0 [] .none .none .none .none none .none .none 0)),
  (o (t "code") (.fields #[(s "__le__" 1509), (s "MaxKey.__le__" 1510), (s "/claim/cut.py" 1511), (i 567 0), (i 2 0), (i 0 0), (i 0 0), (i 3 0), (r 842), (.bool true), (i 313 0), (r 843), .none, (r 844), (r 845), (r 846), (i 1514 0), (i 567 0), (s "/claim/cut.py" 1515)])),
  (o (t "function") (fn (m (d 82) 3) "__le__" "MaxKey.__le__" 3 [] .none .none .none (s "bson.max_key" 1477) none (r 847) .none 0)),
  (o (t "tuple") (.seq #[] 0)),
  (o .none (.fields #[])),
  (o (t "tuple") (.seq #[(s "self" 1520), (s "dummy" 1521)] 0)),
  (o (t "tuple") (.seq #[] 0)),
  (o .none (fn (m (d 82) 4) "__lt__" "MaxKey.__lt__" 0 [] .none .none .none .none none .none .none 0)),
  (o (t "code") (.fields #[(s "__lt__" 1517), (s "MaxKey.__lt__" 1518), (s "/claim/cut.py" 1519), (i 570 0), (i 2 0), (i 0 0), (i 0 0), (i 3 0), (r 849), (.bool true), (i 313 0), (r 850), .none, (r 851), (r 852), (r 853), (i 1522 0), (i 570 0), (s "/claim/cut.py" 1523)])),
  (o (t "function") (fn (m (d 82) 4) "__lt__" "MaxKey.__lt__" 3 [] .none .none .none (s "bson.max_key" 1477) none (r 854) .none 0)),
  (o (t "tuple") (.seq #[] 0)),
  (o .none (.fields #[])),
  (o (t "tuple") (.seq #[(s "self" 1528), (s "dummy" 1529)] 0)),
  (o (t "tuple") (.seq #[] 0)),
  (o .none (fn (m (d 82) 5) "__ge__" "MaxKey.__ge__" 0 [] .none .none .none .none none .none .none 0)),
  (o (t "code") (.fields #[(s "__ge__" 1525), (s "MaxKey.__ge__" 1526), (s "/claim/cut.py" 1527), (i 573 0), (i 2 0), (i 0 0), (i 0 0), (i 3 0), (r 856), (.bool true), (i 313 0), (r 857), .none, (r 858), (r 859), (r 860), (i 1530 0), (i 573 0), (s "/claim/cut.py" 1531)])),
  (o (t "function") (fn (m (d 82) 5) "__ge__" "MaxKey.__ge__" 3 [] .none .none .none (s "bson.max_key" 1477) none (r 861) .none 0)),
  (o (t "tuple") (.seq #[] 0)),
  (o .none (.fields #[])),
  (o (t "tuple") (.seq #[(s "self" 1536), (s "other" 1537)] 0)),
  (o (t "tuple") (.seq #[] 0)),
  (o .none (fn (m (d 82) 6) "__gt__" "MaxKey.__gt__" 0 [] .none .none .none .none none .none .none 0)),
  (o (t "code") (.fields #[(s "__gt__" 1533), (s "MaxKey.__gt__" 1534), (s "/claim/cut.py" 1535), (i 576 0), (i 2 0), (i 0 0), (i 0 0), (i 3 0), (r 863), (.bool true), (i 313 0), (r 864), .none, (r 865), (r 866), (r 867), (i 1538 0), (i 576 0), (s "/claim/cut.py" 1539)])),
  (o (t "function") (fn (m (d 82) 6) "__gt__" "MaxKey.__gt__" 3 [] .none .none .none (s "bson.max_key" 1477) none (r 868) .none 0)),
  (o (t "tuple") (.seq #[] 0)),
  (o .none (.fields #[])),
  (o (t "tuple") (.seq #[(s "self" 1544)] 0)),
  (o (t "tuple") (.seq #[] 0)),
  (o .none (fn (m (d 82) 7) "__repr__" "MaxKey.__repr__" 0 [] .none .none .none .none none .none .none 0)),
  (o (t "code") (.fields #[(s "__repr__" 1541), (s "MaxKey.__repr__" 1542), (s "/claim/cut.py" 1543), (i 579 0), (i 1 0), (i 0 0), (i 0 0), (i 3 0), (r 870), (.bool true), (i 313 0), (r 871), .none, (r 872), (r 873), (r 874), (i 1545 0), (i 579 0), (s "/claim/cut.py" 1546)])),
  (o (t "function") (fn (m (d 82) 7) "__repr__" "MaxKey.__repr__" 3 [] .none .none .none (s "bson.max_key" 1477) none (r 875) .none 0)),
  (o (t "tuple") (.seq #[] 0)),
  (o (t "dict") (.dict #[(er P ⟨#[95, 95, 109, 111, 100, 117, 108, 101, 95, 95]⟩ 1486 (s "bson.max_key" 1477)), (er P ⟨#[95, 95, 102, 105, 114, 115, 116, 108, 105, 110, 101, 110, 111, 95, 95]⟩ 1490 (i 558 1489)), (e P "_type_marker" 1492 (i 127 1491)), (e P "__eq__" 1500 (r 834)), (e P "__ne__" 1508 (r 841)), (e P "__le__" 1516 (r 848)), (e P "__lt__" 1524 (r 855)), (e P "__ge__" 1532 (r 862)), (e P "__gt__" 1540 (r 869)), (e P "__repr__" 1547 (r 876)), (er P ⟨#[95, 95, 115, 116, 97, 116, 105, 99, 95, 97, 116, 116, 114, 105, 98, 117, 116, 101, 115, 95, 95]⟩ 1548 (r 877)), (er P ⟨#[95, 95, 100, 105, 99, 116, 95, 95]⟩ 1550 (r 880)), (er P ⟨#[95, 95, 119, 101, 97, 107, 114, 101, 102, 95, 95]⟩ 1552 (r 881)), (er P ⟨#[95, 95, 100, 111, 99, 95, 95]⟩ 1553 .none), (er P ⟨#[95, 95, 104, 97, 115, 104, 95, 95]⟩ 1554 .none)] 5)),
  (oo (t "type") none (.cls ⟨n "MaxKey", [(t "object")], [(r 879), (t "object")], 878, n "MaxKey", true, [], [], false, none, false⟩) #[none, none, (some (s "MaxKey" 1479)), (some (s "MaxKey" 1487)), (some (b "object.__new__")), (some (.bool true))]),
  (o (t "getset_descriptor") (.fields #[(.str ⟨#[95, 95, 100, 105, 99, 116, 95, 95]⟩ 1549), (r 879), (b "function.__dict__"), (b "function.__dict__#set")])),
  (o (t "getset_descriptor") (.fields #[(.str ⟨#[95, 95, 119, 101, 97, 107, 114, 101, 102, 95, 95]⟩ 1551), (r 879), (b "ExceptionGroup.__weakref__"), .none])),
  (o (t "super") (.fields #[(r 879), (r 879), (r 879)])),
  (o (t "builtin_function_or_method") (.fields #[(b "object.__init_subclass__"), (r 879)])),
  (o (t "tuple") (.seq #[] 0)),
  (o (t "builtin_function_or_method") (.fields #[(b "type.__prepare__"), (t "type")])),
  (o (t "dict") (.dict #[(er P ⟨#[95, 95, 109, 111, 100, 117, 108, 101, 95, 95]⟩ 1566 (s "bson.min_key" 1557)), (er P ⟨#[95, 95, 113, 117, 97, 108, 110, 97, 109, 101, 95, 95]⟩ 1568 (s "MinKey" 1567)), (er P ⟨#[95, 95, 102, 105, 114, 115, 116, 108, 105, 110, 101, 110, 111, 95, 95]⟩ 1570 (i 582 1569)), (e P "_type_marker" 1572 (i 255 1571)), (e P "__eq__" 1580 (r 897)), (e P "__ne__" 1588 (r 904)), (e P "__le__" 1596 (r 911)), (e P "__lt__" 1604 (r 918)), (e P "__ge__" 1612 (r 925)), (e P "__gt__" 1620 (r 932)), (e P "__repr__" 1627 (r 939)), (er P ⟨#[95, 95, 115, 116, 97, 116, 105, 99, 95, 97, 116, 116, 114, 105, 98, 117, 116, 101, 115, 95, 95]⟩ 1628 (r 940))] 12)),
  (o (t "tuple") (.seq #[] 0)),
  (o .none (.fields #[(i 585 0), (i 4 0), (r 896), (i 588 0), (i 4 0), (r 903), (i 591 0), (i 4 0), (r 910), (i 594 0), (i 4 0), (r 917), (i 597 0), (i 4 0), (r 924), (i 600 0), (i 4 0), (r 931), (i 603 0), (i 4 0), (r 938)])),
  (o (t "code") (.fields #[(s "MinKey" 1561), (s "MinKey" 1562), (s "/claim/cut.py" 1563), (i 582 0), (i 0 0), (i 0 0), (i 0 0), (i 0 0), (r 887), (.bool false), (i 313 0), (r 888), .none, .none, .none, .none, (i 1564 0), (i 582 0), (s "/claim/cut.py" 1565)])),
  (oo (t "frame") none .plain #[(some (r 889)), (some (r 3)), (some (r 886)), none, (some (s "bson.min_key" 1557)), none, (some (r 0))]),
  (o (t "tuple") (.seq #[] 0)),
  (o .none (.fields #[])),
  (o (t "tuple") (.seq #[(s "self" 1576), (s "other" 1577)] 0)),
  (o (t "tuple") (.seq #[] 0)),
  (o .none (fn (m (d 84) 1) "__eq__" "MinKey.__eq__" 0 [] .none .none .none .none none .none .none 0))]
def C14 (P : Params) : List Obj := [
  (o (t "code") (.fields #[(s "__eq__" 1573), (s "MinKey.__eq__" 1574), (s "/claim/cut.py" 1575), (i 585 0), (i 2 0), (i 0 0), (i 0 0), (i 3 0), (r 891), (.bool true), (i 313 0), (r 892), .none, (r 893), (r 894), (r 895), (i 1578 0), (i 585 0), (s "/claim/cut.py" 1579)])),
  (o (t "function") (fn (m (d 84) 1) "__eq__" "MinKey.__eq__" 3 [] .none .none .none (s "bson.min_key" 1557) none (r 896) .none 0)),
  (o (t "tuple") (.seq #[] 0)),
  (o .none (.fields #[])),
  (o (t "tuple") (.seq #[(s "self" 1584), (s "other" 1585)] 0)),
  (o (t "tuple") (.seq #[] 0)),
  (o .none (fn (m (d 84) 2) "__ne__" "MinKey.__ne__" 0 [] .none .none .none .none none .none .none 0)),
  (o (t "code") (.fields #[(s "__ne__" 1581), (s "MinKey.__ne__" 1582), (s "/claim/cut.py" 1583), (i 588 0), (i 2 0), (i 0 0), (i 0 0), (i 3 0), (r 898), (.bool true), (i 313 0), (r 899), .none, (r 900), (r 901), (r 902), (i 1586 0), (i 588 0), (s "/claim/cut.py" 1587)])),
  (o (t "function") (fn (m (d 84) 2) "__ne__" "MinKey.__ne__" 3 [] .none .none .none (s "bson.min_key" 1557) none (r 903) .none 0)),
  (o (t "tuple") (.seq #[] 0)),
  (o .none (.fields #[])),
  (o (t "tuple") (.seq #[(s "self" 1592), (s "dummy" 1593)] 0)),
  (o (t "tuple") (.seq #[] 0)),
  (o .none (fn (m (d 84) 3) "__le__" "MinKey.__le__" 0 [] .none .none .none .none none .none .none 0)),
  (o (t "code") (.fields #[(s "__le__" 1589), (s "MinKey.__le__" 1590), (s "/claim/cut.py" 1591), (i 591 0), (i 2 0), (i 0 0), (i 0 0), (i 3 0), (r 905), (.bool true), (i 313 0), (r 906), .none, (r 907), (r 908), (r 909), (i 1594 0), (i 591 0), (s "/claim/cut.py" 1595)])),
  (o (t "function") (fn (m (d 84) 3) "__le__" "MinKey.__le__" 3 [] .none .none .none (s "bson.min_key" 1557) none (r 910) .none 0)),
  (o (t "tuple") (.seq #[] 0)),
  (o .none (.fields #[])),
  (o (t "tuple") (.seq #[(s "self" 1600), (s "other" 1601)] 0)),
  (o (t "tuple") (.seq #[] 0)),
  (o .none (fn (m (d 84) 4) "__lt__" "MinKey.__lt__" 0 [] .none .none .none .none none .none .none 0)),
  (o (t "code") (.fields #[(s "__lt__" 1597), (s "MinKey.__lt__" 1598), (s "/claim/cut.py" 1599), (i 594 0), (i 2 0), (i 0 0), (i 0 0), (i 3 0), (r 912), (.bool true), (i 313 0), (r 913), .none, (r 914), (r 915), (r 916), (i 1602 0), (i 594 0), (s "/claim/cut.py" 1603)])),
  (o (t "function") (fn (m (d 84) 4) "__lt__" "MinKey.__lt__" 3 [] .none .none .none (s "bson.min_key" 1557) none (r 917) .none 0)),
  (o (t "tuple") (.seq #[] 0)),
  (o .none (.fields #[])),
  (o (t "tuple") (.seq #[(s "self" 1608), (s "other" 1609)] 0)),
  (o (t "tuple") (.seq #[] 0)),
  (o .none (fn (m (d 84) 5) "__ge__" "MinKey.__ge__" 0 [] .none .none .none .none none .none .none 0)),
  (o (t "code") (.fields #[(s "__ge__" 1605), (s "MinKey.__ge__" 1606), (s "/claim/cut.py" 1607), (i 597 0), (i 2 0), (i 0 0), (i 0 0), (i 3 0), (r 919), (.bool true), (i 313 0), (r 920), .none, (r 921), (r 922), (r 923), (i 1610 0), (i 597 0), (s "/claim/cut.py" 1611)])),
  (o (t "function") (fn (m (d 84) 5) "__ge__" "MinKey.__ge__" 3 [] .none .none .none (s "bson.min_key" 1557) none (r 924) .none 0)),
  (o (t "tuple") (.seq #[] 0)),
  (o .none (.fields #[])),
  (o (t "tuple") (.seq #[(s "self" 1616), (s "dummy" 1617)] 0)),
  (o (t "tuple") (.seq #[] 0)),
  (o .none (fn (m (d 84) 6) "__gt__" "MinKey.__gt__" 0 [] .none .none .none .none none .none .none 0)),
  (o (t "code") (.fields #[(s "__gt__" 1613), (s "MinKey.__gt__" 1614), (s "/claim/cut.py" 1615), (i 600 0), (i 2 0), (i 0 0), (i 0 0), (i 3 0), (r 926), (.bool true), (i 313 0), (r 927), .none, (r 928), (r 929), (r 930), (i 1618 0), (i 600 0), (s "/claim/cut.py" 1619)])),
  (o (t "function") (fn (m (d 84) 6) "__gt__" "MinKey.__gt__" 3 [] .none .none .none (s "bson.min_key" 1557) none (r 931) .none 0)),
  (o (t "tuple") (.seq #[] 0)),
  (o .none (.fields #[])),
  (o (t "tuple") (.seq #[(s "self" 1624)] 0)),
  (o (t "tuple") (.seq #[] 0)),
  (o .none (fn (m (d 84) 7) "__repr__" "MinKey.__repr__" 0 [] .none .none .none .none none .none .none 0)),
  (o (t "code") (.fields #[(s "__repr__" 1621), (s "MinKey.__repr__" 1622), (s "/claim/cut.py" 1623), (i 603 0), (i 1 0), (i 0 0), (i 0 0), (i 3 0), (r 933), (.bool true), (i 313 0), (r 934), .none, (r 935), (r 936), (r 937), (i 1625 0), (i 603 0), (s "/claim/cut.py" 1626)])),
  (o (t "function") (fn (m (d 84) 7) "__repr__" "MinKey.__repr__" 3 [] .none .none .none (s "bson.min_key" 1557) none (r 938) .none 0)),
  (o (t "tuple") (.seq #[] 0)),
  (o (t "dict") (.dict #[(er P ⟨#[95, 95, 109, 111, 100, 117, 108, 101, 95, 95]⟩ 1566 (s "bson.min_key" 1557)), (er P ⟨#[95, 95, 102, 105, 114, 115, 116, 108, 105, 110, 101, 110, 111, 95, 95]⟩ 1570 (i 582 1569)), (e P "_type_marker" 1572 (i 255 1571)), (e P "__eq__" 1580 (r 897)), (e P "__ne__" 1588 (r 904)), (e P "__le__" 1596 (r 911)), (e P "__lt__" 1604 (r 918)), (e P "__ge__" 1612 (r 925)), (e P "__gt__" 1620 (r 932)), (e P "__repr__" 1627 (r 939)), (er P ⟨#[95, 95, 115, 116, 97, 116, 105, 99, 95, 97, 116, 116, 114, 105, 98, 117, 116, 101, 115, 95, 95]⟩ 1628 (r 940)), (er P ⟨#[95, 95, 100, 105, 99, 116, 95, 95]⟩ 1630 (r 943)), (er P ⟨#[95, 95, 119, 101, 97, 107, 114, 101, 102, 95, 95]⟩ 1632 (r 944)), (er P ⟨#[95, 95, 100, 111, 99, 95, 95]⟩ 1633 .none), (er P ⟨#[95, 95, 104, 97, 115, 104, 95, 95]⟩ 1634 .none)] 5)),
  (oo (t "type") none (.cls ⟨n "MinKey", [(t "object")], [(r 942), (t "object")], 941, n "MinKey", true, [], [], false, none, false⟩) #[none, none, (some (s "MinKey" 1559)), (some (s "MinKey" 1567)), (some (b "object.__new__")), (some (.bool true))]),
  (o (t "getset_descriptor") (.fields #[(.str ⟨#[95, 95, 100, 105, 99, 116, 95, 95]⟩ 1629), (r 942), (b "function.__dict__"), (b "function.__dict__#set")])),
  (o (t "getset_descriptor") (.fields #[(.str ⟨#[95, 95, 119, 101, 97, 107, 114, 101, 102, 95, 95]⟩ 1631), (r 942), (b "ExceptionGroup.__weakref__"), .none])),
  (o (t "super") (.fields #[(r 942), (r 942), (r 942)])),
  (o (t "builtin_function_or_method") (.fields #[(b "object.__init_subclass__"), (r 942)])),
  (o (t "tuple") (.seq #[] 0)),
  (o .none (.fields #[])),
  (o .none (fn (d 87) "_from_hex" "_from_hex" 0 [] .none .none .none .none none .none .none 0)),
  (o (t "code") (.fields #[(s "_from_hex" 1641), (s "_from_hex" 1642), (s "/claim/cut.py" 1643), (i 607 0), (i 1 0), (i 0 0), (i 0 0), (i 3 0), (r 947), (.bool true), (i 313 0), (r 948), .none, .none, .none, (r 949), (i 1644 0), (i 607 0), (s "/claim/cut.py" 1645)])),
  (o (t "function") (fn (d 87) "_from_hex" "_from_hex" 3 [] .none .none .none (s "bson.objectid" 1637) none (r 950) .none 0)),
  (o (t "tuple") (.seq #[] 0)),
  (o .none (.fields #[])),
  (o (t "tuple") (.seq #[(s "oid" 1650)] 0)),
  (o (t "tuple") (.seq #[] 0)),
  (o .none (fn (d 88) "_raise_invalid_id" "_raise_invalid_id" 0 [] .none .none .none .none none .none .none 0)),
  (o (t "code") (.fields #[(s "_raise_invalid_id" 1647), (s "_raise_invalid_id" 1648), (s "/claim/cut.py" 1649), (i 614 0), (i 1 0), (i 0 0), (i 0 0), (i 3 0), (r 952), (.bool true), (i 313 0), (r 953), .none, (r 954), (r 955), (r 956), (i 1651 0), (i 614 0), (s "/claim/cut.py" 1652)])),
  (o (t "function") (fn (d 88) "_raise_invalid_id" "_raise_invalid_id" 3 [] .none .none .none (s "bson.objectid" 1637) none (r 957) .none 0)),
  (o (t "tuple") (.seq #[] 0))]
def C15 (P : Params) : List Obj := [
  (o (t "builtin_function_or_method") (.fields #[(b "type.__prepare__"), (t "type")])),
  (o (t "dict") (.dict #[(er P ⟨#[95, 95, 109, 111, 100, 117, 108, 101, 95, 95]⟩ 1661 (s "bson.objectid" 1637)), (er P ⟨#[95, 95, 113, 117, 97, 108, 110, 97, 109, 101, 95, 95]⟩ 1663 (s "ObjectId" 1662)), (er P ⟨#[95, 95, 102, 105, 114, 115, 116, 108, 105, 110, 101, 110, 111, 95, 95]⟩ 1665 (i 616 1664)), (e P "_type_marker" 1667 (i 7 1666)), (e P "__init__" 1675 (r 973)), (e P "is_valid" 1695 (r 982)), (e P "binary" 1703 (r 991)), (e P "generation_time" 1711 (r 999)), (e P "__str__" 1718 (r 1006)), (e P "__repr__" 1725 (r 1013)), (e P "__eq__" 1733 (r 1020)), (e P "__ne__" 1741 (r 1027)), (e P "__lt__" 1749 (r 1034)), (e P "__le__" 1757 (r 1041)), (e P "__gt__" 1765 (r 1048)), (e P "__ge__" 1773 (r 1055)), (er P ⟨#[95, 95, 115, 116, 97, 116, 105, 99, 95, 97, 116, 116, 114, 105, 98, 117, 116, 101, 115, 95, 95]⟩ 1775 (r 1056))] 17)),
  (o (t "tuple") (.seq #[] 0)),
  (o .none (.fields #[(i 619 0), (i 4 0), (r 972), (i 638 0), (i 4 0), (r 979), (i 642 0), (i 4 0), (r 989), (i 646 0), (i 4 0), (r 997), (i 649 0), (i 4 0), (r 1005), (i 652 0), (i 4 0), (r 1012), (i 655 0), (i 4 0), (r 1019), (i 660 0), (i 4 0), (r 1026), (i 665 0), (i 4 0), (r 1033), (i 670 0), (i 4 0), (r 1040), (i 675 0), (i 4 0), (r 1047), (i 680 0), (i 4 0), (r 1054)])),
  (o (t "code") (.fields #[(s "ObjectId" 1656), (s "ObjectId" 1657), (s "/claim/cut.py" 1658), (i 616 0), (i 0 0), (i 0 0), (i 0 0), (i 0 0), (r 962), (.bool false), (i 313 0), (r 963), .none, .none, .none, .none, (i 1659 0), (i 616 0), (s "/claim/cut.py" 1660)])),
  (oo (t "frame") none .plain #[(some (r 964)), (some (r 3)), (some (r 961)), none, (some (s "bson.objectid" 1637)), none, (some (r 0))]),
  (o (t "tuple") (.seq #[.none] 0)),
  (o (t "tuple") (.seq #[] 0)),
  (o .none (.fields #[])),
  (o (t "tuple") (.seq #[(s "self" 1671), (s "oid" 1672)] 0)),
  (o (t "tuple") (.seq #[] 0)),
  (o .none (fn (m (d 89) 1) "__init__" "ObjectId.__init__" 0 [] .none .none .none .none none .none .none 0)),
  (o (t "code") (.fields #[(s "__init__" 1668), (s "ObjectId.__init__" 1669), (s "/claim/cut.py" 1670), (i 619 0), (i 2 0), (i 0 0), (i 0 0), (i 3 0), (r 967), (.bool true), (i 313 0), (r 968), .none, (r 969), (r 970), (r 971), (i 1673 0), (i 619 0), (s "/claim/cut.py" 1674)])),
  (o (t "function") (fn (m (d 89) 1) "__init__" "ObjectId.__init__" 3 [] (r 966) .none .none (s "bson.objectid" 1637) none (r 972) .none 0)),
  (o (t "tuple") (.seq #[] 0)),
  (o .none (.fields #[])),
  (o (t "tuple") (.seq #[(s "cls" 1679), (s "oid" 1680)] 0)),
  (o (t "tuple") (.seq #[] 0)),
  (o .none (fn (m (d 89) 2) "is_valid" "ObjectId.is_valid" 0 [] .none .none .none .none none .none .none 0)),
  (o (t "code") (.fields #[(s "is_valid" 1676), (s "ObjectId.is_valid" 1677), (s "/claim/cut.py" 1678), (i 637 0), (i 2 0), (i 0 0), (i 0 0), (i 3 0), (r 974), (.bool true), (i 313 0), (r 975), .none, (r 976), (r 977), (r 978), (i 1681 0), (i 637 0), (s "/claim/cut.py" 1682)])),
  (o (t "function") (fn (m (d 89) 2) "is_valid" "ObjectId.is_valid" 3 [] .none .none .none (s "bson.objectid" 1637) (some 983) (r 979) .none 0)),
  (o (t "dict") (.dict #[(er P ⟨#[95, 95, 109, 111, 100, 117, 108, 101, 95, 95]⟩ 1684 (s "bson.objectid" 1637)), (e P "__name__" 1687 (s "is_valid" 1686)), (er P ⟨#[95, 95, 113, 117, 97, 108, 110, 97, 109, 101, 95, 95]⟩ 1690 (s "ObjectId.is_valid" 1689)), (er P ⟨#[95, 95, 100, 111, 99, 95, 95]⟩ 1692 .none), (e P "__annotations__" 1694 (r 983))] 5)),
  (oo (t "classmethod") (some 981) (.fields #[(r 980), (.bool false)]) #[]),
  (o (t "dict") (.dict #[] 0)),
  (o (t "tuple") (.seq #[] 0)),
  (o .none (.fields #[])),
  (o (t "tuple") (.seq #[(s "self" 1699)] 0)),
  (o (t "tuple") (.seq #[] 0)),
  (o .none (fn (m (d 89) 3) "binary" "ObjectId.binary" 0 [] .none .none .none .none none .none .none 0)),
  (o (t "code") (.fields #[(s "binary" 1696), (s "ObjectId.binary" 1697), (s "/claim/cut.py" 1698), (i 641 0), (i 1 0), (i 0 0), (i 0 0), (i 3 0), (r 984), (.bool true), (i 313 0), (r 985), .none, (r 986), (r 987), (r 988), (i 1700 0), (i 641 0), (s "/claim/cut.py" 1701)])),
  (o (t "function") (fn (m (d 89) 3) "binary" "ObjectId.binary" 3 [] .none .none .none (s "bson.objectid" 1637) none (r 989) .none 0)),
  (o (t "property") (.fields #[(r 990), .none, .none, .none, (s "binary" 1703), (.bool false)])),
  (o (t "tuple") (.seq #[] 0)),
  (o .none (.fields #[])),
  (o (t "tuple") (.seq #[(s "self" 1707)] 0)),
  (o (t "tuple") (.seq #[] 0)),
  (o .none (fn (m (d 89) 4) "generation_time" "ObjectId.generation_time" 0 [] .none .none .none .none none .none .none 0)),
  (o (t "code") (.fields #[(s "generation_time" 1704), (s "ObjectId.generation_time" 1705), (s "/claim/cut.py" 1706), (i 645 0), (i 1 0), (i 0 0), (i 0 0), (i 3 0), (r 992), (.bool true), (i 313 0), (r 993), .none, (r 994), (r 995), (r 996), (i 1708 0), (i 645 0), (s "/claim/cut.py" 1709)])),
  (o (t "function") (fn (m (d 89) 4) "generation_time" "ObjectId.generation_time" 3 [] .none .none .none (s "bson.objectid" 1637) none (r 997) .none 0)),
  (o (t "property") (.fields #[(r 998), .none, .none, .none, (s "generation_time" 1711), (.bool false)])),
  (o (t "tuple") (.seq #[] 0)),
  (o .none (.fields #[])),
  (o (t "tuple") (.seq #[(s "self" 1715)] 0)),
  (o (t "tuple") (.seq #[] 0)),
  (o .none (fn (m (d 89) 5) "__str__" "ObjectId.__str__" 0 [] .none .none .none .none none .none .none 0)),
  (o (t "code") (.fields #[(s "__str__" 1712), (s "ObjectId.__str__" 1713), (s "/claim/cut.py" 1714), (i 649 0), (i 1 0), (i 0 0), (i 0 0), (i 3 0), (r 1000), (.bool true), (i 313 0), (r 1001), .none, (r 1002), (r 1003), (r 1004), (i 1716 0), (i 649 0), (s "/claim/cut.py" 1717)])),
  (o (t "function") (fn (m (d 89) 5) "__str__" "ObjectId.__str__" 3 [] .none .none .none (s "bson.objectid" 1637) none (r 1005) .none 0)),
  (o (t "tuple") (.seq #[] 0)),
  (o .none (.fields #[])),
  (o (t "tuple") (.seq #[(s "self" 1722)] 0)),
  (o (t "tuple") (.seq #[] 0)),
  (o .none (fn (m (d 89) 6) "__repr__" "ObjectId.__repr__" 0 [] .none .none .none .none none .none .none 0)),
  (o (t "code") (.fields #[(s "__repr__" 1719), (s "ObjectId.__repr__" 1720), (s "/claim/cut.py" 1721), (i 652 0), (i 1 0), (i 0 0), (i 0 0), (i 3 0), (r 1007), (.bool true), (i 313 0), (r 1008), .none, (r 1009), (r 1010), (r 1011), (i 1723 0), (i 652 0), (s "/claim/cut.py" 1724)])),
  (o (t "function") (fn (m (d 89) 6) "__repr__" "ObjectId.__repr__" 3 [] .none .none .none (s "bson.objectid" 1637) none (r 1012) .none 0)),
  (o (t "tuple") (.seq #[] 0)),
  (o .none (.fields #[])),
  (o (t "tuple") (.seq #[(s "self" 1729), (s "other" 1730)] 0)),
  (o (t "tuple") (.seq #[] 0)),
  (o .none (fn (m (d 89) 7) "__eq__" "ObjectId.__eq__" 0 [] .none .none .none .none none .none .none 0)),
  (o (t "code") (.fields #[(s "__eq__" 1726), (s "ObjectId.__eq__" 1727), (s "/claim/cut.py" 1728), (i 655 0), (i 2 0), (i 0 0), (i 0 0), (i 3 0), (r 1014), (.bool true), (i 313 0), (r 1015), .none, (r 1016), (r 1017), (r 1018), (i 1731 0), (i 655 0), (s "/claim/cut.py" 1732)])),
  (o (t "function") (fn (m (d 89) 7) "__eq__" "ObjectId.__eq__" 3 [] .none .none .none (s "bson.objectid" 1637) none (r 1019) .none 0)),
  (o (t "tuple") (.seq #[] 0)),
  (o .none (.fields #[])),
  (o (t "tuple") (.seq #[(s "self" 1737), (s "other" 1738)] 0))]
def C16 (P : Params) : List Obj := [
  (o (t "tuple") (.seq #[] 0)),
  (o .none (fn (m (d 89) 8) "__ne__" "ObjectId.__ne__" 0 [] .none .none .none .none none .none .none 0)),
  (o (t "code") (.fields #[(s "__ne__" 1734), (s "ObjectId.__ne__" 1735), (s "/claim/cut.py" 1736), (i 660 0), (i 2 0), (i 0 0), (i 0 0), (i 3 0), (r 1021), (.bool true), (i 313 0), (r 1022), .none, (r 1023), (r 1024), (r 1025), (i 1739 0), (i 660 0), (s "/claim/cut.py" 1740)])),
  (o (t "function") (fn (m (d 89) 8) "__ne__" "ObjectId.__ne__" 3 [] .none .none .none (s "bson.objectid" 1637) none (r 1026) .none 0)),
  (o (t "tuple") (.seq #[] 0)),
  (o .none (.fields #[])),
  (o (t "tuple") (.seq #[(s "self" 1745), (s "other" 1746)] 0)),
  (o (t "tuple") (.seq #[] 0)),
  (o .none (fn (m (d 89) 9) "__lt__" "ObjectId.__lt__" 0 [] .none .none .none .none none .none .none 0)),
  (o (t "code") (.fields #[(s "__lt__" 1742), (s "ObjectId.__lt__" 1743), (s "/claim/cut.py" 1744), (i 665 0), (i 2 0), (i 0 0), (i 0 0), (i 3 0), (r 1028), (.bool true), (i 313 0), (r 1029), .none, (r 1030), (r 1031), (r 1032), (i 1747 0), (i 665 0), (s "/claim/cut.py" 1748)])),
  (o (t "function") (fn (m (d 89) 9) "__lt__" "ObjectId.__lt__" 3 [] .none .none .none (s "bson.objectid" 1637) none (r 1033) .none 0)),
  (o (t "tuple") (.seq #[] 0)),
  (o .none (.fields #[])),
  (o (t "tuple") (.seq #[(s "self" 1753), (s "other" 1754)] 0)),
  (o (t "tuple") (.seq #[] 0)),
  (o .none (fn (m (d 89) 10) "__le__" "ObjectId.__le__" 0 [] .none .none .none .none none .none .none 0)),
  (o (t "code") (.fields #[(s "__le__" 1750), (s "ObjectId.__le__" 1751), (s "/claim/cut.py" 1752), (i 670 0), (i 2 0), (i 0 0), (i 0 0), (i 3 0), (r 1035), (.bool true), (i 313 0), (r 1036), .none, (r 1037), (r 1038), (r 1039), (i 1755 0), (i 670 0), (s "/claim/cut.py" 1756)])),
  (o (t "function") (fn (m (d 89) 10) "__le__" "ObjectId.__le__" 3 [] .none .none .none (s "bson.objectid" 1637) none (r 1040) .none 0)),
  (o (t "tuple") (.seq #[] 0)),
  (o .none (.fields #[])),
  (o (t "tuple") (.seq #[(s "self" 1761), (s "other" 1762)] 0)),
  (o (t "tuple") (.seq #[] 0)),
  (o .none (fn (m (d 89) 11) "__gt__" "ObjectId.__gt__" 0 [] .none .none .none .none none .none .none 0)),
  (o (t "code") (.fields #[(s "__gt__" 1758), (s "ObjectId.__gt__" 1759), (s "/claim/cut.py" 1760), (i 675 0), (i 2 0), (i 0 0), (i 0 0), (i 3 0), (r 1042), (.bool true), (i 313 0), (r 1043), .none, (r 1044), (r 1045), (r 1046), (i 1763 0), (i 675 0), (s "/claim/cut.py" 1764)])),
  (o (t "function") (fn (m (d 89) 11) "__gt__" "ObjectId.__gt__" 3 [] .none .none .none (s "bson.objectid" 1637) none (r 1047) .none 0)),
  (o (t "tuple") (.seq #[] 0)),
  (o .none (.fields #[])),
  (o (t "tuple") (.seq #[(s "self" 1769), (s "other" 1770)] 0)),
  (o (t "tuple") (.seq #[] 0)),
  (o .none (fn (m (d 89) 12) "__ge__" "ObjectId.__ge__" 0 [] .none .none .none .none none .none .none 0)),
  (o (t "code") (.fields #[(s "__ge__" 1766), (s "ObjectId.__ge__" 1767), (s "/claim/cut.py" 1768), (i 680 0), (i 2 0), (i 0 0), (i 0 0), (i 3 0), (r 1049), (.bool true), (i 313 0), (r 1050), .none, (r 1051), (r 1052), (r 1053), (i 1771 0), (i 680 0), (s "/claim/cut.py" 1772)])),
  (o (t "function") (fn (m (d 89) 12) "__ge__" "ObjectId.__ge__" 3 [] .none .none .none (s "bson.objectid" 1637) none (r 1054) .none 0)),
  (o (t "tuple") (.seq #[(s "_id" 1774)] 0)),
  (o (t "dict") (.dict #[(er P ⟨#[95, 95, 109, 111, 100, 117, 108, 101, 95, 95]⟩ 1661 (s "bson.objectid" 1637)), (er P ⟨#[95, 95, 102, 105, 114, 115, 116, 108, 105, 110, 101, 110, 111, 95, 95]⟩ 1665 (i 616 1664)), (e P "_type_marker" 1667 (i 7 1666)), (e P "__init__" 1675 (r 973)), (e P "is_valid" 1695 (r 982)), (e P "binary" 1703 (r 991)), (e P "generation_time" 1711 (r 999)), (e P "__str__" 1718 (r 1006)), (e P "__repr__" 1725 (r 1013)), (e P "__eq__" 1733 (r 1020)), (e P "__ne__" 1741 (r 1027)), (e P "__lt__" 1749 (r 1034)), (e P "__le__" 1757 (r 1041)), (e P "__gt__" 1765 (r 1048)), (e P "__ge__" 1773 (r 1055)), (er P ⟨#[95, 95, 115, 116, 97, 116, 105, 99, 95, 97, 116, 116, 114, 105, 98, 117, 116, 101, 115, 95, 95]⟩ 1775 (r 1056)), (er P ⟨#[95, 95, 100, 105, 99, 116, 95, 95]⟩ 1777 (r 1059)), (er P ⟨#[95, 95, 119, 101, 97, 107, 114, 101, 102, 95, 95]⟩ 1779 (r 1060)), (er P ⟨#[95, 95, 100, 111, 99, 95, 95]⟩ 1780 .none), (er P ⟨#[95, 95, 104, 97, 115, 104, 95, 95]⟩ 1781 .none)] 5)),
  (oo (t "type") none (.cls ⟨n "ObjectId", [(t "object")], [(r 1058), (t "object")], 1057, n "ObjectId", true, [], [], false, none, false⟩) #[none, none, (some (s "ObjectId" 1654)), (some (s "ObjectId" 1662)), (some (b "object.__new__")), (some (.bool true))]),
  (o (t "getset_descriptor") (.fields #[(.str ⟨#[95, 95, 100, 105, 99, 116, 95, 95]⟩ 1776), (r 1058), (b "function.__dict__"), (b "function.__dict__#set")])),
  (o (t "getset_descriptor") (.fields #[(.str ⟨#[95, 95, 119, 101, 97, 107, 114, 101, 102, 95, 95]⟩ 1778), (r 1058), (b "ExceptionGroup.__weakref__"), .none])),
  (o (t "super") (.fields #[(r 1058), (r 1058), (r 1058)])),
  (o (t "builtin_function_or_method") (.fields #[(b "object.__init_subclass__"), (r 1058)])),
  (o (t "tuple") (.seq #[] 0)),
  (o .none (.fields #[])),
  (o (t "tuple") (.seq #[(s "str_flags" 1801), (s "flags" 1802)] 0)),
  (o (t "tuple") (.seq #[] 0)),
  (o .none (fn (d 97) "str_flags_to_int" "str_flags_to_int" 0 [] .none .none .none .none none .none .none 0)),
  (o (t "code") (.fields #[(s "str_flags_to_int" 1798), (s "str_flags_to_int" 1799), (s "/claim/cut.py" 1800), (i 691 0), (i 1 0), (i 0 0), (i 0 0), (i 3 0), (r 1063), (.bool true), (i 313 0), (r 1064), .none, (r 1065), (r 1066), (r 1067), (i 1803 0), (i 691 0), (s "/claim/cut.py" 1804)])),
  (o (t "function") (fn (d 97) "str_flags_to_int" "str_flags_to_int" 3 [] .none .none .none (s "bson.regex" 1784) none (r 1068) .none 0)),
  (o (t "tuple") (.seq #[] 0)),
  (o (t "builtin_function_or_method") (.fields #[(b "type.__prepare__"), (t "type")])),
  (o (t "dict") (.dict #[(er P ⟨#[95, 95, 109, 111, 100, 117, 108, 101, 95, 95]⟩ 1813 (s "bson.regex" 1784)), (er P ⟨#[95, 95, 113, 117, 97, 108, 110, 97, 109, 101, 95, 95]⟩ 1815 (s "Regex" 1814)), (er P ⟨#[95, 95, 102, 105, 114, 115, 116, 108, 105, 110, 101, 110, 111, 95, 95]⟩ 1817 (i 706 1816)), (e P "_type_marker" 1819 (i 11 1818)), (e P "__init__" 1829 (r 1084)), (e P "__eq__" 1837 (r 1091)), (e P "__ne__" 1845 (r 1098)), (er P ⟨#[95, 95, 115, 116, 97, 116, 105, 99, 95, 97, 116, 116, 114, 105, 98, 117, 116, 101, 115, 95, 95]⟩ 1848 (r 1099))] 8)),
  (o (t "tuple") (.seq #[] 0)),
  (o .none (.fields #[(i 709 0), (i 4 0), (r 1083), (i 720 0), (i 4 0), (r 1090), (i 726 0), (i 4 0), (r 1097)])),
  (o (t "code") (.fields #[(s "Regex" 1808), (s "Regex" 1809), (s "/claim/cut.py" 1810), (i 706 0), (i 0 0), (i 0 0), (i 0 0), (i 0 0), (r 1073), (.bool false), (i 313 0), (r 1074), .none, .none, .none, .none, (i 1811 0), (i 706 0), (s "/claim/cut.py" 1812)])),
  (oo (t "frame") none .plain #[(some (r 1075)), (some (r 3)), (some (r 1072)), none, (some (s "bson.regex" 1784)), none, (some (r 0))]),
  (o (t "tuple") (.seq #[(i 0 1820)] 0)),
  (o (t "tuple") (.seq #[] 0)),
  (o .none (.fields #[])),
  (o (t "tuple") (.seq #[(s "self" 1824), (s "pattern" 1825), (s "flags" 1826)] 0)),
  (o (t "tuple") (.seq #[] 0)),
  (o .none (fn (m (d 98) 1) "__init__" "Regex.__init__" 0 [] .none .none .none .none none .none .none 0)),
  (o (t "code") (.fields #[(s "__init__" 1821), (s "Regex.__init__" 1822), (s "/claim/cut.py" 1823), (i 709 0), (i 3 0), (i 0 0), (i 0 0), (i 3 0), (r 1078), (.bool true), (i 313 0), (r 1079), .none, (r 1080), (r 1081), (r 1082), (i 1827 0), (i 709 0), (s "/claim/cut.py" 1828)])),
  (o (t "function") (fn (m (d 98) 1) "__init__" "Regex.__init__" 3 [] (r 1077) .none .none (s "bson.regex" 1784) none (r 1083) .none 0)),
  (o (t "tuple") (.seq #[] 0)),
  (o .none (.fields #[])),
  (o (t "tuple") (.seq #[(s "self" 1833), (s "other" 1834)] 0))]
def C17 (P : Params) : List Obj := [
  (o (t "tuple") (.seq #[] 0)),
  (o .none (fn (m (d 98) 2) "__eq__" "Regex.__eq__" 0 [] .none .none .none .none none .none .none 0)),
  (o (t "code") (.fields #[(s "__eq__" 1830), (s "Regex.__eq__" 1831), (s "/claim/cut.py" 1832), (i 720 0), (i 2 0), (i 0 0), (i 0 0), (i 3 0), (r 1085), (.bool true), (i 313 0), (r 1086), .none, (r 1087), (r 1088), (r 1089), (i 1835 0), (i 720 0), (s "/claim/cut.py" 1836)])),
  (o (t "function") (fn (m (d 98) 2) "__eq__" "Regex.__eq__" 3 [] .none .none .none (s "bson.regex" 1784) none (r 1090) .none 0)),
  (o (t "tuple") (.seq #[] 0)),
  (o .none (.fields #[])),
  (o (t "tuple") (.seq #[(s "self" 1841), (s "other" 1842)] 0)),
  (o (t "tuple") (.seq #[] 0)),
  (o .none (fn (m (d 98) 3) "__ne__" "Regex.__ne__" 0 [] .none .none .none .none none .none .none 0)),
  (o (t "code") (.fields #[(s "__ne__" 1838), (s "Regex.__ne__" 1839), (s "/claim/cut.py" 1840), (i 726 0), (i 2 0), (i 0 0), (i 0 0), (i 3 0), (r 1092), (.bool true), (i 313 0), (r 1093), .none, (r 1094), (r 1095), (r 1096), (i 1843 0), (i 726 0), (s "/claim/cut.py" 1844)])),
  (o (t "function") (fn (m (d 98) 3) "__ne__" "Regex.__ne__" 3 [] .none .none .none (s "bson.regex" 1784) none (r 1097) .none 0)),
  (o (t "tuple") (.seq #[(s "flags" 1846), (s "pattern" 1847)] 0)),
  (o (t "dict") (.dict #[(er P ⟨#[95, 95, 109, 111, 100, 117, 108, 101, 95, 95]⟩ 1813 (s "bson.regex" 1784)), (er P ⟨#[95, 95, 102, 105, 114, 115, 116, 108, 105, 110, 101, 110, 111, 95, 95]⟩ 1817 (i 706 1816)), (e P "_type_marker" 1819 (i 11 1818)), (e P "__init__" 1829 (r 1084)), (e P "__eq__" 1837 (r 1091)), (e P "__ne__" 1845 (r 1098)), (er P ⟨#[95, 95, 115, 116, 97, 116, 105, 99, 95, 97, 116, 116, 114, 105, 98, 117, 116, 101, 115, 95, 95]⟩ 1848 (r 1099)), (er P ⟨#[95, 95, 100, 105, 99, 116, 95, 95]⟩ 1850 (r 1102)), (er P ⟨#[95, 95, 119, 101, 97, 107, 114, 101, 102, 95, 95]⟩ 1852 (r 1103)), (er P ⟨#[95, 95, 100, 111, 99, 95, 95]⟩ 1853 .none), (er P ⟨#[95, 95, 104, 97, 115, 104, 95, 95]⟩ 1854 .none)] 5)),
  (oo (t "type") none (.cls ⟨n "Regex", [(t "object")], [(r 1101), (t "object")], 1100, n "Regex", true, [], [], false, none, false⟩) #[none, none, (some (s "Regex" 1806)), (some (s "Regex" 1814)), (some (b "object.__new__")), (some (.bool true))]),
  (o (t "getset_descriptor") (.fields #[(.str ⟨#[95, 95, 100, 105, 99, 116, 95, 95]⟩ 1849), (r 1101), (b "function.__dict__"), (b "function.__dict__#set")])),
  (o (t "getset_descriptor") (.fields #[(.str ⟨#[95, 95, 119, 101, 97, 107, 114, 101, 102, 95, 95]⟩ 1851), (r 1101), (b "ExceptionGroup.__weakref__"), .none])),
  (o (t "super") (.fields #[(r 1101), (r 1101), (r 1101)])),
  (o (t "builtin_function_or_method") (.fields #[(b "object.__init_subclass__"), (r 1101)])),
  (o (t "tuple") (.seq #[] 0)),
  (o (t "builtin_function_or_method") (.fields #[(b "type.__prepare__"), (t "type")])),
  (o (t "dict") (.dict #[(er P ⟨#[95, 95, 109, 111, 100, 117, 108, 101, 95, 95]⟩ 1868 (s "bson.timestamp" 1857)), (er P ⟨#[95, 95, 113, 117, 97, 108, 110, 97, 109, 101, 95, 95]⟩ 1870 (s "Timestamp" 1869)), (er P ⟨#[95, 95, 102, 105, 114, 115, 116, 108, 105, 110, 101, 110, 111, 95, 95]⟩ 1872 (i 730 1871)), (e P "_type_marker" 1874 (i 17 1873)), (e P "__init__" 1883 (r 1119)), (e P "time" 1891 (r 1127)), (e P "inc" 1899 (r 1135)), (e P "__eq__" 1907 (r 1142)), (e P "__ne__" 1915 (r 1149)), (e P "__lt__" 1923 (r 1156)), (e P "__le__" 1931 (r 1163)), (e P "__gt__" 1939 (r 1170)), (e P "__ge__" 1947 (r 1177)), (er P ⟨#[95, 95, 115, 116, 97, 116, 105, 99, 95, 97, 116, 116, 114, 105, 98, 117, 116, 101, 115, 95, 95]⟩ 1950 (r 1178))] 14)),
  (o (t "tuple") (.seq #[] 0)),
  (o .none (.fields #[(i 733 0), (i 4 0), (r 1118), (i 746 0), (i 4 0), (r 1125), (i 750 0), (i 4 0), (r 1133), (i 753 0), (i 4 0), (r 1141), (i 759 0), (i 4 0), (r 1148), (i 762 0), (i 4 0), (r 1155), (i 767 0), (i 4 0), (r 1162), (i 772 0), (i 4 0), (r 1169), (i 777 0), (i 4 0), (r 1176)])),
  (o (t "code") (.fields #[(s "Timestamp" 1863), (s "Timestamp" 1864), (s "/claim/cut.py" 1865), (i 730 0), (i 0 0), (i 0 0), (i 0 0), (i 0 0), (r 1109), (.bool false), (i 313 0), (r 1110), .none, .none, .none, .none, (i 1866 0), (i 730 0), (s "/claim/cut.py" 1867)])),
  (oo (t "frame") none .plain #[(some (r 1111)), (some (r 3)), (some (r 1108)), none, (some (s "bson.timestamp" 1857)), none, (some (r 0))]),
  (o (t "tuple") (.seq #[] 0)),
  (o .none (.fields #[])),
  (o (t "tuple") (.seq #[(s "self" 1878), (s "time" 1879), (s "inc" 1880)] 0)),
  (o (t "tuple") (.seq #[] 0)),
  (o .none (fn (m (d 101) 1) "__init__" "Timestamp.__init__" 0 [] .none .none .none .none none .none .none 0)),
  (o (t "code") (.fields #[(s "__init__" 1875), (s "Timestamp.__init__" 1876), (s "/claim/cut.py" 1877), (i 733 0), (i 3 0), (i 0 0), (i 0 0), (i 3 0), (r 1113), (.bool true), (i 313 0), (r 1114), .none, (r 1115), (r 1116), (r 1117), (i 1881 0), (i 733 0), (s "/claim/cut.py" 1882)])),
  (o (t "function") (fn (m (d 101) 1) "__init__" "Timestamp.__init__" 3 [] .none .none .none (s "bson.timestamp" 1857) none (r 1118) .none 0)),
  (o (t "tuple") (.seq #[] 0)),
  (o .none (.fields #[])),
  (o (t "tuple") (.seq #[(s "self" 1887)] 0)),
  (o (t "tuple") (.seq #[] 0)),
  (o .none (fn (m (d 101) 2) "time" "Timestamp.time" 0 [] .none .none .none .none none .none .none 0)),
  (o (t "code") (.fields #[(s "time" 1884), (s "Timestamp.time" 1885), (s "/claim/cut.py" 1886), (i 745 0), (i 1 0), (i 0 0), (i 0 0), (i 3 0), (r 1120), (.bool true), (i 313 0), (r 1121), .none, (r 1122), (r 1123), (r 1124), (i 1888 0), (i 745 0), (s "/claim/cut.py" 1889)])),
  (o (t "function") (fn (m (d 101) 2) "time" "Timestamp.time" 3 [] .none .none .none (s "bson.timestamp" 1857) none (r 1125) .none 0)),
  (o (t "property") (.fields #[(r 1126), .none, .none, .none, (s "time" 1891), (.bool false)])),
  (o (t "tuple") (.seq #[] 0)),
  (o .none (.fields #[])),
  (o (t "tuple") (.seq #[(s "self" 1895)] 0)),
  (o (t "tuple") (.seq #[] 0)),
  (o .none (fn (m (d 101) 3) "inc" "Timestamp.inc" 0 [] .none .none .none .none none .none .none 0)),
  (o (t "code") (.fields #[(s "inc" 1892), (s "Timestamp.inc" 1893), (s "/claim/cut.py" 1894), (i 749 0), (i 1 0), (i 0 0), (i 0 0), (i 3 0), (r 1128), (.bool true), (i 313 0), (r 1129), .none, (r 1130), (r 1131), (r 1132), (i 1896 0), (i 749 0), (s "/claim/cut.py" 1897)])),
  (o (t "function") (fn (m (d 101) 3) "inc" "Timestamp.inc" 3 [] .none .none .none (s "bson.timestamp" 1857) none (r 1133) .none 0)),
  (o (t "property") (.fields #[(r 1134), .none, .none, .none, (s "inc" 1899), (.bool false)])),
  (o (t "tuple") (.seq #[] 0)),
  (o .none (.fields #[])),
  (o (t "tuple") (.seq #[(s "self" 1903), (s "other" 1904)] 0)),
  (o (t "tuple") (.seq #[] 0)),
  (o .none (fn (m (d 101) 4) "__eq__" "Timestamp.__eq__" 0 [] .none .none .none .none none .none .none 0)),
  (o (t "code") (.fields #[(s "__eq__" 1900), (s "Timestamp.__eq__" 1901), (s "/claim/cut.py" 1902), (i 753 0), (i 2 0), (i 0 0), (i 0 0), (i 3 0), (r 1136), (.bool true), (i 313 0), (r 1137), .none, (r 1138), (r 1139), (r 1140), (i 1905 0), (i 753 0), (s "/claim/cut.py" 1906)])),
  (o (t "function") (fn (m (d 101) 4) "__eq__" "Timestamp.__eq__" 3 [] .none .none .none (s "bson.timestamp" 1857) none (r 1141) .none 0)),
  (o (t "tuple") (.seq #[] 0)),
  (o .none (.fields #[])),
  (o (t "tuple") (.seq #[(s "self" 1911), (s "other" 1912)] 0)),
  (o (t "tuple") (.seq #[] 0)),
  (o .none (fn (m (d 101) 5) "__ne__" "Timestamp.__ne__" 0 [] .none .none .none .none none .none .none 0)),
  (o (t "code") (.fields #[(s "__ne__" 1908), (s "Timestamp.__ne__" 1909), (s "/claim/cut.py" 1910), (i 759 0), (i 2 0), (i 0 0), (i 0 0), (i 3 0), (r 1143), (.bool true), (i 313 0), (r 1144), .none, (r 1145), (r 1146), (r 1147), (i 1913 0), (i 759 0), (s "/claim/cut.py" 1914)])),
  (o (t "function") (fn (m (d 101) 5) "__ne__" "Timestamp.__ne__" 3 [] .none .none .none (s "bson.timestamp" 1857) none (r 1148) .none 0)),
  (o (t "tuple") (.seq #[] 0)),
  (o .none (.fields #[]))]
def C18 (P : Params) : List Obj := [
  (o (t "tuple") (.seq #[(s "self" 1919), (s "other" 1920)] 0)),
  (o (t "tuple") (.seq #[] 0)),
  (o .none (fn (m (d 101) 6) "__lt__" "Timestamp.__lt__" 0 [] .none .none .none .none none .none .none 0)),
  (o (t "code") (.fields #[(s "__lt__" 1916), (s "Timestamp.__lt__" 1917), (s "/claim/cut.py" 1918), (i 762 0), (i 2 0), (i 0 0), (i 0 0), (i 3 0), (r 1150), (.bool true), (i 313 0), (r 1151), .none, (r 1152), (r 1153), (r 1154), (i 1921 0), (i 762 0), (s "/claim/cut.py" 1922)])),
  (o (t "function") (fn (m (d 101) 6) "__lt__" "Timestamp.__lt__" 3 [] .none .none .none (s "bson.timestamp" 1857) none (r 1155) .none 0)),
  (o (t "tuple") (.seq #[] 0)),
  (o .none (.fields #[])),
  (o (t "tuple") (.seq #[(s "self" 1927), (s "other" 1928)] 0)),
  (o (t "tuple") (.seq #[] 0)),
  (o .none (fn (m (d 101) 7) "__le__" "Timestamp.__le__" 0 [] .none .none .none .none none .none .none 0)),
  (o (t "code") (.fields #[(s "__le__" 1924), (s "Timestamp.__le__" 1925), (s "/claim/cut.py" 1926), (i 767 0), (i 2 0), (i 0 0), (i 0 0), (i 3 0), (r 1157), (.bool true), (i 313 0), (r 1158), .none, (r 1159), (r 1160), (r 1161), (i 1929 0), (i 767 0), (s "/claim/cut.py" 1930)])),
  (o (t "function") (fn (m (d 101) 7) "__le__" "Timestamp.__le__" 3 [] .none .none .none (s "bson.timestamp" 1857) none (r 1162) .none 0)),
  (o (t "tuple") (.seq #[] 0)),
  (o .none (.fields #[])),
  (o (t "tuple") (.seq #[(s "self" 1935), (s "other" 1936)] 0)),
  (o (t "tuple") (.seq #[] 0)),
  (o .none (fn (m (d 101) 8) "__gt__" "Timestamp.__gt__" 0 [] .none .none .none .none none .none .none 0)),
  (o (t "code") (.fields #[(s "__gt__" 1932), (s "Timestamp.__gt__" 1933), (s "/claim/cut.py" 1934), (i 772 0), (i 2 0), (i 0 0), (i 0 0), (i 3 0), (r 1164), (.bool true), (i 313 0), (r 1165), .none, (r 1166), (r 1167), (r 1168), (i 1937 0), (i 772 0), (s "/claim/cut.py" 1938)])),
  (o (t "function") (fn (m (d 101) 8) "__gt__" "Timestamp.__gt__" 3 [] .none .none .none (s "bson.timestamp" 1857) none (r 1169) .none 0)),
  (o (t "tuple") (.seq #[] 0)),
  (o .none (.fields #[])),
  (o (t "tuple") (.seq #[(s "self" 1943), (s "other" 1944)] 0)),
  (o (t "tuple") (.seq #[] 0)),
  (o .none (fn (m (d 101) 9) "__ge__" "Timestamp.__ge__" 0 [] .none .none .none .none none .none .none 0)),
  (o (t "code") (.fields #[(s "__ge__" 1940), (s "Timestamp.__ge__" 1941), (s "/claim/cut.py" 1942), (i 777 0), (i 2 0), (i 0 0), (i 0 0), (i 3 0), (r 1171), (.bool true), (i 313 0), (r 1172), .none, (r 1173), (r 1174), (r 1175), (i 1945 0), (i 777 0), (s "/claim/cut.py" 1946)])),
  (o (t "function") (fn (m (d 101) 9) "__ge__" "Timestamp.__ge__" 3 [] .none .none .none (s "bson.timestamp" 1857) none (r 1176) .none 0)),
  (o (t "tuple") (.seq #[(s "_inc" 1948), (s "_time" 1949)] 0)),
  (o (t "dict") (.dict #[(er P ⟨#[95, 95, 109, 111, 100, 117, 108, 101, 95, 95]⟩ 1868 (s "bson.timestamp" 1857)), (er P ⟨#[95, 95, 102, 105, 114, 115, 116, 108, 105, 110, 101, 110, 111, 95, 95]⟩ 1872 (i 730 1871)), (e P "_type_marker" 1874 (i 17 1873)), (e P "__init__" 1883 (r 1119)), (e P "time" 1891 (r 1127)), (e P "inc" 1899 (r 1135)), (e P "__eq__" 1907 (r 1142)), (e P "__ne__" 1915 (r 1149)), (e P "__lt__" 1923 (r 1156)), (e P "__le__" 1931 (r 1163)), (e P "__gt__" 1939 (r 1170)), (e P "__ge__" 1947 (r 1177)), (er P ⟨#[95, 95, 115, 116, 97, 116, 105, 99, 95, 97, 116, 116, 114, 105, 98, 117, 116, 101, 115, 95, 95]⟩ 1950 (r 1178)), (er P ⟨#[95, 95, 100, 105, 99, 116, 95, 95]⟩ 1952 (r 1181)), (er P ⟨#[95, 95, 119, 101, 97, 107, 114, 101, 102, 95, 95]⟩ 1954 (r 1182)), (er P ⟨#[95, 95, 100, 111, 99, 95, 95]⟩ 1955 .none), (er P ⟨#[95, 95, 104, 97, 115, 104, 95, 95]⟩ 1956 .none)] 5)),
  (oo (t "type") none (.cls ⟨n "Timestamp", [(t "object")], [(r 1180), (t "object")], 1179, n "Timestamp", true, [], [], false, none, false⟩) #[none, none, (some (s "Timestamp" 1861)), (some (s "Timestamp" 1869)), (some (b "object.__new__")), (some (.bool true))]),
  (o (t "getset_descriptor") (.fields #[(.str ⟨#[95, 95, 100, 105, 99, 116, 95, 95]⟩ 1951), (r 1180), (b "function.__dict__"), (b "function.__dict__#set")])),
  (o (t "getset_descriptor") (.fields #[(.str ⟨#[95, 95, 119, 101, 97, 107, 114, 101, 102, 95, 95]⟩ 1953), (r 1180), (b "ExceptionGroup.__weakref__"), .none])),
  (o (t "super") (.fields #[(r 1180), (r 1180), (r 1180)])),
  (o (t "builtin_function_or_method") (.fields #[(b "object.__init_subclass__"), (r 1180)])),
  (o (t "tuple") (.seq #[] 0)),
  (o .none (.fields #[])),
  (o (t "tuple") (.seq #[(s "data" 2004), (s "position" 2005), (s "size" 2006), (s "signed" 2007)] 0)),
  (o (t "tuple") (.seq #[] 0)),
  (o .none (fn (d 123) "_unpack" "_unpack" 0 [] .none .none .none .none none .none .none 0)),
  (o (t "code") (.fields #[(s "_unpack" 2001), (s "_unpack" 2002), (s "/claim/cut.py" 2003), (i 802 0), (i 4 0), (i 0 0), (i 0 0), (i 3 0), (r 1185), (.bool true), (i 313 0), (r 1186), .none, (r 1187), (r 1188), (r 1189), (i 2008 0), (i 802 0), (s "/claim/cut.py" 2009)])),
  (o (t "function") (fn (d 123) "_unpack" "_unpack" 3 [] .none .none .none (s "bson" 1959) none (r 1190) .none 0)),
  (o (t "tuple") (.seq #[] 0)),
  (o .none (.fields #[])),
  (o (t "tuple") (.seq #[(s "data" 2014), (s "position" 2015)] 0)),
  (o (t "tuple") (.seq #[] 0)),
  (o .none (fn (d 124) "_UNPACK_INT_FROM" "_UNPACK_INT_FROM" 0 [] .none .none .none .none none .none .none 0)),
  (o (t "code") (.fields #[(s "_UNPACK_INT_FROM" 2011), (s "_UNPACK_INT_FROM" 2012), (s "/claim/cut.py" 2013), (i 806 0), (i 2 0), (i 0 0), (i 0 0), (i 3 0), (r 1192), (.bool true), (i 313 0), (r 1193), .none, (r 1194), (r 1195), (r 1196), (i 2016 0), (i 806 0), (s "/claim/cut.py" 2017)])),
  (o (t "function") (fn (d 124) "_UNPACK_INT_FROM" "_UNPACK_INT_FROM" 3 [] .none .none .none (s "bson" 1959) none (r 1197) .none 0)),
  (o (t "tuple") (.seq #[] 0)),
  (o .none (.fields #[])),
  (o (t "tuple") (.seq #[(s "data" 2022), (s "position" 2023)] 0)),
  (o (t "tuple") (.seq #[] 0)),
  (o .none (fn (d 125) "_UNPACK_LENGTH_SUBTYPE_FROM" "_UNPACK_LENGTH_SUBTYPE_FROM" 0 [] .none .none .none .none none .none .none 0)),
  (o (t "code") (.fields #[(s "_UNPACK_LENGTH_SUBTYPE_FROM" 2019), (s "_UNPACK_LENGTH_SUBTYPE_FROM" 2020), (s "/claim/cut.py" 2021), (i 808 0), (i 2 0), (i 0 0), (i 0 0), (i 3 0), (r 1199), (.bool true), (i 313 0), (r 1200), .none, (r 1201), (r 1202), (r 1203), (i 2024 0), (i 808 0), (s "/claim/cut.py" 2025)])),
  (o (t "function") (fn (d 125) "_UNPACK_LENGTH_SUBTYPE_FROM" "_UNPACK_LENGTH_SUBTYPE_FROM" 3 [] .none .none .none (s "bson" 1959) none (r 1204) .none 0)),
  (o (t "tuple") (.seq #[] 0)),
  (o .none (.fields #[])),
  (o (t "tuple") (.seq #[(s "data" 2030), (s "position" 2031)] 0)),
  (o (t "tuple") (.seq #[] 0)),
  (o .none (fn (d 126) "_UNPACK_LONG_FROM" "_UNPACK_LONG_FROM" 0 [] .none .none .none .none none .none .none 0)),
  (o (t "code") (.fields #[(s "_UNPACK_LONG_FROM" 2027), (s "_UNPACK_LONG_FROM" 2028), (s "/claim/cut.py" 2029), (i 810 0), (i 2 0), (i 0 0), (i 0 0), (i 3 0), (r 1206), (.bool true), (i 313 0), (r 1207), .none, (r 1208), (r 1209), (r 1210), (i 2032 0), (i 810 0), (s "/claim/cut.py" 2033)])),
  (o (t "function") (fn (d 126) "_UNPACK_LONG_FROM" "_UNPACK_LONG_FROM" 3 [] .none .none .none (s "bson" 1959) none (r 1211) .none 0)),
  (o (t "tuple") (.seq #[] 0)),
  (o .none (.fields #[])),
  (o (t "tuple") (.seq #[(s "data" 2038), (s "position" 2039)] 0))]
def C19 (P : Params) : List Obj := [
  (o (t "tuple") (.seq #[] 0)),
  (o .none (fn (d 127) "_UNPACK_TIMESTAMP_FROM" "_UNPACK_TIMESTAMP_FROM" 0 [] .none .none .none .none none .none .none 0)),
  (o (t "code") (.fields #[(s "_UNPACK_TIMESTAMP_FROM" 2035), (s "_UNPACK_TIMESTAMP_FROM" 2036), (s "/claim/cut.py" 2037), (i 812 0), (i 2 0), (i 0 0), (i 0 0), (i 3 0), (r 1213), (.bool true), (i 313 0), (r 1214), .none, (r 1215), (r 1216), (r 1217), (i 2040 0), (i 812 0), (s "/claim/cut.py" 2041)])),
  (o (t "function") (fn (d 127) "_UNPACK_TIMESTAMP_FROM" "_UNPACK_TIMESTAMP_FROM" 3 [] .none .none .none (s "bson" 1959) none (r 1218) .none 0)),
  (o (t "tuple") (.seq #[] 0)),
  (o .none (.fields #[])),
  (o (t "tuple") (.seq #[(s "octets" 2046), (s "errors" 2047), (s "final" 2048)] 0)),
  (o (t "tuple") (.seq #[] 0)),
  (o .none (fn (d 128) "_utf_8_decode" "_utf_8_decode" 0 [] .none .none .none .none none .none .none 0)),
  (o (t "code") (.fields #[(s "_utf_8_decode" 2043), (s "_utf_8_decode" 2044), (s "/claim/cut.py" 2045), (i 814 0), (i 3 0), (i 0 0), (i 0 0), (i 3 0), (r 1220), (.bool true), (i 313 0), (r 1221), .none, (r 1222), (r 1223), (r 1224), (i 2049 0), (i 814 0), (s "/claim/cut.py" 2050)])),
  (o (t "function") (fn (d 128) "_utf_8_decode" "_utf_8_decode" 3 [] .none .none .none (s "bson" 1959) none (r 1225) .none 0)),
  (o (t "tuple") (.seq #[] 0)),
  (o .none (.fields #[])),
  (o (t "tuple") (.seq #[(s "string" 2055)] 0)),
  (o (t "tuple") (.seq #[] 0)),
  (o .none (fn (d 129) "_utf_8_encode" "_utf_8_encode" 0 [] .none .none .none .none none .none .none 0)),
  (o (t "code") (.fields #[(s "_utf_8_encode" 2052), (s "_utf_8_encode" 2053), (s "/claim/cut.py" 2054), (i 816 0), (i 1 0), (i 0 0), (i 0 0), (i 3 0), (r 1227), (.bool true), (i 313 0), (r 1228), .none, (r 1229), (r 1230), (r 1231), (i 2056 0), (i 816 0), (s "/claim/cut.py" 2057)])),
  (o (t "function") (fn (d 129) "_utf_8_encode" "_utf_8_encode" 3 [] .none .none .none (s "bson" 1959) none (r 1232) .none 0)),
  (o (t "tuple") (.seq #[] 0)),
  (o .none (.fields #[])),
  (o (t "tuple") (.seq #[(s "data" 2062), (s "position" 2063), (s "k" 2064)] 0)),
  (o (t "tuple") (.seq #[] 0)),
  (o .none (fn (d 130) "_index_nul" "_index_nul" 0 [] .none .none .none .none none .none .none 0)),
  (o (t "code") (.fields #[(s "_index_nul" 2059), (s "_index_nul" 2060), (s "/claim/cut.py" 2061), (i 818 0), (i 2 0), (i 0 0), (i 0 0), (i 3 0), (r 1234), (.bool true), (i 313 0), (r 1235), .none, (r 1236), (r 1237), (r 1238), (i 2065 0), (i 818 0), (s "/claim/cut.py" 2066)])),
  (o (t "function") (fn (d 130) "_index_nul" "_index_nul" 3 [] .none .none .none (s "bson" 1959) none (r 1239) .none 0)),
  (o (t "tuple") (.seq #[] 0)),
  (o .none (.fields #[])),
  (o (t "tuple") (.seq #[(s "data" 2071)] 0)),
  (o (t "tuple") (.seq #[] 0)),
  (o .none (fn (d 131) "get_data_and_view" "get_data_and_view" 0 [] .none .none .none .none none .none .none 0)),
  (o (t "code") (.fields #[(s "get_data_and_view" 2068), (s "get_data_and_view" 2069), (s "/claim/cut.py" 2070), (i 823 0), (i 1 0), (i 0 0), (i 0 0), (i 3 0), (r 1241), (.bool true), (i 313 0), (r 1242), .none, (r 1243), (r 1244), (r 1245), (i 2072 0), (i 823 0), (s "/claim/cut.py" 2073)])),
  (o (t "function") (fn (d 131) "get_data_and_view" "get_data_and_view" 3 [] .none .none .none (s "bson" 1959) none (r 1246) .none 0)),
  (o (t "tuple") (.seq #[] 0)),
  (o .none (.fields #[])),
  (o (t "tuple") (.seq #[(s "element_type" 2078), (s "element_name" 2079)] 0)),
  (o (t "tuple") (.seq #[] 0)),
  (o .none (fn (d 132) "_raise_unknown_type" "_raise_unknown_type" 0 [] .none .none .none .none none .none .none 0)),
  (o (t "code") (.fields #[(s "_raise_unknown_type" 2075), (s "_raise_unknown_type" 2076), (s "/claim/cut.py" 2077), (i 825 0), (i 2 0), (i 0 0), (i 0 0), (i 3 0), (r 1248), (.bool true), (i 313 0), (r 1249), .none, (r 1250), (r 1251), (r 1252), (i 2080 0), (i 825 0), (s "/claim/cut.py" 2081)])),
  (o (t "function") (fn (d 132) "_raise_unknown_type" "_raise_unknown_type" 3 [] .none .none .none (s "bson" 1959) none (r 1253) .none 0)),
  (o (t "tuple") (.seq #[] 0)),
  (o .none (.fields #[])),
  (o (t "tuple") (.seq #[(s "data" 2086), (s "_view" 2087), (s "position" 2088), (s "dummy0" 2089), (s "dummy1" 2090), (s "dummy2" 2091)] 0)),
  (o (t "tuple") (.seq #[] 0)),
  (o .none (fn (d 133) "_get_int" "_get_int" 0 [] .none .none .none .none none .none .none 0)),
  (o (t "code") (.fields #[(s "_get_int" 2083), (s "_get_int" 2084), (s "/claim/cut.py" 2085), (i 827 0), (i 6 0), (i 0 0), (i 0 0), (i 3 0), (r 1255), (.bool true), (i 313 0), (r 1256), .none, (r 1257), (r 1258), (r 1259), (i 2092 0), (i 827 0), (s "/claim/cut.py" 2093)])),
  (o (t "function") (fn (d 133) "_get_int" "_get_int" 3 [] .none .none .none (s "bson" 1959) none (r 1260) .none 0)),
  (o (t "tuple") (.seq #[] 0)),
  (o .none (.fields #[])),
  (o (t "tuple") (.seq #[(s "data" 2098), (s "view" 2099), (s "position" 2100), (s "opts" 2101), (s "end" 2102)] 0)),
  (o (t "tuple") (.seq #[] 0)),
  (o .none (fn (d 134) "_get_c_string" "_get_c_string" 0 [] .none .none .none .none none .none .none 0)),
  (o (t "code") (.fields #[(s "_get_c_string" 2095), (s "_get_c_string" 2096), (s "/claim/cut.py" 2097), (i 829 0), (i 4 0), (i 0 0), (i 0 0), (i 3 0), (r 1262), (.bool true), (i 313 0), (r 1263), .none, (r 1264), (r 1265), (r 1266), (i 2103 0), (i 829 0), (s "/claim/cut.py" 2104)])),
  (o (t "function") (fn (d 134) "_get_c_string" "_get_c_string" 3 [] .none .none .none (s "bson" 1959) none (r 1267) .none 0)),
  (o (t "tuple") (.seq #[] 0)),
  (o .none (.fields #[])),
  (o (t "tuple") (.seq #[(s "data" 2109), (s "view" 2110), (s "position" 2111), (s "obj_end" 2112), (s "opts" 2113), (s "dummy" 2114), (s "length" 2115), (s "end" 2116)] 0)),
  (o (t "tuple") (.seq #[] 0)),
  (o .none (fn (d 135) "_get_string" "_get_string" 0 [] .none .none .none .none none .none .none 0)),
  (o (t "code") (.fields #[(s "_get_string" 2106), (s "_get_string" 2107), (s "/claim/cut.py" 2108), (i 832 0), (i 6 0), (i 0 0), (i 0 0), (i 3 0), (r 1269), (.bool true), (i 313 0), (r 1270), .none, (r 1271), (r 1272), (r 1273), (i 2117 0), (i 832 0), (s "/claim/cut.py" 2118)])),
  (o (t "function") (fn (d 135) "_get_string" "_get_string" 3 [] .none .none .none (s "bson" 1959) none (r 1274) .none 0)),
  (o (t "tuple") (.seq #[] 0)),
  (o .none (.fields #[])),
  (o (t "tuple") (.seq #[(s "data" 2123), (s "position" 2124), (s "obj_end" 2125), (s "obj_size" 2126), (s "exc" 2127), (s "end" 2128)] 0)),
  (o (t "tuple") (.seq #[] 0))]
def C20 (P : Params) : List Obj := [
  (o .none (fn (d 136) "_get_object_size" "_get_object_size" 0 [] .none .none .none .none none .none .none 0)),
  (o (t "code") (.fields #[(s "_get_object_size" 2120), (s "_get_object_size" 2121), (s "/claim/cut.py" 2122), (i 841 0), (i 3 0), (i 0 0), (i 0 0), (i 3 0), (r 1276), (.bool true), (i 313 0), (r 1277), .none, (r 1278), (r 1279), (r 1280), (i 2129 0), (i 841 0), (s "/claim/cut.py" 2130)])),
  (o (t "function") (fn (d 136) "_get_object_size" "_get_object_size" 3 [] .none .none .none (s "bson" 1959) none (r 1281) .none 0)),
  (o (t "tuple") (.seq #[] 0)),
  (o .none (.fields #[])),
  (o (t "tuple") (.seq #[(s "data" 2135), (s "view" 2136), (s "position" 2137), (s "obj_end" 2138), (s "opts" 2139), (s "dummy" 2140), (s "obj_size" 2141), (s "end" 2142), (s "obj" 2143)] 0)),
  (o (t "tuple") (.seq #[] 0)),
  (o .none (fn (d 137) "_get_object" "_get_object" 0 [] .none .none .none .none none .none .none 0)),
  (o (t "code") (.fields #[(s "_get_object" 2132), (s "_get_object" 2133), (s "/claim/cut.py" 2134), (i 854 0), (i 6 0), (i 0 0), (i 0 0), (i 3 0), (r 1283), (.bool true), (i 313 0), (r 1284), .none, (r 1285), (r 1286), (r 1287), (i 2144 0), (i 854 0), (s "/claim/cut.py" 2145)])),
  (o (t "function") (fn (d 137) "_get_object" "_get_object" 3 [] .none .none .none (s "bson" 1959) none (r 1288) .none 0)),
  (o (t "tuple") (.seq #[] 0)),
  (o .none (.fields #[])),
  (o (t "tuple") (.seq #[(s "data" 2150), (s "view" 2151), (s "position" 2152), (s "obj_end" 2153), (s "opts" 2154), (s "element_name" 2155), (s "size" 2156), (s "end" 2157), (s "result" 2158), (s "getter" 2159), (s "element_type" 2160), (s "value" 2161)] 0)),
  (o (t "tuple") (.seq #[] 0)),
  (o .none (fn (d 138) "_get_array" "_get_array" 0 [] .none .none .none .none none .none .none 0)),
  (o (t "code") (.fields #[(s "_get_array" 2147), (s "_get_array" 2148), (s "/claim/cut.py" 2149), (i 861 0), (i 6 0), (i 0 0), (i 0 0), (i 3 0), (r 1290), (.bool true), (i 313 0), (r 1291), .none, (r 1292), (r 1293), (r 1294), (i 2162 0), (i 861 0), (s "/claim/cut.py" 2163)])),
  (o (t "function") (fn (d 138) "_get_array" "_get_array" 3 [] .none .none .none (s "bson" 1959) none (r 1295) .none 0)),
  (o (t "tuple") (.seq #[] 0)),
  (o .none (.fields #[])),
  (o (t "tuple") (.seq #[(s "data" 2168), (s "_view" 2169), (s "position" 2170), (s "obj_end" 2171), (s "opts" 2172), (s "dummy1" 2173), (s "length" 2174), (s "subtype" 2175), (s "length2" 2176), (s "end" 2177), (s "uuid_rep" 2178), (s "binary_value" 2179), (s "value" 2180)] 0)),
  (o (t "tuple") (.seq #[] 0)),
  (o .none (fn (d 139) "_get_binary" "_get_binary" 0 [] .none .none .none .none none .none .none 0)),
  (o (t "code") (.fields #[(s "_get_binary" 2165), (s "_get_binary" 2166), (s "/claim/cut.py" 2167), (i 881 0), (i 6 0), (i 0 0), (i 0 0), (i 3 0), (r 1297), (.bool true), (i 313 0), (r 1298), .none, (r 1299), (r 1300), (r 1301), (i 2181 0), (i 881 0), (s "/claim/cut.py" 2182)])),
  (o (t "function") (fn (d 139) "_get_binary" "_get_binary" 3 [] .none .none .none (s "bson" 1959) none (r 1302) .none 0)),
  (o (t "tuple") (.seq #[] 0)),
  (o .none (.fields #[])),
  (o (t "tuple") (.seq #[(s "data" 2187), (s "_view" 2188), (s "position" 2189), (s "dummy0" 2190), (s "dummy1" 2191), (s "dummy2" 2192), (s "end" 2193)] 0)),
  (o (t "tuple") (.seq #[] 0)),
  (o .none (fn (d 140) "_get_oid" "_get_oid" 0 [] .none .none .none .none none .none .none 0)),
  (o (t "code") (.fields #[(s "_get_oid" 2184), (s "_get_oid" 2185), (s "/claim/cut.py" 2186), (i 904 0), (i 6 0), (i 0 0), (i 0 0), (i 3 0), (r 1304), (.bool true), (i 313 0), (r 1305), .none, (r 1306), (r 1307), (r 1308), (i 2194 0), (i 904 0), (s "/claim/cut.py" 2195)])),
  (o (t "function") (fn (d 140) "_get_oid" "_get_oid" 3 [] .none .none .none (s "bson" 1959) none (r 1309) .none 0)),
  (o (t "tuple") (.seq #[] 0)),
  (o .none (.fields #[])),
  (o (t "tuple") (.seq #[(s "data" 2200), (s "_view" 2201), (s "position" 2202), (s "dummy0" 2203), (s "dummy1" 2204), (s "dummy2" 2205), (s "end" 2206), (s "boolean_byte" 2207)] 0)),
  (o (t "tuple") (.seq #[] 0)),
  (o .none (fn (d 141) "_get_boolean" "_get_boolean" 0 [] .none .none .none .none none .none .none 0)),
  (o (t "code") (.fields #[(s "_get_boolean" 2197), (s "_get_boolean" 2198), (s "/claim/cut.py" 2199), (i 907 0), (i 6 0), (i 0 0), (i 0 0), (i 3 0), (r 1311), (.bool true), (i 313 0), (r 1312), .none, (r 1313), (r 1314), (r 1315), (i 2208 0), (i 907 0), (s "/claim/cut.py" 2209)])),
  (o (t "function") (fn (d 141) "_get_boolean" "_get_boolean" 3 [] .none .none .none (s "bson" 1959) none (r 1316) .none 0)),
  (o (t "tuple") (.seq #[] 0)),
  (o .none (.fields #[])),
  (o (t "tuple") (.seq #[(s "data" 2214), (s "_view" 2215), (s "position" 2216), (s "dummy0" 2217), (s "opts" 2218), (s "dummy1" 2219)] 0)),
  (o (t "tuple") (.seq #[] 0)),
  (o .none (fn (d 142) "_get_date" "_get_date" 0 [] .none .none .none .none none .none .none 0)),
  (o (t "code") (.fields #[(s "_get_date" 2211), (s "_get_date" 2212), (s "/claim/cut.py" 2213), (i 915 0), (i 6 0), (i 0 0), (i 0 0), (i 3 0), (r 1318), (.bool true), (i 313 0), (r 1319), .none, (r 1320), (r 1321), (r 1322), (i 2220 0), (i 915 0), (s "/claim/cut.py" 2221)])),
  (o (t "function") (fn (d 142) "_get_date" "_get_date" 3 [] .none .none .none (s "bson" 1959) none (r 1323) .none 0)),
  (o (t "tuple") (.seq #[] 0)),
  (o .none (.fields #[])),
  (o (t "tuple") (.seq #[(s "data" 2226), (s "view" 2227), (s "position" 2228), (s "obj_end" 2229), (s "opts" 2230), (s "element_name" 2231), (s "code" 2232)] 0)),
  (o (t "tuple") (.seq #[] 0)),
  (o .none (fn (d 143) "_get_code" "_get_code" 0 [] .none .none .none .none none .none .none 0)),
  (o (t "code") (.fields #[(s "_get_code" 2223), (s "_get_code" 2224), (s "/claim/cut.py" 2225), (i 917 0), (i 6 0), (i 0 0), (i 0 0), (i 3 0), (r 1325), (.bool true), (i 313 0), (r 1326), .none, (r 1327), (r 1328), (r 1329), (i 2233 0), (i 917 0), (s "/claim/cut.py" 2234)])),
  (o (t "function") (fn (d 143) "_get_code" "_get_code" 3 [] .none .none .none (s "bson" 1959) none (r 1330) .none 0)),
  (o (t "tuple") (.seq #[] 0)),
  (o .none (.fields #[])),
  (o (t "tuple") (.seq #[(s "data" 2239), (s "view" 2240), (s "position" 2241), (s "_obj_end" 2242), (s "opts" 2243), (s "element_name" 2244), (s "code_end" 2245), (s "code" 2246), (s "scope" 2247)] 0)),
  (o (t "tuple") (.seq #[] 0)),
  (o .none (fn (d 144) "_get_code_w_scope" "_get_code_w_scope" 0 [] .none .none .none .none none .none .none 0)),
  (o (t "code") (.fields #[(s "_get_code_w_scope" 2236), (s "_get_code_w_scope" 2237), (s "/claim/cut.py" 2238), (i 920 0), (i 6 0), (i 0 0), (i 0 0), (i 3 0), (r 1332), (.bool true), (i 313 0), (r 1333), .none, (r 1334), (r 1335), (r 1336), (i 2248 0), (i 920 0), (s "/claim/cut.py" 2249)])),
  (o (t "function") (fn (d 144) "_get_code_w_scope" "_get_code_w_scope" 3 [] .none .none .none (s "bson" 1959) none (r 1337) .none 0)),
  (o (t "tuple") (.seq #[] 0)),
  (o .none (.fields #[])),
  (o (t "tuple") (.seq #[(s "data" 2254), (s "view" 2255), (s "position" 2256), (s "dummy0" 2257), (s "opts" 2258), (s "dummy1" 2259), (s "pattern" 2260), (s "bson_flags" 2261), (s "bson_re" 2262)] 0)),
  (o (t "tuple") (.seq #[] 0)),
  (o .none (fn (d 145) "_get_regex" "_get_regex" 0 [] .none .none .none .none none .none .none 0))]
def C21 (P : Params) : List Obj := [
  (o (t "code") (.fields #[(s "_get_regex" 2251), (s "_get_regex" 2252), (s "/claim/cut.py" 2253), (i 927 0), (i 6 0), (i 0 0), (i 0 0), (i 3 0), (r 1339), (.bool true), (i 313 0), (r 1340), .none, (r 1341), (r 1342), (r 1343), (i 2263 0), (i 927 0), (s "/claim/cut.py" 2264)])),
  (o (t "function") (fn (d 145) "_get_regex" "_get_regex" 3 [] .none .none .none (s "bson" 1959) none (r 1344) .none 0)),
  (o (t "tuple") (.seq #[] 0)),
  (o .none (.fields #[])),
  (o (t "tuple") (.seq #[(s "data" 2269), (s "view" 2270), (s "position" 2271), (s "obj_end" 2272), (s "opts" 2273), (s "element_name" 2274), (s "collection" 2275), (s "oid" 2276)] 0)),
  (o (t "tuple") (.seq #[] 0)),
  (o .none (fn (d 146) "_get_ref" "_get_ref" 0 [] .none .none .none .none none .none .none 0)),
  (o (t "code") (.fields #[(s "_get_ref" 2266), (s "_get_ref" 2267), (s "/claim/cut.py" 2268), (i 932 0), (i 6 0), (i 0 0), (i 0 0), (i 3 0), (r 1346), (.bool true), (i 313 0), (r 1347), .none, (r 1348), (r 1349), (r 1350), (i 2277 0), (i 932 0), (s "/claim/cut.py" 2278)])),
  (o (t "function") (fn (d 146) "_get_ref" "_get_ref" 3 [] .none .none .none (s "bson" 1959) none (r 1351) .none 0)),
  (o (t "tuple") (.seq #[] 0)),
  (o .none (.fields #[])),
  (o (t "tuple") (.seq #[(s "data" 2283), (s "_view" 2284), (s "position" 2285), (s "dummy0" 2286), (s "dummy1" 2287), (s "dummy2" 2288), (s "inc" 2289), (s "timestamp" 2290)] 0)),
  (o (t "tuple") (.seq #[] 0)),
  (o .none (fn (d 147) "_get_timestamp" "_get_timestamp" 0 [] .none .none .none .none none .none .none 0)),
  (o (t "code") (.fields #[(s "_get_timestamp" 2280), (s "_get_timestamp" 2281), (s "/claim/cut.py" 2282), (i 936 0), (i 6 0), (i 0 0), (i 0 0), (i 3 0), (r 1353), (.bool true), (i 313 0), (r 1354), .none, (r 1355), (r 1356), (r 1357), (i 2291 0), (i 936 0), (s "/claim/cut.py" 2292)])),
  (o (t "function") (fn (d 147) "_get_timestamp" "_get_timestamp" 3 [] .none .none .none (s "bson" 1959) none (r 1358) .none 0)),
  (o (t "tuple") (.seq #[] 0)),
  (o .none (.fields #[])),
  (o (t "tuple") (.seq #[(s "data" 2297), (s "_view" 2298), (s "position" 2299), (s "dummy0" 2300), (s "dummy1" 2301), (s "dummy2" 2302)] 0)),
  (o (t "tuple") (.seq #[] 0)),
  (o .none (fn (d 148) "_get_int64" "_get_int64" 0 [] .none .none .none .none none .none .none 0)),
  (o (t "code") (.fields #[(s "_get_int64" 2294), (s "_get_int64" 2295), (s "/claim/cut.py" 2296), (i 939 0), (i 6 0), (i 0 0), (i 0 0), (i 3 0), (r 1360), (.bool true), (i 313 0), (r 1361), .none, (r 1362), (r 1363), (r 1364), (i 2303 0), (i 939 0), (s "/claim/cut.py" 2304)])),
  (o (t "function") (fn (d 148) "_get_int64" "_get_int64" 3 [] .none .none .none (s "bson" 1959) none (r 1365) .none 0)),
  (o (t "tuple") (.seq #[] 0)),
  (o .none (.fields #[])),
  (o (t "tuple") (.seq #[(s "data" 2309), (s "_view" 2310), (s "position" 2311), (s "dummy0" 2312), (s "dummy1" 2313), (s "dummy2" 2314), (s "end" 2315)] 0)),
  (o (t "tuple") (.seq #[] 0)),
  (o .none (fn (d 149) "_get_decimal128" "_get_decimal128" 0 [] .none .none .none .none none .none .none 0)),
  (o (t "code") (.fields #[(s "_get_decimal128" 2306), (s "_get_decimal128" 2307), (s "/claim/cut.py" 2308), (i 941 0), (i 6 0), (i 0 0), (i 0 0), (i 3 0), (r 1367), (.bool true), (i 313 0), (r 1368), .none, (r 1369), (r 1370), (r 1371), (i 2316 0), (i 941 0), (s "/claim/cut.py" 2317)])),
  (o (t "function") (fn (d 149) "_get_decimal128" "_get_decimal128" 3 [] .none .none .none (s "bson" 1959) none (r 1372) .none 0)),
  (o (t "dict") (.dict #[(en 2 (i 2 2319) (r 1275)), (en 3 (i 3 2321) (r 1289)), (en 4 (i 4 2323) (r 1296)), (en 5 (i 5 2325) (r 1303)), (en 6 (i 6 2327) (r 1381)), (en 7 (i 7 2340) (r 1310)), (en 8 (i 8 2342) (r 1317)), (en 9 (i 9 2344) (r 1324)), (en 10 (i 10 2346) (r 1388)), (en 11 (i 11 2359) (r 1345)), (en 12 (i 12 2361) (r 1352)), (en 13 (i 13 2363) (r 1331)), (en 14 (i 14 2365) (r 1275)), (en 15 (i 15 2367) (r 1338)), (en 16 (i 16 2369) (r 1261)), (en 17 (i 17 2371) (r 1359)), (en 18 (i 18 2373) (r 1366)), (en 19 (i 19 2375) (r 1373)), (en 255 (i 255 2376) (r 1396)), (en 127 (i 127 2388) (r 1403))] 20)),
  (o (t "tuple") (.seq #[] 0)),
  (o .none (.fields #[])),
  (o (t "tuple") (.seq #[(s "u" 2331), (s "v" 2332), (s "w" 2333), (s "x" 2334), (s "y" 2335), (s "z" 2336)] 0)),
  (o (t "tuple") (.seq #[] 0)),
  (o .none (fl (lamOf (d 150) 4) "<lambda>" "<lambda>" 0 [] .none .none .none .none none .none .none 0)),
  (o (t "code") (.fields #[(s "<lambda>" 2328), (s "<lambda>" 2329), (s "/claim/cut.py" 2330), (i 945 0), (i 6 0), (i 0 0), (i 0 0), (i 3 0), (r 1375), (.bool true), (i 313 0), (r 1376), .none, (r 1377), (r 1378), (r 1379), (i 2337 0), (i 945 0), (s "/claim/cut.py" 2338)])),
  (o (t "function") (fl (lamOf (d 150) 4) "<lambda>" "<lambda>" 3 [] .none .none .none (s "bson" 1959) none (r 1380) .none 0)),
  (o (t "tuple") (.seq #[] 0)),
  (o .none (.fields #[])),
  (o (t "tuple") (.seq #[(s "u" 2350), (s "v" 2351), (s "w" 2352), (s "x" 2353), (s "y" 2354), (s "z" 2355)] 0)),
  (o (t "tuple") (.seq #[] 0)),
  (o .none (fl (lamOf (d 150) 8) "<lambda>" "<lambda>" 0 [] .none .none .none .none none .none .none 0)),
  (o (t "code") (.fields #[(s "<lambda>" 2347), (s "<lambda>" 2348), (s "/claim/cut.py" 2349), (i 946 0), (i 6 0), (i 0 0), (i 0 0), (i 3 0), (r 1382), (.bool true), (i 313 0), (r 1383), .none, (r 1384), (r 1385), (r 1386), (i 2356 0), (i 946 0), (s "/claim/cut.py" 2357)])),
  (o (t "function") (fl (lamOf (d 150) 8) "<lambda>" "<lambda>" 3 [] .none .none .none (s "bson" 1959) none (r 1387) .none 0)),
  (o (t "dict") (.dict #[(en 19 (i 19 2375) (r 1373)), (en 255 (i 255 2376) (r 1396)), (en 127 (i 127 2388) (r 1403))] 3)),
  (o (t "tuple") (.seq #[] 0)),
  (o .none (.fields #[])),
  (o (t "tuple") (.seq #[(s "u" 2380), (s "v" 2381), (s "w" 2382), (s "x" 2383), (s "y" 2384), (s "z" 2385)] 0)),
  (o (t "tuple") (.seq #[] 0)),
  (o .none (fl (lamOf (d 150) 18) "<lambda>" "<lambda>" 0 [] .none .none .none .none none .none .none 0)),
  (o (t "code") (.fields #[(s "<lambda>" 2377), (s "<lambda>" 2378), (s "/claim/cut.py" 2379), (i 947 0), (i 6 0), (i 0 0), (i 0 0), (i 3 0), (r 1390), (.bool true), (i 313 0), (r 1391), .none, (r 1392), (r 1393), (r 1394), (i 2386 0), (i 947 0), (s "/claim/cut.py" 2387)])),
  (o (t "function") (fl (lamOf (d 150) 18) "<lambda>" "<lambda>" 3 [] .none .none .none (s "bson" 1959) none (r 1395) .none 0)),
  (o (t "tuple") (.seq #[] 0)),
  (o .none (.fields #[])),
  (o (t "tuple") (.seq #[(s "u" 2392), (s "v" 2393), (s "w" 2394), (s "x" 2395), (s "y" 2396), (s "z" 2397)] 0)),
  (o (t "tuple") (.seq #[] 0)),
  (o .none (fl (lamOf (d 150) 19) "<lambda>" "<lambda>" 0 [] .none .none .none .none none .none .none 0)),
  (o (t "code") (.fields #[(s "<lambda>" 2389), (s "<lambda>" 2390), (s "/claim/cut.py" 2391), (i 948 0), (i 6 0), (i 0 0), (i 0 0), (i 3 0), (r 1397), (.bool true), (i 313 0), (r 1398), .none, (r 1399), (r 1400), (r 1401), (i 2398 0), (i 948 0), (s "/claim/cut.py" 2399)])),
  (o (t "function") (fl (lamOf (d 150) 19) "<lambda>" "<lambda>" 3 [] .none .none .none (s "bson" 1959) none (r 1402) .none 0)),
  (o (t "tuple") (.seq #[] 0)),
  (o .none (.fields #[])),
  (o (t "tuple") (.seq #[(s "data" 2407), (s "view" 2408), (s "position" 2409), (s "obj_end" 2410), (s "opts" 2411), (s "element_type" 2412), (s "element_name" 2413), (s "value" 2414)] 0)),
  (o (t "tuple") (.seq #[] 0))]
def C22 (P : Params) : List Obj := [
  (o .none (fn (d 151) "_element_to_dict" "_element_to_dict" 0 [] .none .none .none .none none .none .none 0)),
  (o (t "code") (.fields #[(s "_element_to_dict" 2404), (s "_element_to_dict" 2405), (s "/claim/cut.py" 2406), (i 949 0), (i 5 0), (i 0 0), (i 0 0), (i 3 0), (r 1404), (.bool true), (i 313 0), (r 1405), .none, (r 1406), (r 1407), (r 1408), (i 2415 0), (i 949 0), (s "/claim/cut.py" 2416)])),
  (o (t "function") (fn (d 151) "_element_to_dict" "_element_to_dict" 3 [] .none .none .none (s "bson" 1959) none (r 1409) .none 0)),
  (o (t "tuple") (.seq #[] 0)),
  (o .none (.fields #[])),
  (o (t "tuple") (.seq #[(s "data" 2421), (s "view" 2422), (s "position" 2423), (s "obj_end" 2424), (s "opts" 2425), (s "result" 2426), (s "end" 2427), (s "key" 2428), (s "value" 2429)] 0)),
  (o (t "tuple") (.seq #[] 0)),
  (o .none (fn (d 152) "_elements_to_dict" "_elements_to_dict" 0 [] .none .none .none .none none .none .none 0)),
  (o (t "code") (.fields #[(s "_elements_to_dict" 2418), (s "_elements_to_dict" 2419), (s "/claim/cut.py" 2420), (i 958 0), (i 5 0), (i 0 0), (i 0 0), (i 3 0), (r 1411), (.bool true), (i 313 0), (r 1412), .none, (r 1413), (r 1414), (r 1415), (i 2430 0), (i 958 0), (s "/claim/cut.py" 2431)])),
  (o (t "function") (fn (d 152) "_elements_to_dict" "_elements_to_dict" 3 [] .none .none .none (s "bson" 1959) none (r 1416) .none 0)),
  (o (t "tuple") (.seq #[] 0)),
  (o .none (.fields #[])),
  (o (t "tuple") (.seq #[(s "data" 2436), (s "opts" 2437), (s "view" 2438), (s "_" 2439), (s "end" 2440), (s "exc" 2441)] 0)),
  (o (t "tuple") (.seq #[] 0)),
  (o .none (fn (d 153) "_bson_to_dict" "_bson_to_dict" 0 [] .none .none .none .none none .none .none 0)),
  (o (t "code") (.fields #[(s "_bson_to_dict" 2433), (s "_bson_to_dict" 2434), (s "/claim/cut.py" 2435), (i 967 0), (i 2 0), (i 0 0), (i 0 0), (i 3 0), (r 1418), (.bool true), (i 313 0), (r 1419), .none, (r 1420), (r 1421), (r 1422), (i 2442 0), (i 967 0), (s "/claim/cut.py" 2443)])),
  (o (t "function") (fn (d 153) "_bson_to_dict" "_bson_to_dict" 3 [] .none .none .none (s "bson" 1959) none (r 1423) .none 0)),
  (o (t "tuple") (.seq #[] 0)),
  (o .none (.fields #[])),
  (o (t "tuple") (.seq #[(s "value" 2448)] 0)),
  (o (t "tuple") (.seq #[] 0)),
  (o .none (fn (d 154) "_PACK_INT" "_PACK_INT" 0 [] .none .none .none .none none .none .none 0)),
  (o (t "code") (.fields #[(s "_PACK_INT" 2445), (s "_PACK_INT" 2446), (s "/claim/cut.py" 2447), (i 976 0), (i 1 0), (i 0 0), (i 0 0), (i 3 0), (r 1425), (.bool true), (i 313 0), (r 1426), .none, (r 1427), (r 1428), (r 1429), (i 2449 0), (i 976 0), (s "/claim/cut.py" 2450)])),
  (o (t "function") (fn (d 154) "_PACK_INT" "_PACK_INT" 3 [] .none .none .none (s "bson" 1959) none (r 1430) .none 0)),
  (o (t "tuple") (.seq #[] 0)),
  (o .none (.fields #[])),
  (o (t "tuple") (.seq #[(s "length" 2455), (s "subtype" 2456)] 0)),
  (o (t "tuple") (.seq #[] 0)),
  (o .none (fn (d 155) "_PACK_LENGTH_SUBTYPE" "_PACK_LENGTH_SUBTYPE" 0 [] .none .none .none .none none .none .none 0)),
  (o (t "code") (.fields #[(s "_PACK_LENGTH_SUBTYPE" 2452), (s "_PACK_LENGTH_SUBTYPE" 2453), (s "/claim/cut.py" 2454), (i 978 0), (i 2 0), (i 0 0), (i 0 0), (i 3 0), (r 1432), (.bool true), (i 313 0), (r 1433), .none, (r 1434), (r 1435), (r 1436), (i 2457 0), (i 978 0), (s "/claim/cut.py" 2458)])),
  (o (t "function") (fn (d 155) "_PACK_LENGTH_SUBTYPE" "_PACK_LENGTH_SUBTYPE" 3 [] .none .none .none (s "bson" 1959) none (r 1437) .none 0)),
  (o (t "tuple") (.seq #[] 0)),
  (o .none (.fields #[])),
  (o (t "tuple") (.seq #[(s "value" 2463)] 0)),
  (o (t "tuple") (.seq #[] 0)),
  (o .none (fn (d 156) "_PACK_LONG" "_PACK_LONG" 0 [] .none .none .none .none none .none .none 0)),
  (o (t "code") (.fields #[(s "_PACK_LONG" 2460), (s "_PACK_LONG" 2461), (s "/claim/cut.py" 2462), (i 980 0), (i 1 0), (i 0 0), (i 0 0), (i 3 0), (r 1439), (.bool true), (i 313 0), (r 1440), .none, (r 1441), (r 1442), (r 1443), (i 2464 0), (i 980 0), (s "/claim/cut.py" 2465)])),
  (o (t "function") (fn (d 156) "_PACK_LONG" "_PACK_LONG" 3 [] .none .none .none (s "bson" 1959) none (r 1444) .none 0)),
  (o (t "tuple") (.seq #[] 0)),
  (o .none (.fields #[])),
  (o (t "tuple") (.seq #[(s "inc" 2470), (s "time" 2471)] 0)),
  (o (t "tuple") (.seq #[] 0)),
  (o .none (fn (d 157) "_PACK_TIMESTAMP" "_PACK_TIMESTAMP" 0 [] .none .none .none .none none .none .none 0)),
  (o (t "code") (.fields #[(s "_PACK_TIMESTAMP" 2467), (s "_PACK_TIMESTAMP" 2468), (s "/claim/cut.py" 2469), (i 984 0), (i 2 0), (i 0 0), (i 0 0), (i 3 0), (r 1446), (.bool true), (i 313 0), (r 1447), .none, (r 1448), (r 1449), (r 1450), (i 2472 0), (i 984 0), (s "/claim/cut.py" 2473)])),
  (o (t "function") (fn (d 157) "_PACK_TIMESTAMP" "_PACK_TIMESTAMP" 3 [] .none .none .none (s "bson" 1959) none (r 1451) .none 0)),
  (o (t "tuple") (.seq #[] 0)),
  (o .none (.fields #[])),
  (o (t "tuple") (.seq #[(s "string" 2478)] 0)),
  (o (t "tuple") (.seq #[] 0)),
  (o .none (fn (d 158) "_make_c_string_check" "_make_c_string_check" 0 [] .none .none .none .none none .none .none 0)),
  (o (t "code") (.fields #[(s "_make_c_string_check" 2475), (s "_make_c_string_check" 2476), (s "/claim/cut.py" 2477), (i 986 0), (i 1 0), (i 0 0), (i 0 0), (i 3 0), (r 1453), (.bool true), (i 313 0), (r 1454), .none, (r 1455), (r 1456), (r 1457), (i 2479 0), (i 986 0), (s "/claim/cut.py" 2480)])),
  (o (t "function") (fn (d 158) "_make_c_string_check" "_make_c_string_check" 3 [] .none .none .none (s "bson" 1959) none (r 1458) .none 0)),
  (o (t "tuple") (.seq #[] 0)),
  (o .none (.fields #[])),
  (o (t "tuple") (.seq #[(s "string" 2485)] 0)),
  (o (t "tuple") (.seq #[] 0)),
  (o .none (fn (d 159) "_make_c_string" "_make_c_string" 0 [] .none .none .none .none none .none .none 0)),
  (o (t "code") (.fields #[(s "_make_c_string" 2482), (s "_make_c_string" 2483), (s "/claim/cut.py" 2484), (i 999 0), (i 1 0), (i 0 0), (i 0 0), (i 3 0), (r 1460), (.bool true), (i 313 0), (r 1461), .none, (r 1462), (r 1463), (r 1464), (i 2486 0), (i 999 0), (s "/claim/cut.py" 2487)])),
  (o (t "function") (fn (d 159) "_make_c_string" "_make_c_string" 3 [] .none .none .none (s "bson" 1959) none (r 1465) .none 0)),
  (o (t "tuple") (.seq #[] 0)),
  (o .none (.fields #[])),
  (o (t "tuple") (.seq #[(s "string" 2492)] 0)),
  (o (t "tuple") (.seq #[] 0)),
  (o .none (fn (d 160) "_make_name" "_make_name" 0 [] .none .none .none .none none .none .none 0))]
def C23 (P : Params) : List Obj := [
  (o (t "code") (.fields #[(s "_make_name" 2489), (s "_make_name" 2490), (s "/claim/cut.py" 2491), (i 1008 0), (i 1 0), (i 0 0), (i 0 0), (i 3 0), (r 1467), (.bool true), (i 313 0), (r 1468), .none, (r 1469), (r 1470), (r 1471), (i 2493 0), (i 1008 0), (s "/claim/cut.py" 2494)])),
  (o (t "function") (fn (d 160) "_make_name" "_make_name" 3 [] .none .none .none (s "bson" 1959) none (r 1472) .none 0)),
  (o (t "tuple") (.seq #[] 0)),
  (o .none (.fields #[])),
  (o (t "tuple") (.seq #[(s "name" 2499), (s "value" 2500), (s "dummy0" 2501), (s "dummy1" 2502)] 0)),
  (o (t "tuple") (.seq #[] 0)),
  (o .none (fn (d 161) "_encode_bytes" "_encode_bytes" 0 [] .none .none .none .none none .none .none 0)),
  (o (t "code") (.fields #[(s "_encode_bytes" 2496), (s "_encode_bytes" 2497), (s "/claim/cut.py" 2498), (i 1012 0), (i 4 0), (i 0 0), (i 0 0), (i 3 0), (r 1474), (.bool true), (i 313 0), (r 1475), .none, (r 1476), (r 1477), (r 1478), (i 2503 0), (i 1012 0), (s "/claim/cut.py" 2504)])),
  (o (t "function") (fn (d 161) "_encode_bytes" "_encode_bytes" 3 [] .none .none .none (s "bson" 1959) none (r 1479) .none 0)),
  (o (t "tuple") (.seq #[] 0)),
  (o .none (.fields #[])),
  (o .none (fn (d 162) "_encode_mapping" "_encode_mapping" 0 [] .none .none .none .none none .none .none 0)),
  (o (t "code") (.fields #[(s "_encode_mapping" 2506), (s "_encode_mapping" 2507), (s "/claim/cut.py" 2508), (i 1014 0), (i 4 0), (i 0 0), (i 0 0), (i 3 0), (r 1481), (.bool true), (i 313 0), (r 1482), .none, .none, .none, (r 1483), (i 2509 0), (i 1014 0), (s "/claim/cut.py" 2510)])),
  (o (t "function") (fn (d 162) "_encode_mapping" "_encode_mapping" 3 [] .none .none .none (s "bson" 1959) none (r 1484) .none 0)),
  (o (t "tuple") (.seq #[] 0)),
  (o .none (.fields #[])),
  (o (t "tuple") (.seq #[(s "name" 2515), (s "value" 2516), (s "check_keys" 2517), (s "opts" 2518), (s "buf" 2519), (s "begin" 2520), (s "key" 2521), (s "val" 2522)] 0)),
  (o (t "tuple") (.seq #[] 0)),
  (o .none (fn (d 163) "_encode_dbref" "_encode_dbref" 0 [] .none .none .none .none none .none .none 0)),
  (o (t "code") (.fields #[(s "_encode_dbref" 2512), (s "_encode_dbref" 2513), (s "/claim/cut.py" 2514), (i 1017 0), (i 4 0), (i 0 0), (i 0 0), (i 3 0), (r 1486), (.bool true), (i 313 0), (r 1487), .none, (r 1488), (r 1489), (r 1490), (i 2523 0), (i 1017 0), (s "/claim/cut.py" 2524)])),
  (o (t "function") (fn (d 163) "_encode_dbref" "_encode_dbref" 3 [] .none .none .none (s "bson" 1959) none (r 1491) .none 0)),
  (o (t "tuple") (.seq #[] 0)),
  (o .none (.fields #[])),
  (o .none (fn (d 164) "_encode_list" "_encode_list" 0 [] .none .none .none .none none .none .none 0)),
  (o (t "code") (.fields #[(s "_encode_list" 2526), (s "_encode_list" 2527), (s "/claim/cut.py" 2528), (i 1029 0), (i 4 0), (i 0 0), (i 0 0), (i 3 0), (r 1493), (.bool true), (i 313 0), (r 1494), .none, .none, .none, (r 1495), (i 2529 0), (i 1029 0), (s "/claim/cut.py" 2530)])),
  (o (t "function") (fn (d 164) "_encode_list" "_encode_list" 3 [] .none .none .none (s "bson" 1959) none (r 1496) .none 0)),
  (o (t "tuple") (.seq #[] 0)),
  (o .none (.fields #[])),
  (o (t "tuple") (.seq #[(s "name" 2535), (s "value" 2536), (s "dummy0" 2537), (s "dummy1" 2538), (s "bvalue" 2539)] 0)),
  (o (t "tuple") (.seq #[] 0)),
  (o .none (fn (d 165) "_encode_text" "_encode_text" 0 [] .none .none .none .none none .none .none 0)),
  (o (t "code") (.fields #[(s "_encode_text" 2532), (s "_encode_text" 2533), (s "/claim/cut.py" 2534), (i 1032 0), (i 4 0), (i 0 0), (i 0 0), (i 3 0), (r 1498), (.bool true), (i 313 0), (r 1499), .none, (r 1500), (r 1501), (r 1502), (i 2540 0), (i 1032 0), (s "/claim/cut.py" 2541)])),
  (o (t "function") (fn (d 165) "_encode_text" "_encode_text" 3 [] .none .none .none (s "bson" 1959) none (r 1503) .none 0)),
  (o (t "tuple") (.seq #[] 0)),
  (o .none (.fields #[])),
  (o (t "tuple") (.seq #[(s "name" 2546), (s "value" 2547), (s "dummy0" 2548), (s "dummy1" 2549), (s "subtype" 2550)] 0)),
  (o (t "tuple") (.seq #[] 0)),
  (o .none (fn (d 166) "_encode_binary" "_encode_binary" 0 [] .none .none .none .none none .none .none 0)),
  (o (t "code") (.fields #[(s "_encode_binary" 2543), (s "_encode_binary" 2544), (s "/claim/cut.py" 2545), (i 1035 0), (i 4 0), (i 0 0), (i 0 0), (i 3 0), (r 1505), (.bool true), (i 313 0), (r 1506), .none, (r 1507), (r 1508), (r 1509), (i 2551 0), (i 1035 0), (s "/claim/cut.py" 2552)])),
  (o (t "function") (fn (d 166) "_encode_binary" "_encode_binary" 3 [] .none .none .none (s "bson" 1959) none (r 1510) .none 0)),
  (o (t "tuple") (.seq #[] 0)),
  (o .none (.fields #[])),
  (o (t "tuple") (.seq #[(s "name" 2557), (s "value" 2558), (s "dummy" 2559), (s "opts" 2560), (s "uuid_representation" 2561), (s "binval" 2562)] 0)),
  (o (t "tuple") (.seq #[] 0)),
  (o .none (fn (d 167) "_encode_uuid" "_encode_uuid" 0 [] .none .none .none .none none .none .none 0)),
  (o (t "code") (.fields #[(s "_encode_uuid" 2554), (s "_encode_uuid" 2555), (s "/claim/cut.py" 2556), (i 1041 0), (i 4 0), (i 0 0), (i 0 0), (i 3 0), (r 1512), (.bool true), (i 313 0), (r 1513), .none, (r 1514), (r 1515), (r 1516), (i 2563 0), (i 1041 0), (s "/claim/cut.py" 2564)])),
  (o (t "function") (fn (d 167) "_encode_uuid" "_encode_uuid" 3 [] .none .none .none (s "bson" 1959) none (r 1517) .none 0)),
  (o (t "tuple") (.seq #[] 0)),
  (o .none (.fields #[])),
  (o (t "tuple") (.seq #[(s "name" 2569), (s "value" 2570), (s "dummy" 2571), (s "dummy1" 2572)] 0)),
  (o (t "tuple") (.seq #[] 0)),
  (o .none (fn (d 168) "_encode_objectid" "_encode_objectid" 0 [] .none .none .none .none none .none .none 0)),
  (o (t "code") (.fields #[(s "_encode_objectid" 2566), (s "_encode_objectid" 2567), (s "/claim/cut.py" 2568), (i 1045 0), (i 4 0), (i 0 0), (i 0 0), (i 3 0), (r 1519), (.bool true), (i 313 0), (r 1520), .none, (r 1521), (r 1522), (r 1523), (i 2573 0), (i 1045 0), (s "/claim/cut.py" 2574)])),
  (o (t "function") (fn (d 168) "_encode_objectid" "_encode_objectid" 3 [] .none .none .none (s "bson" 1959) none (r 1524) .none 0)),
  (o (t "tuple") (.seq #[] 0)),
  (o .none (.fields #[])),
  (o (t "tuple") (.seq #[(s "name" 2579), (s "value" 2580), (s "dummy0" 2581), (s "dummy1" 2582)] 0)),
  (o (t "tuple") (.seq #[] 0)),
  (o .none (fn (d 169) "_encode_bool" "_encode_bool" 0 [] .none .none .none .none none .none .none 0)),
  (o (t "code") (.fields #[(s "_encode_bool" 2576), (s "_encode_bool" 2577), (s "/claim/cut.py" 2578), (i 1047 0), (i 4 0), (i 0 0), (i 0 0), (i 3 0), (r 1526), (.bool true), (i 313 0), (r 1527), .none, (r 1528), (r 1529), (r 1530), (i 2583 0), (i 1047 0), (s "/claim/cut.py" 2584)])),
  (o (t "function") (fn (d 169) "_encode_bool" "_encode_bool" 3 [] .none .none .none (s "bson" 1959) none (r 1531) .none 0)),
  (o (t "tuple") (.seq #[] 0)),
  (o .none (.fields #[])),
  (o (t "tuple") (.seq #[(s "name" 2589), (s "value" 2590), (s "dummy0" 2591), (s "dummy1" 2592), (s "millis" 2593)] 0))]
def C24 (P : Params) : List Obj := [
  (o (t "tuple") (.seq #[] 0)),
  (o .none (fn (d 170) "_encode_datetime_ms" "_encode_datetime_ms" 0 [] .none .none .none .none none .none .none 0)),
  (o (t "code") (.fields #[(s "_encode_datetime_ms" 2586), (s "_encode_datetime_ms" 2587), (s "/claim/cut.py" 2588), (i 1049 0), (i 4 0), (i 0 0), (i 0 0), (i 3 0), (r 1533), (.bool true), (i 313 0), (r 1534), .none, (r 1535), (r 1536), (r 1537), (i 2594 0), (i 1049 0), (s "/claim/cut.py" 2595)])),
  (o (t "function") (fn (d 170) "_encode_datetime_ms" "_encode_datetime_ms" 3 [] .none .none .none (s "bson" 1959) none (r 1538) .none 0)),
  (o (t "tuple") (.seq #[] 0)),
  (o .none (.fields #[])),
  (o (t "tuple") (.seq #[(s "name" 2600), (s "dummy0" 2601), (s "dummy1" 2602), (s "dummy2" 2603)] 0)),
  (o (t "tuple") (.seq #[] 0)),
  (o .none (fn (d 171) "_encode_none" "_encode_none" 0 [] .none .none .none .none none .none .none 0)),
  (o (t "code") (.fields #[(s "_encode_none" 2597), (s "_encode_none" 2598), (s "/claim/cut.py" 2599), (i 1052 0), (i 4 0), (i 0 0), (i 0 0), (i 3 0), (r 1540), (.bool true), (i 313 0), (r 1541), .none, (r 1542), (r 1543), (r 1544), (i 2604 0), (i 1052 0), (s "/claim/cut.py" 2605)])),
  (o (t "function") (fn (d 171) "_encode_none" "_encode_none" 3 [] .none .none .none (s "bson" 1959) none (r 1545) .none 0)),
  (o (t "tuple") (.seq #[] 0)),
  (o .none (.fields #[])),
  (o (t "tuple") (.seq #[(s "name" 2610), (s "value" 2611), (s "dummy0" 2612), (s "dummy1" 2613), (s "flags" 2614), (s "sflags" 2615)] 0)),
  (o (t "tuple") (.seq #[] 0)),
  (o .none (fn (d 172) "_encode_regex" "_encode_regex" 0 [] .none .none .none .none none .none .none 0)),
  (o (t "code") (.fields #[(s "_encode_regex" 2607), (s "_encode_regex" 2608), (s "/claim/cut.py" 2609), (i 1054 0), (i 4 0), (i 0 0), (i 0 0), (i 3 0), (r 1547), (.bool true), (i 313 0), (r 1548), .none, (r 1549), (r 1550), (r 1551), (i 2616 0), (i 1054 0), (s "/claim/cut.py" 2617)])),
  (o (t "function") (fn (d 172) "_encode_regex" "_encode_regex" 3 [] .none .none .none (s "bson" 1959) none (r 1552) .none 0)),
  (o (t "tuple") (.seq #[] 0)),
  (o .none (.fields #[])),
  (o (t "tuple") (.seq #[(s "name" 2622), (s "value" 2623), (s "dummy" 2624), (s "opts" 2625), (s "cstring" 2626), (s "cstrlen" 2627), (s "scope" 2628), (s "full_length" 2629)] 0)),
  (o (t "tuple") (.seq #[] 0)),
  (o .none (fn (d 173) "_encode_code" "_encode_code" 0 [] .none .none .none .none none .none .none 0)),
  (o (t "code") (.fields #[(s "_encode_code" 2619), (s "_encode_code" 2620), (s "/claim/cut.py" 2621), (i 1076 0), (i 4 0), (i 0 0), (i 0 0), (i 3 0), (r 1554), (.bool true), (i 313 0), (r 1555), .none, (r 1556), (r 1557), (r 1558), (i 2630 0), (i 1076 0), (s "/claim/cut.py" 2631)])),
  (o (t "function") (fn (d 173) "_encode_code" "_encode_code" 3 [] .none .none .none (s "bson" 1959) none (r 1559) .none 0)),
  (o (t "tuple") (.seq #[] 0)),
  (o .none (.fields #[])),
  (o (t "tuple") (.seq #[(s "name" 2636), (s "value" 2637), (s "dummy0" 2638), (s "dummy1" 2639)] 0)),
  (o (t "tuple") (.seq #[] 0)),
  (o .none (fn (d 174) "_encode_int" "_encode_int" 0 [] .none .none .none .none none .none .none 0)),
  (o (t "code") (.fields #[(s "_encode_int" 2633), (s "_encode_int" 2634), (s "/claim/cut.py" 2635), (i 1084 0), (i 4 0), (i 0 0), (i 0 0), (i 3 0), (r 1561), (.bool true), (i 313 0), (r 1562), .none, (r 1563), (r 1564), (r 1565), (i 2640 0), (i 1084 0), (s "/claim/cut.py" 2641)])),
  (o (t "function") (fn (d 174) "_encode_int" "_encode_int" 3 [] .none .none .none (s "bson" 1959) none (r 1566) .none 0)),
  (o (t "tuple") (.seq #[] 0)),
  (o .none (.fields #[])),
  (o (t "tuple") (.seq #[(s "name" 2646), (s "value" 2647), (s "dummy0" 2648), (s "dummy1" 2649)] 0)),
  (o (t "tuple") (.seq #[] 0)),
  (o .none (fn (d 175) "_encode_timestamp" "_encode_timestamp" 0 [] .none .none .none .none none .none .none 0)),
  (o (t "code") (.fields #[(s "_encode_timestamp" 2643), (s "_encode_timestamp" 2644), (s "/claim/cut.py" 2645), (i 1092 0), (i 4 0), (i 0 0), (i 0 0), (i 3 0), (r 1568), (.bool true), (i 313 0), (r 1569), .none, (r 1570), (r 1571), (r 1572), (i 2650 0), (i 1092 0), (s "/claim/cut.py" 2651)])),
  (o (t "function") (fn (d 175) "_encode_timestamp" "_encode_timestamp" 3 [] .none .none .none (s "bson" 1959) none (r 1573) .none 0)),
  (o (t "tuple") (.seq #[] 0)),
  (o .none (.fields #[])),
  (o (t "tuple") (.seq #[(s "name" 2656), (s "value" 2657), (s "dummy0" 2658), (s "dummy1" 2659)] 0)),
  (o (t "tuple") (.seq #[] 0)),
  (o .none (fn (d 176) "_encode_long" "_encode_long" 0 [] .none .none .none .none none .none .none 0)),
  (o (t "code") (.fields #[(s "_encode_long" 2653), (s "_encode_long" 2654), (s "/claim/cut.py" 2655), (i 1094 0), (i 4 0), (i 0 0), (i 0 0), (i 3 0), (r 1575), (.bool true), (i 313 0), (r 1576), .none, (r 1577), (r 1578), (r 1579), (i 2660 0), (i 1094 0), (s "/claim/cut.py" 2661)])),
  (o (t "function") (fn (d 176) "_encode_long" "_encode_long" 3 [] .none .none .none (s "bson" 1959) none (r 1580) .none 0)),
  (o (t "tuple") (.seq #[] 0)),
  (o .none (.fields #[])),
  (o (t "tuple") (.seq #[(s "name" 2666), (s "value" 2667), (s "dummy0" 2668), (s "dummy1" 2669)] 0)),
  (o (t "tuple") (.seq #[] 0)),
  (o .none (fn (d 177) "_encode_decimal128" "_encode_decimal128" 0 [] .none .none .none .none none .none .none 0)),
  (o (t "code") (.fields #[(s "_encode_decimal128" 2663), (s "_encode_decimal128" 2664), (s "/claim/cut.py" 2665), (i 1099 0), (i 4 0), (i 0 0), (i 0 0), (i 3 0), (r 1582), (.bool true), (i 313 0), (r 1583), .none, (r 1584), (r 1585), (r 1586), (i 2670 0), (i 1099 0), (s "/claim/cut.py" 2671)])),
  (o (t "function") (fn (d 177) "_encode_decimal128" "_encode_decimal128" 3 [] .none .none .none (s "bson" 1959) none (r 1587) .none 0)),
  (o (t "tuple") (.seq #[] 0)),
  (o .none (.fields #[])),
  (o (t "tuple") (.seq #[(s "name" 2676), (s "dummy0" 2677), (s "dummy1" 2678), (s "dummy2" 2679)] 0)),
  (o (t "tuple") (.seq #[] 0)),
  (o .none (fn (d 178) "_encode_minkey" "_encode_minkey" 0 [] .none .none .none .none none .none .none 0)),
  (o (t "code") (.fields #[(s "_encode_minkey" 2673), (s "_encode_minkey" 2674), (s "/claim/cut.py" 2675), (i 1101 0), (i 4 0), (i 0 0), (i 0 0), (i 3 0), (r 1589), (.bool true), (i 313 0), (r 1590), .none, (r 1591), (r 1592), (r 1593), (i 2680 0), (i 1101 0), (s "/claim/cut.py" 2681)])),
  (o (t "function") (fn (d 178) "_encode_minkey" "_encode_minkey" 3 [] .none .none .none (s "bson" 1959) none (r 1594) .none 0)),
  (o (t "tuple") (.seq #[] 0)),
  (o .none (.fields #[])),
  (o (t "tuple") (.seq #[(s "name" 2686), (s "dummy0" 2687), (s "dummy1" 2688), (s "dummy2" 2689)] 0)),
  (o (t "tuple") (.seq #[] 0))]
def C25 (P : Params) : List Obj := [
  (o .none (fn (d 179) "_encode_maxkey" "_encode_maxkey" 0 [] .none .none .none .none none .none .none 0)),
  (o (t "code") (.fields #[(s "_encode_maxkey" 2683), (s "_encode_maxkey" 2684), (s "/claim/cut.py" 2685), (i 1103 0), (i 4 0), (i 0 0), (i 0 0), (i 3 0), (r 1596), (.bool true), (i 313 0), (r 1597), .none, (r 1598), (r 1599), (r 1600), (i 2690 0), (i 1103 0), (s "/claim/cut.py" 2691)])),
  (o (t "function") (fn (d 179) "_encode_maxkey" "_encode_maxkey" 3 [] .none .none .none (s "bson" 1959) none (r 1601) .none 0)),
  (o (t "tuple") (.seq #[(.bool false)] 0)),
  (o (t "tuple") (.seq #[] 0)),
  (o .none (.fields #[])),
  (o (t "tuple") (.seq #[(s "name" 2696), (s "value" 2697), (s "check_keys" 2698), (s "opts" 2699), (s "in_fallback_call" 2700), (s "was_integer_overflow" 2701), (s "fallback_encoder" 2702)] 0)),
  (o (t "tuple") (.seq #[] 0)),
  (o .none (fn (d 180) "_name_value_to_bson" "_name_value_to_bson" 0 [] .none .none .none .none none .none .none 0)),
  (o (t "code") (.fields #[(s "_name_value_to_bson" 2693), (s "_name_value_to_bson" 2694), (s "/claim/cut.py" 2695), (i 1105 0), (i 5 0), (i 0 0), (i 0 0), (i 3 0), (r 1604), (.bool true), (i 313 0), (r 1605), .none, (r 1606), (r 1607), (r 1608), (i 2703 0), (i 1105 0), (s "/claim/cut.py" 2704)])),
  (o (t "function") (fn (d 180) "_name_value_to_bson" "_name_value_to_bson" 3 [] (r 1603) .none .none (s "bson" 1959) none (r 1609) .none 0)),
  (o (t "tuple") (.seq #[] 0)),
  (o .none (.fields #[])),
  (o (t "tuple") (.seq #[(s "key" 2709), (s "value" 2710), (s "check_keys" 2711), (s "opts" 2712), (s "name" 2713)] 0)),
  (o (t "tuple") (.seq #[] 0)),
  (o .none (fn (d 181) "_element_to_bson" "_element_to_bson" 0 [] .none .none .none .none none .none .none 0)),
  (o (t "code") (.fields #[(s "_element_to_bson" 2706), (s "_element_to_bson" 2707), (s "/claim/cut.py" 2708), (i 1154 0), (i 4 0), (i 0 0), (i 0 0), (i 3 0), (r 1611), (.bool true), (i 313 0), (r 1612), .none, (r 1613), (r 1614), (r 1615), (i 2714 0), (i 1154 0), (s "/claim/cut.py" 2715)])),
  (o (t "function") (fn (d 181) "_element_to_bson" "_element_to_bson" 3 [] .none .none .none (s "bson" 1959) none (r 1616) .none 0)),
  (o (t "tuple") (.seq #[(.bool true)] 0)),
  (o (t "tuple") (.seq #[] 0)),
  (o .none (.fields #[])),
  (o (t "tuple") (.seq #[(s "doc" 2720), (s "check_keys" 2721), (s "opts" 2722), (s "top_level" 2723), (s "elements" 2724), (s "key" 2725), (s "value" 2726), (s "err" 2727), (s "encoded" 2728)] 0)),
  (o (t "tuple") (.seq #[] 0)),
  (o .none (fn (d 182) "_dict_to_bson" "_dict_to_bson" 0 [] .none .none .none .none none .none .none 0)),
  (o (t "code") (.fields #[(s "_dict_to_bson" 2717), (s "_dict_to_bson" 2718), (s "/claim/cut.py" 2719), (i 1164 0), (i 4 0), (i 0 0), (i 0 0), (i 3 0), (r 1619), (.bool true), (i 313 0), (r 1620), .none, (r 1621), (r 1622), (r 1623), (i 2729 0), (i 1164 0), (s "/claim/cut.py" 2730)])),
  (o (t "function") (fn (d 182) "_dict_to_bson" "_dict_to_bson" 3 [] (r 1618) .none .none (s "bson" 1959) none (r 1624) .none 0)),
  (o (t "tuple") (.seq #[(.bool false), (r 422)] 0)),
  (o (t "tuple") (.seq #[] 0)),
  (o .none (.fields #[])),
  (o (t "tuple") (.seq #[(s "document" 2735), (s "check_keys" 2736), (s "codec_options" 2737)] 0)),
  (o (t "tuple") (.seq #[] 0)),
  (o .none (fn (d 183) "encode" "encode" 0 [] .none .none .none .none none .none .none 0)),
  (o (t "code") (.fields #[(s "encode" 2732), (s "encode" 2733), (s "/claim/cut.py" 2734), (i 1178 0), (i 3 0), (i 0 0), (i 0 0), (i 3 0), (r 1627), (.bool true), (i 313 0), (r 1628), .none, (r 1629), (r 1630), (r 1631), (i 2738 0), (i 1178 0), (s "/claim/cut.py" 2739)])),
  (o (t "function") (fn (d 183) "encode" "encode" 3 [] (r 1626) .none .none (s "bson" 1959) none (r 1632) .none 0)),
  (o (t "tuple") (.seq #[.none] 0)),
  (o (t "tuple") (.seq #[] 0)),
  (o .none (.fields #[])),
  (o (t "tuple") (.seq #[(s "data" 2744), (s "codec_options" 2745), (s "opts" 2746)] 0)),
  (o (t "tuple") (.seq #[] 0)),
  (o .none (fn (d 184) "decode" "decode" 0 [] .none .none .none .none none .none .none 0)),
  (o (t "code") (.fields #[(s "decode" 2741), (s "decode" 2742), (s "/claim/cut.py" 2743), (i 1182 0), (i 2 0), (i 0 0), (i 0 0), (i 3 0), (r 1635), (.bool true), (i 313 0), (r 1636), .none, (r 1637), (r 1638), (r 1639), (i 2747 0), (i 1182 0), (s "/claim/cut.py" 2748)])),
  (o (t "function") (fn (d 184) "decode" "decode" 3 [] (r 1634) .none .none (s "bson" 1959) none (r 1640) .none 0)),
  (o (t "tuple") (.seq #[.none] 0)),
  (o (t "tuple") (.seq #[] 0)),
  (o .none (.fields #[])),
  (o (t "tuple") (.seq #[(s "write" 2755), (s "value" 2756), (s "unused_deterministic" 2757), (s "bits" 2758)] 0)),
  (o (t "tuple") (.seq #[] 0)),
  (o .none (fn (d 186) "_EncodeVarint" "_EncodeVarint" 0 [] .none .none .none .none none .none .none 0)),
  (o (t "code") (.fields #[(s "_EncodeVarint" 2752), (s "_EncodeVarint" 2753), (s "/claim/cut.py" 2754), (i 1188 0), (i 3 0), (i 0 0), (i 0 0), (i 3 0), (r 1643), (.bool true), (i 313 0), (r 1644), .none, (r 1645), (r 1646), (r 1647), (i 2759 0), (i 1188 0), (s "/claim/cut.py" 2760)])),
  (o (t "function") (fn (d 186) "_EncodeVarint" "_EncodeVarint" 3 [] (r 1642) .none .none (s "google.protobuf.internal.encoder" 2750) none (r 1648) .none 0)),
  (o (t "tuple") (.seq #[] 0)),
  (o .none (.fields #[])),
  (o (t "tuple") (.seq #[(s "value" 2765)] 0)),
  (o (t "tuple") (.seq #[(s "pieces" 2766)] 0)),
  (o .none (fn (d 187) "_VarintBytes" "_VarintBytes" 0 [] .none .none .none .none none .none .none 0)),
  (o (t "code") (.fields #[(s "_VarintBytes" 2762), (s "_VarintBytes" 2763), (s "/claim/cut.py" 2764), (i 1196 0), (i 1 0), (i 0 0), (i 0 0), (i 3 0), (r 1650), (.bool true), (i 313 0), (r 1651), .none, (r 1652), (r 1653), (r 1654), (i 2767 0), (i 1196 0), (s "/claim/cut.py" 2768)])),
  (o (t "function") (fn (d 187) "_VarintBytes" "_VarintBytes" 3 [] .none .none .none (s "google.protobuf.internal.encoder" 2750) none (r 1655) .none 0)),
  (o (t "tuple") (.seq #[] 0)),
  (o .none (.fields #[])),
  (o (t "tuple") (.seq #[(s "field_number" 2773), (s "wire_type" 2774)] 0)),
  (o (t "tuple") (.seq #[] 0)),
  (o .none (fn (d 188) "TagBytes" "TagBytes" 0 [] .none .none .none .none none .none .none 0)),
  (o (t "code") (.fields #[(s "TagBytes" 2770), (s "TagBytes" 2771), (s "/claim/cut.py" 2772), (i 1200 0), (i 2 0), (i 0 0), (i 0 0), (i 3 0), (r 1657), (.bool true), (i 313 0), (r 1658), .none, (r 1659), (r 1660), (r 1661), (i 2775 0), (i 1200 0), (s "/claim/cut.py" 2776)])),
  (o (t "function") (fn (d 188) "TagBytes" "TagBytes" 3 [] .none .none .none (s "google.protobuf.internal.encoder" 2750) none (r 1662) .none 0))]
def C26 (P : Params) : List Obj := [
  (o (t "tuple") (.seq #[(t "Exception")] 0)),
  (o (t "builtin_function_or_method") (.fields #[(b "type.__prepare__"), (t "type")])),
  (o (t "dict") (.dict #[(er P ⟨#[95, 95, 109, 111, 100, 117, 108, 101, 95, 95]⟩ 2787 (s "rlp.exceptions" 2778)), (er P ⟨#[95, 95, 113, 117, 97, 108, 110, 97, 109, 101, 95, 95]⟩ 2789 (s "RLPException" 2788)), (er P ⟨#[95, 95, 102, 105, 114, 115, 116, 108, 105, 110, 101, 110, 111, 95, 95]⟩ 2791 (i 1203 2790)), (er P ⟨#[95, 95, 115, 116, 97, 116, 105, 99, 95, 97, 116, 116, 114, 105, 98, 117, 116, 101, 115, 95, 95]⟩ 2792 (r 1671))] 4)),
  (o (t "tuple") (.seq #[] 0)),
  (o .none (.fields #[])),
  (o (t "code") (.fields #[(s "RLPException" 2782), (s "RLPException" 2783), (s "/claim/cut.py" 2784), (i 1203 0), (i 0 0), (i 0 0), (i 0 0), (i 0 0), (r 1667), (.bool false), (i 313 0), (r 1668), .none, .none, .none, .none, (i 2785 0), (i 1203 0), (s "/claim/cut.py" 2786)])),
  (oo (t "frame") none .plain #[(some (r 1669)), (some (r 3)), (some (r 1666)), none, (some (s "rlp.exceptions" 2778)), none, (some (r 0))]),
  (o (t "tuple") (.seq #[] 0)),
  (o (t "dict") (.dict #[(er P ⟨#[95, 95, 109, 111, 100, 117, 108, 101, 95, 95]⟩ 2787 (s "rlp.exceptions" 2778)), (er P ⟨#[95, 95, 102, 105, 114, 115, 116, 108, 105, 110, 101, 110, 111, 95, 95]⟩ 2791 (i 1203 2790)), (er P ⟨#[95, 95, 115, 116, 97, 116, 105, 99, 95, 97, 116, 116, 114, 105, 98, 117, 116, 101, 115, 95, 95]⟩ 2792 (r 1671)), (er P ⟨#[95, 95, 119, 101, 97, 107, 114, 101, 102, 95, 95]⟩ 2794 (r 1674)), (er P ⟨#[95, 95, 100, 111, 99, 95, 95]⟩ 2795 .none)] 3)),
  (oo (t "type") none (.cls ⟨n "RLPException", [(t "Exception")], [(r 1673), (t "Exception"), (t "BaseException"), (t "object")], 1672, n "RLPException", true, [], [(r 1695), (r 1716)], false, none, false⟩) #[(some (r 1664)), none, (some (s "RLPException" 2780)), (some (s "RLPException" 2788)), (some (b "Exception.__new__")), (some (.bool true))]),
  (o (t "getset_descriptor") (.fields #[(.str ⟨#[95, 95, 119, 101, 97, 107, 114, 101, 102, 95, 95]⟩ 2793), (r 1673), (b "ExceptionGroup.__weakref__"), .none])),
  (o (t "super") (.fields #[(r 1673), (r 1673), (r 1673)])),
  (o (t "builtin_function_or_method") (.fields #[(b "object.__init_subclass__"), (r 1673)])),
  (o (t "tuple") (.seq #[(r 1673)] 0)),
  (o (t "builtin_function_or_method") (.fields #[(b "type.__prepare__"), (t "type")])),
  (o (t "dict") (.dict #[(er P ⟨#[95, 95, 109, 111, 100, 117, 108, 101, 95, 95]⟩ 2807 (s "rlp.exceptions" 2778)), (er P ⟨#[95, 95, 113, 117, 97, 108, 110, 97, 109, 101, 95, 95]⟩ 2809 (s "EncodingError" 2808)), (er P ⟨#[95, 95, 102, 105, 114, 115, 116, 108, 105, 110, 101, 110, 111, 95, 95]⟩ 2811 (i 1205 2810)), (e P "__init__" 2821 (r 1692)), (er P ⟨#[95, 95, 115, 116, 97, 116, 105, 99, 95, 97, 116, 116, 114, 105, 98, 117, 116, 101, 115, 95, 95]⟩ 2823 (r 1693)), (er P ⟨#[95, 95, 99, 108, 97, 115, 115, 99, 101, 108, 108, 95, 95]⟩ 2824 (r 1680))] 6)),
  (o (t "cell") (.cell (some (r 1695)))),
  (o (t "tuple") (.seq #[] 0)),
  (o .none (.fields #[(i 1207 0), (i 4 0), (r 1691)])),
  (o (t "code") (.fields #[(s "EncodingError" 2802), (s "EncodingError" 2803), (s "/claim/cut.py" 2804), (i 1205 0), (i 0 0), (i 0 0), (i 0 0), (i 0 0), (r 1681), (.bool false), (i 313 0), (r 1682), .none, .none, .none, .none, (i 2805 0), (i 1205 0), (s "/claim/cut.py" 2806)])),
  (oo (t "frame") none .plain #[(some (r 1683)), (some (r 3)), (some (r 1679)), none, (some (s "rlp.exceptions" 2778)), none, (some (r 0))]),
  (o (t "tuple") (.seq #[(r 1680)] 0)),
  (o (t "tuple") (.seq #[(s "__class__" 2815)] 0)),
  (o .none (.fields #[])),
  (o (t "tuple") (.seq #[(s "self" 2816), (s "message" 2817), (s "obj" 2818)] 0)),
  (o (t "tuple") (.seq #[] 0)),
  (o .none (fn (m (d 191) 0) "__init__" "EncodingError.__init__" 0 [] .none .none .none .none none .none .none 0)),
  (o (t "code") (.fields #[(s "__init__" 2812), (s "EncodingError.__init__" 2813), (s "/claim/cut.py" 2814), (i 1207 0), (i 3 0), (i 0 0), (i 0 0), (i 3 0), (r 1686), (.bool true), (i 313 0), (r 1687), .none, (r 1688), (r 1689), (r 1690), (i 2819 0), (i 1207 0), (s "/claim/cut.py" 2820)])),
  (o (t "function") (fn (m (d 191) 0) "__init__" "EncodingError.__init__" 3 [(n "__class__", 1680)] .none .none .none (s "rlp.exceptions" 2778) none (r 1691) (r 1685) 0)),
  (o (t "tuple") (.seq #[(s "obj" 2822)] 0)),
  (o (t "dict") (.dict #[(er P ⟨#[95, 95, 109, 111, 100, 117, 108, 101, 95, 95]⟩ 2807 (s "rlp.exceptions" 2778)), (er P ⟨#[95, 95, 102, 105, 114, 115, 116, 108, 105, 110, 101, 110, 111, 95, 95]⟩ 2811 (i 1205 2810)), (e P "__init__" 2821 (r 1692)), (er P ⟨#[95, 95, 115, 116, 97, 116, 105, 99, 95, 97, 116, 116, 114, 105, 98, 117, 116, 101, 115, 95, 95]⟩ 2823 (r 1693)), (er P ⟨#[95, 95, 100, 111, 99, 95, 95]⟩ 2825 .none)] 3)),
  (oo (t "type") none (.cls ⟨n "EncodingError", [(r 1673)], [(r 1695), (r 1673), (t "Exception"), (t "BaseException"), (t "object")], 1694, n "EncodingError", true, [], [], false, none, false⟩) #[(some (r 1677)), none, (some (s "EncodingError" 2800)), (some (s "EncodingError" 2808)), (some (b "Exception.__new__")), (some (.bool true))]),
  (o (t "super") (.fields #[(r 1695), (r 1695), (r 1695)])),
  (o (t "builtin_function_or_method") (.fields #[(b "object.__init_subclass__"), (r 1695)])),
  (o (t "tuple") (.seq #[(r 1673)] 0)),
  (o (t "builtin_function_or_method") (.fields #[(b "type.__prepare__"), (t "type")])),
  (o (t "dict") (.dict #[(er P ⟨#[95, 95, 109, 111, 100, 117, 108, 101, 95, 95]⟩ 2835 (s "rlp.exceptions" 2778)), (er P ⟨#[95, 95, 113, 117, 97, 108, 110, 97, 109, 101, 95, 95]⟩ 2837 (s "DecodingError" 2836)), (er P ⟨#[95, 95, 102, 105, 114, 115, 116, 108, 105, 110, 101, 110, 111, 95, 95]⟩ 2839 (i 1210 2838)), (e P "__init__" 2849 (r 1713)), (er P ⟨#[95, 95, 115, 116, 97, 116, 105, 99, 95, 97, 116, 116, 114, 105, 98, 117, 116, 101, 115, 95, 95]⟩ 2851 (r 1714)), (er P ⟨#[95, 95, 99, 108, 97, 115, 115, 99, 101, 108, 108, 95, 95]⟩ 2852 (r 1701))] 6)),
  (o (t "cell") (.cell (some (r 1716)))),
  (o (t "tuple") (.seq #[] 0)),
  (o .none (.fields #[(i 1212 0), (i 4 0), (r 1712)])),
  (o (t "code") (.fields #[(s "DecodingError" 2830), (s "DecodingError" 2831), (s "/claim/cut.py" 2832), (i 1210 0), (i 0 0), (i 0 0), (i 0 0), (i 0 0), (r 1702), (.bool false), (i 313 0), (r 1703), .none, .none, .none, .none, (i 2833 0), (i 1210 0), (s "/claim/cut.py" 2834)])),
  (oo (t "frame") none .plain #[(some (r 1704)), (some (r 3)), (some (r 1700)), none, (some (s "rlp.exceptions" 2778)), none, (some (r 0))]),
  (o (t "tuple") (.seq #[(r 1701)] 0)),
  (o (t "tuple") (.seq #[(s "__class__" 2843)] 0)),
  (o .none (.fields #[])),
  (o (t "tuple") (.seq #[(s "self" 2844), (s "message" 2845), (s "rlp" 2846)] 0)),
  (o (t "tuple") (.seq #[] 0)),
  (o .none (fn (m (d 192) 0) "__init__" "DecodingError.__init__" 0 [] .none .none .none .none none .none .none 0)),
  (o (t "code") (.fields #[(s "__init__" 2840), (s "DecodingError.__init__" 2841), (s "/claim/cut.py" 2842), (i 1212 0), (i 3 0), (i 0 0), (i 0 0), (i 3 0), (r 1707), (.bool true), (i 313 0), (r 1708), .none, (r 1709), (r 1710), (r 1711), (i 2847 0), (i 1212 0), (s "/claim/cut.py" 2848)])),
  (o (t "function") (fn (m (d 192) 0) "__init__" "DecodingError.__init__" 3 [(n "__class__", 1701)] .none .none .none (s "rlp.exceptions" 2778) none (r 1712) (r 1706) 0)),
  (o (t "tuple") (.seq #[(s "rlp" 2850)] 0)),
  (o (t "dict") (.dict #[(er P ⟨#[95, 95, 109, 111, 100, 117, 108, 101, 95, 95]⟩ 2835 (s "rlp.exceptions" 2778)), (er P ⟨#[95, 95, 102, 105, 114, 115, 116, 108, 105, 110, 101, 110, 111, 95, 95]⟩ 2839 (i 1210 2838)), (e P "__init__" 2849 (r 1713)), (er P ⟨#[95, 95, 115, 116, 97, 116, 105, 99, 95, 97, 116, 116, 114, 105, 98, 117, 116, 101, 115, 95, 95]⟩ 2851 (r 1714)), (er P ⟨#[95, 95, 100, 111, 99, 95, 95]⟩ 2853 .none)] 3)),
  (oo (t "type") none (.cls ⟨n "DecodingError", [(r 1673)], [(r 1716), (r 1673), (t "Exception"), (t "BaseException"), (t "object")], 1715, n "DecodingError", true, [], [], false, none, false⟩) #[(some (r 1698)), none, (some (s "DecodingError" 2828)), (some (s "DecodingError" 2836)), (some (b "Exception.__new__")), (some (.bool true))]),
  (o (t "super") (.fields #[(r 1716), (r 1716), (r 1716)])),
  (o (t "builtin_function_or_method") (.fields #[(b "object.__init_subclass__"), (r 1716)])),
  (o (t "range") (.fields #[(i 0 2859), (i 256 2858), (i 1 2860)])),
  (o (t "range_iterator") (.fields #[(i 256 0), (i 0 0), (i 1 0)])),
  (o (t "tuple") (.seq #[] 0)),
  (o .none (.fields #[])),
  (o (t "code") (.fields #[(s "<genexpr>" 2861), (s "<genexpr>" 2862), (s "/claim/cut.py" 2863), (i 1216 0), (i 1 0), (i 0 0), (i 0 0), (i 35 0), (r 1721), (.bool true), (i 313 0), (r 1722), .none, .none, .none, .none, (i 2864 0), (i 1216 0), (s "/claim/cut.py" 2865)])),
  (o (t "frame") (.dict #[(e P ".0" 2866 (r 1720)), (e P "i" 2870 (i 255 3889))] 2)),
  (o (t "generator") (.fields #[(i 0 0), (s "<genexpr>" 2867), (s "<genexpr>" 2868)])),
  (o (t "list") (.seq #[(y [0] 2872), (y [1] 2876), (y [2] 2880), (y [3] 2884), (y [4] 2888), (y [5] 2892), (y [6] 2896), (y [7] 2900), (y [8] 2904), (y [9] 2908), (y [10] 2912), (y [11] 2916), (y [12] 2920), (y [13] 2924), (y [14] 2928), (y [15] 2932), (y [16] 2936), (y [17] 2940), (y [18] 2944), (y [19] 2948), (y [20] 2952), (y [21] 2956), (y [22] 2960), (y [23] 2964), (y [24] 2968), (y [25] 2972), (y [26] 2976), (y [27] 2980), (y [28] 2984), (y [29] 2988), (y [30] 2992), (y [31] 2996), (y [32] 3000), (y [33] 3004), (y [34] 3008), (y [35] 3012), (y [36] 3016), (y [37] 3020), (y [38] 3024), (y [39] 3028), (y [40] 3032), (y [41] 3036), (y [42] 3040), (y [43] 3044), (y [44] 3048), (y [45] 3052), (y [46] 3056), (y [47] 3060), (y [48] 3064), (y [49] 3068), (y [50] 3072), (y [51] 3076), (y [52] 3080), (y [53] 3084), (y [54] 3088), (y [55] 3092), (y [56] 3096), (y [57] 3100), (y [58] 3104), (y [59] 3108), (y [60] 3112), (y [61] 3116), (y [62] 3120), (y [63] 3124), (y [64] 3128), (y [65] 3132), (y [66] 3136), (y [67] 3140), (y [68] 3144), (y [69] 3148), (y [70] 3152), (y [71] 3156), (y [72] 3160), (y [73] 3164), (y [74] 3168), (y [75] 3172), (y [76] 3176), (y [77] 3180), (y [78] 3184), (y [79] 3188), (y [80] 3192), (y [81] 3196), (y [82] 3200), (y [83] 3204), (y [84] 3208), (y [85] 3212), (y [86] 3216), (y [87] 3220), (y [88] 3224), (y [89] 3228), (y [90] 3232), (y [91] 3236), (y [92] 3240), (y [93] 3244), (y [94] 3248), (y [95] 3252), (y [96] 3256), (y [97] 3260), (y [98] 3264), (y [99] 3268), (y [100] 3272), (y [101] 3276), (y [102] 3280), (y [103] 3284), (y [104] 3288), (y [105] 3292), (y [106] 3296), (y [107] 3300), (y [108] 3304), (y [109] 3308), (y [110] 3312), (y [111] 3316), (y [112] 3320), (y [113] 3324), (y [114] 3328), (y [115] 3332), (y [116] 3336), (y [117] 3340), (y [118] 3344), (y [119] 3348), (y [120] 3352), (y [121] 3356), (y [122] 3360), (y [123] 3364), (y [124] 3368), (y [125] 3372), (y [126] 3376), (y [127] 3380), (y [128] 3384), (y [129] 3388), (y [130] 3392), (y [131] 3396), (y [132] 3400), (y [133] 3404), (y [134] 3408), (y [135] 3412), (y [136] 3416), (y [137] 3420), (y [138] 3424), (y [139] 3428), (y [140] 3432), (y [141] 3436), (y [142] 3440), (y [143] 3444), (y [144] 3448), (y [145] 3452), (y [146] 3456), (y [147] 3460), (y [148] 3464), (y [149] 3468), (y [150] 3472), (y [151] 3476), (y [152] 3480), (y [153] 3484), (y [154] 3488), (y [155] 3492), (y [156] 3496), (y [157] 3500), (y [158] 3504), (y [159] 3508), (y [160] 3512), (y [161] 3516), (y [162] 3520), (y [163] 3524), (y [164] 3528), (y [165] 3532), (y [166] 3536), (y [167] 3540), (y [168] 3544), (y [169] 3548), (y [170] 3552), (y [171] 3556), (y [172] 3560), (y [173] 3564), (y [174] 3568), (y [175] 3572), (y [176] 3576), (y [177] 3580), (y [178] 3584), (y [179] 3588), (y [180] 3592), (y [181] 3596), (y [182] 3600), (y [183] 3604), (y [184] 3608), (y [185] 3612), (y [186] 3616), (y [187] 3620), (y [188] 3624), (y [189] 3628), (y [190] 3632), (y [191] 3636), (y [192] 3640), (y [193] 3644), (y [194] 3648), (y [195] 3652), (y [196] 3656), (y [197] 3660), (y [198] 3664), (y [199] 3668), (y [200] 3672), (y [201] 3676), (y [202] 3680), (y [203] 3684), (y [204] 3688), (y [205] 3692), (y [206] 3696), (y [207] 3700), (y [208] 3704), (y [209] 3708), (y [210] 3712), (y [211] 3716), (y [212] 3720), (y [213] 3724), (y [214] 3728), (y [215] 3732), (y [216] 3736), (y [217] 3740), (y [218] 3744), (y [219] 3748), (y [220] 3752), (y [221] 3756), (y [222] 3760), (y [223] 3764), (y [224] 3768), (y [225] 3772), (y [226] 3776), (y [227] 3780), (y [228] 3784), (y [229] 3788), (y [230] 3792), (y [231] 3796), (y [232] 3800), (y [233] 3804), (y [234] 3808), (y [235] 3812), (y [236] 3816), (y [237] 3820), (y [238] 3824), (y [239] 3828), (y [240] 3832), (y [241] 3836), (y [242] 3840), (y [243] 3844), (y [244] 3848), (y [245] 3852), (y [246] 3856), (y [247] 3860), (y [248] 3864), (y [249] 3868), (y [250] 3872), (y [251] 3876), (y [252] 3880), (y [253] 3884), (y [254] 3888), (y [255] 3892)] 258)),
  (o (t "tuple") (.seq #[] 0))]
def C27 (P : Params) : List Obj := [
  (o (t "StopIteration") (.fields #[(r 1727), .none, .none, .none, (.bool false), .none])),
  (o (t "tuple") (.seq #[] 0)),
  (o (t "StopIteration") (.fields #[(r 1729), .none, .none, .none, (.bool false), .none])),
  (o (t "tuple") (.seq #[(y [0] 2872), (y [1] 2876), (y [2] 2880), (y [3] 2884), (y [4] 2888), (y [5] 2892), (y [6] 2896), (y [7] 2900), (y [8] 2904), (y [9] 2908), (y [10] 2912), (y [11] 2916), (y [12] 2920), (y [13] 2924), (y [14] 2928), (y [15] 2932), (y [16] 2936), (y [17] 2940), (y [18] 2944), (y [19] 2948), (y [20] 2952), (y [21] 2956), (y [22] 2960), (y [23] 2964), (y [24] 2968), (y [25] 2972), (y [26] 2976), (y [27] 2980), (y [28] 2984), (y [29] 2988), (y [30] 2992), (y [31] 2996), (y [32] 3000), (y [33] 3004), (y [34] 3008), (y [35] 3012), (y [36] 3016), (y [37] 3020), (y [38] 3024), (y [39] 3028), (y [40] 3032), (y [41] 3036), (y [42] 3040), (y [43] 3044), (y [44] 3048), (y [45] 3052), (y [46] 3056), (y [47] 3060), (y [48] 3064), (y [49] 3068), (y [50] 3072), (y [51] 3076), (y [52] 3080), (y [53] 3084), (y [54] 3088), (y [55] 3092), (y [56] 3096), (y [57] 3100), (y [58] 3104), (y [59] 3108), (y [60] 3112), (y [61] 3116), (y [62] 3120), (y [63] 3124), (y [64] 3128), (y [65] 3132), (y [66] 3136), (y [67] 3140), (y [68] 3144), (y [69] 3148), (y [70] 3152), (y [71] 3156), (y [72] 3160), (y [73] 3164), (y [74] 3168), (y [75] 3172), (y [76] 3176), (y [77] 3180), (y [78] 3184), (y [79] 3188), (y [80] 3192), (y [81] 3196), (y [82] 3200), (y [83] 3204), (y [84] 3208), (y [85] 3212), (y [86] 3216), (y [87] 3220), (y [88] 3224), (y [89] 3228), (y [90] 3232), (y [91] 3236), (y [92] 3240), (y [93] 3244), (y [94] 3248), (y [95] 3252), (y [96] 3256), (y [97] 3260), (y [98] 3264), (y [99] 3268), (y [100] 3272), (y [101] 3276), (y [102] 3280), (y [103] 3284), (y [104] 3288), (y [105] 3292), (y [106] 3296), (y [107] 3300), (y [108] 3304), (y [109] 3308), (y [110] 3312), (y [111] 3316), (y [112] 3320), (y [113] 3324), (y [114] 3328), (y [115] 3332), (y [116] 3336), (y [117] 3340), (y [118] 3344), (y [119] 3348), (y [120] 3352), (y [121] 3356), (y [122] 3360), (y [123] 3364), (y [124] 3368), (y [125] 3372), (y [126] 3376), (y [127] 3380), (y [128] 3384), (y [129] 3388), (y [130] 3392), (y [131] 3396), (y [132] 3400), (y [133] 3404), (y [134] 3408), (y [135] 3412), (y [136] 3416), (y [137] 3420), (y [138] 3424), (y [139] 3428), (y [140] 3432), (y [141] 3436), (y [142] 3440), (y [143] 3444), (y [144] 3448), (y [145] 3452), (y [146] 3456), (y [147] 3460), (y [148] 3464), (y [149] 3468), (y [150] 3472), (y [151] 3476), (y [152] 3480), (y [153] 3484), (y [154] 3488), (y [155] 3492), (y [156] 3496), (y [157] 3500), (y [158] 3504), (y [159] 3508), (y [160] 3512), (y [161] 3516), (y [162] 3520), (y [163] 3524), (y [164] 3528), (y [165] 3532), (y [166] 3536), (y [167] 3540), (y [168] 3544), (y [169] 3548), (y [170] 3552), (y [171] 3556), (y [172] 3560), (y [173] 3564), (y [174] 3568), (y [175] 3572), (y [176] 3576), (y [177] 3580), (y [178] 3584), (y [179] 3588), (y [180] 3592), (y [181] 3596), (y [182] 3600), (y [183] 3604), (y [184] 3608), (y [185] 3612), (y [186] 3616), (y [187] 3620), (y [188] 3624), (y [189] 3628), (y [190] 3632), (y [191] 3636), (y [192] 3640), (y [193] 3644), (y [194] 3648), (y [195] 3652), (y [196] 3656), (y [197] 3660), (y [198] 3664), (y [199] 3668), (y [200] 3672), (y [201] 3676), (y [202] 3680), (y [203] 3684), (y [204] 3688), (y [205] 3692), (y [206] 3696), (y [207] 3700), (y [208] 3704), (y [209] 3708), (y [210] 3712), (y [211] 3716), (y [212] 3720), (y [213] 3724), (y [214] 3728), (y [215] 3732), (y [216] 3736), (y [217] 3740), (y [218] 3744), (y [219] 3748), (y [220] 3752), (y [221] 3756), (y [222] 3760), (y [223] 3764), (y [224] 3768), (y [225] 3772), (y [226] 3776), (y [227] 3780), (y [228] 3784), (y [229] 3788), (y [230] 3792), (y [231] 3796), (y [232] 3800), (y [233] 3804), (y [234] 3808), (y [235] 3812), (y [236] 3816), (y [237] 3820), (y [238] 3824), (y [239] 3828), (y [240] 3832), (y [241] 3836), (y [242] 3840), (y [243] 3844), (y [244] 3848), (y [245] 3852), (y [246] 3856), (y [247] 3860), (y [248] 3864), (y [249] 3868), (y [250] 3872), (y [251] 3876), (y [252] 3880), (y [253] 3884), (y [254] 3888), (y [255] 3892)] 0)),
  (o (t "tuple") (.seq #[(t "bytes"), (t "bytearray")] 0)),
  (o (t "tuple") (.seq #[] 0)),
  (o .none (.fields #[])),
  (o (t "tuple") (.seq #[(s "value" 3898)] 0)),
  (o (t "tuple") (.seq #[] 0)),
  (o .none (fn (d 196) "big_endian_to_int" "big_endian_to_int" 0 [] .none .none .none .none none .none .none 0)),
  (o (t "code") (.fields #[(s "big_endian_to_int" 3895), (s "big_endian_to_int" 3896), (s "/claim/cut.py" 3897), (i 1218 0), (i 1 0), (i 0 0), (i 0 0), (i 3 0), (r 1733), (.bool true), (i 313 0), (r 1734), .none, (r 1735), (r 1736), (r 1737), (i 3899 0), (i 1218 0), (s "/claim/cut.py" 3900)])),
  (o (t "function") (fn (d 196) "big_endian_to_int" "big_endian_to_int" 3 [] .none .none .none (s "rlp.utils" 2856) none (r 1738) .none 0)),
  (o (t "tuple") (.seq #[] 0)),
  (o .none (.fields #[])),
  (o (t "tuple") (.seq #[(s "value" 3905)] 0)),
  (o (t "tuple") (.seq #[] 0)),
  (o .none (fn (d 197) "int_to_big_endian" "int_to_big_endian" 0 [] .none .none .none .none none .none .none 0)),
  (o (t "code") (.fields #[(s "int_to_big_endian" 3902), (s "int_to_big_endian" 3903), (s "/claim/cut.py" 3904), (i 1220 0), (i 1 0), (i 0 0), (i 0 0), (i 3 0), (r 1740), (.bool true), (i 313 0), (r 1741), .none, (r 1742), (r 1743), (r 1744), (i 3906 0), (i 1220 0), (s "/claim/cut.py" 3907)])),
  (o (t "function") (fn (d 197) "int_to_big_endian" "int_to_big_endian" 3 [] .none .none .none (s "rlp.utils" 2856) none (r 1745) .none 0)),
  (o (t "tuple") (.seq #[] 0)),
  (o .none (.fields #[])),
  (o (t "tuple") (.seq #[(s "item" 3914), (s "payload" 3915), (s "prefix_offset" 3916), (s "msg" 3917), (s "prefix" 3918)] 0)),
  (o (t "tuple") (.seq #[] 0)),
  (o .none (fn (d 199) "encode_raw" "encode_raw" 0 [] .none .none .none .none none .none .none 0)),
  (o (t "code") (.fields #[(s "encode_raw" 3911), (s "encode_raw" 3912), (s "/claim/cut.py" 3913), (i 1223 0), (i 1 0), (i 0 0), (i 0 0), (i 3 0), (r 1747), (.bool true), (i 313 0), (r 1748), .none, (r 1749), (r 1750), (r 1751), (i 3919 0), (i 1223 0), (s "/claim/cut.py" 3920)])),
  (o (t "function") (fn (d 199) "encode_raw" "encode_raw" 3 [] .none .none .none (s "rlp.codec" 3909) none (r 1752) .none 0)),
  (o (t "tuple") (.seq #[] 0)),
  (o .none (.fields #[])),
  (o (t "tuple") (.seq #[(s "length" 3929), (s "offset" 3930), (s "length_string" 3931)] 0)),
  (o (t "tuple") (.seq #[] 0)),
  (o .none (fn (d 201) "length_prefix" "length_prefix" 0 [] .none .none .none .none none .none .none 0)),
  (o (t "code") (.fields #[(s "length_prefix" 3926), (s "length_prefix" 3927), (s "/claim/cut.py" 3928), (i 1241 0), (i 2 0), (i 0 0), (i 0 0), (i 3 0), (r 1754), (.bool true), (i 313 0), (r 1755), .none, (r 1756), (r 1757), (r 1758), (i 3932 0), (i 1241 0), (s "/claim/cut.py" 3933)])),
  (o (t "function") (fn (d 201) "length_prefix" "length_prefix" 3 [] .none .none .none (s "rlp.codec" 3909) none (r 1759) .none 0)),
  (o (t "tuple") (.seq #[] 0)),
  (o .none (.fields #[])),
  (o (t "tuple") (.seq #[(s "rlp" 3942), (s "start" 3943), (s "b0" 3944), (s "ll" 3945), (s "len_prefix" 3946), (s "l" 3947)] 0)),
  (o (t "tuple") (.seq #[] 0)),
  (o .none (fn (d 203) "consume_length_prefix" "consume_length_prefix" 0 [] .none .none .none .none none .none .none 0)),
  (o (t "code") (.fields #[(s "consume_length_prefix" 3939), (s "consume_length_prefix" 3940), (s "/claim/cut.py" 3941), (i 1250 0), (i 2 0), (i 0 0), (i 0 0), (i 3 0), (r 1761), (.bool true), (i 313 0), (r 1762), .none, (r 1763), (r 1764), (r 1765), (i 3948 0), (i 1250 0), (s "/claim/cut.py" 3949)])),
  (o (t "function") (fn (d 203) "consume_length_prefix" "consume_length_prefix" 3 [] .none .none .none (s "rlp.codec" 3909) none (r 1766) .none 0)),
  (o (t "tuple") (.seq #[] 0)),
  (o .none (.fields #[])),
  (o (t "tuple") (.seq #[(s "rlp" 3954), (s "prefix" 3955), (s "start" 3956), (s "type_" 3957), (s "length" 3958), (s "item" 3959), (s "items" 3960), (s "per_item_rlp" 3961), (s "list_rlp" 3962), (s "next_item_start" 3963), (s "end" 3964), (s "p" 3965), (s "t" 3966), (s "l" 3967), (s "s" 3968), (s "item_rlp" 3969)] 0)),
  (o (t "tuple") (.seq #[] 0)),
  (o .none (fn (d 204) "consume_payload" "consume_payload" 0 [] .none .none .none .none none .none .none 0)),
  (o (t "code") (.fields #[(s "consume_payload" 3951), (s "consume_payload" 3952), (s "/claim/cut.py" 3953), (i 1278 0), (i 5 0), (i 0 0), (i 0 0), (i 3 0), (r 1768), (.bool true), (i 313 0), (r 1769), .none, (r 1770), (r 1771), (r 1772), (i 3970 0), (i 1278 0), (s "/claim/cut.py" 3971)])),
  (o (t "function") (fn (d 204) "consume_payload" "consume_payload" 3 [] .none .none .none (s "rlp.codec" 3909) none (r 1773) .none 0)),
  (o (t "tuple") (.seq #[] 0)),
  (o .none (.fields #[])),
  (o (t "tuple") (.seq #[(s "rlp" 3976), (s "start" 3977), (s "p" 3978), (s "t" 3979), (s "l" 3980), (s "s" 3981)] 0)),
  (o (t "tuple") (.seq #[] 0)),
  (o .none (fn (d 205) "consume_item" "consume_item" 0 [] .none .none .none .none none .none .none 0)),
  (o (t "code") (.fields #[(s "consume_item" 3973), (s "consume_item" 3974), (s "/claim/cut.py" 3975), (i 1300 0), (i 2 0), (i 0 0), (i 0 0), (i 3 0), (r 1775), (.bool true), (i 313 0), (r 1776), .none, (r 1777), (r 1778), (r 1779), (i 3982 0), (i 1300 0), (s "/claim/cut.py" 3983)])),
  (o (t "function") (fn (d 205) "consume_item" "consume_item" 3 [] .none .none .none (s "rlp.codec" 3909) none (r 1780) .none 0)),
  (o (t "tuple") (.seq #[] 0)),
  (o .none (.fields #[])),
  (o (t "tuple") (.seq #[(s "script" 3990), (s "k" 3991), (s "other" 3992)] 0)),
  (o (t "tuple") (.seq #[] 0)),
  (o .none (fn (d 207) "_law_at" "_law_at" 0 [] .none .none .none .none none .none .none 0)),
  (o (t "code") (.fields #[(s "_law_at" 3987), (s "_law_at" 3988), (s "/claim/cut.py" 3989), (i 1304 0), (i 3 0), (i 0 0), (i 0 0), (i 3 0), (r 1782), (.bool true), (i 313 0), (r 1783), .none, (r 1784), (r 1785), (r 1786), (i 3993 0), (i 1304 0), (s "/claim/cut.py" 3994)])),
  (o (t "function") (fn (d 207) "_law_at" "_law_at" 3 [] .none .none .none (s "law_vn0017_01" 3985) none (r 1787) .none 0)),
  (o (t "tuple") (.seq #[] 0)),
  (o .none (.fields #[])),
  (o (t "tuple") (.seq #[(s "maker" 3999), (s "octets" 4000)] 0))]
def C28 (P : Params) : List Obj := [
  (o (t "tuple") (.seq #[] 0)),
  (o .none (fn (d 208) "_law_piece" "_law_piece" 0 [] .none .none .none .none none .none .none 0)),
  (o (t "code") (.fields #[(s "_law_piece" 3996), (s "_law_piece" 3997), (s "/claim/cut.py" 3998), (i 1306 0), (i 2 0), (i 0 0), (i 0 0), (i 3 0), (r 1789), (.bool true), (i 313 0), (r 1790), .none, (r 1791), (r 1792), (r 1793), (i 4001 0), (i 1306 0), (s "/claim/cut.py" 4002)])),
  (o (t "function") (fn (d 208) "_law_piece" "_law_piece" 3 [] .none .none .none (s "law_vn0017_01" 3985) none (r 1794) .none 0)),
  (o (t "tuple") (.seq #[] 0)),
  (o .none (.fields #[])),
  (o (t "tuple") (.seq #[(s "maker" 4007), (s "octets" 4008), (s "place" 4009), (s "told" 4010), (s "tag" 4011), (s "size" 4012)] 0)),
  (o (t "tuple") (.seq #[] 0)),
  (o .none (fn (d 209) "_law_ends" "_law_ends" 0 [] .none .none .none .none none .none .none 0)),
  (o (t "code") (.fields #[(s "_law_ends" 4004), (s "_law_ends" 4005), (s "/claim/cut.py" 4006), (i 1314 0), (i 3 0), (i 0 0), (i 0 0), (i 3 0), (r 1796), (.bool true), (i 313 0), (r 1797), .none, (r 1798), (r 1799), (r 1800), (i 4013 0), (i 1314 0), (s "/claim/cut.py" 4014)])),
  (o (t "function") (fn (d 209) "_law_ends" "_law_ends" 3 [] .none .none .none (s "law_vn0017_01" 3985) none (r 1801) .none 0)),
  (o (t "tuple") (.seq #[] 0)),
  (o .none (.fields #[])),
  (o (t "tuple") (.seq #[(s "maker" 4019), (s "octets" 4020), (s "told" 4021), (s "tag" 4022), (s "place" 4023), (s "size" 4024)] 0)),
  (o (t "tuple") (.seq #[] 0)),
  (o .none (fn (d 210) "_law_inside" "_law_inside" 0 [] .none .none .none .none none .none .none 0)),
  (o (t "code") (.fields #[(s "_law_inside" 4016), (s "_law_inside" 4017), (s "/claim/cut.py" 4018), (i 1325 0), (i 2 0), (i 0 0), (i 0 0), (i 3 0), (r 1803), (.bool true), (i 313 0), (r 1804), .none, (r 1805), (r 1806), (r 1807), (i 4025 0), (i 1325 0), (s "/claim/cut.py" 4026)])),
  (o (t "function") (fn (d 210) "_law_inside" "_law_inside" 3 [] .none .none .none (s "law_vn0017_01" 3985) none (r 1808) .none 0)),
  (o (t "tuple") (.seq #[] 0)),
  (o .none (.fields #[])),
  (o .none (fn (d 211) "law" "law" 0 [] .none .none .none .none none .none .none 0)),
  (o (t "code") (.fields #[(s "law" 4028), (s "law" 4029), (s "/claim/cut.py" 4030), (i 1339 0), (i 1 0), (i 0 0), (i 0 0), (i 3 0), (r 1810), (.bool true), (i 313 0), (r 1811), .none, .none, .none, (r 1812), (i 4031 0), (i 1339 0), (s "/claim/cut.py" 4032)])),
  (o (t "function") (fn (d 211) "law" "law" 3 [] .none .none .none (s "law_vn0017_01" 3985) none (r 1813) .none 0))]
def AllC (P : Params) : List Obj := C0 P ++ (C1 P ++ (C2 P ++ (C3 P ++ (C4 P ++ (C5 P ++ (C6 P ++ (C7 P ++ (C8 P ++ (C9 P ++ (C10 P ++ (C11 P ++ (C12 P ++ (C13 P ++ (C14 P ++ (C15 P ++ (C16 P ++ (C17 P ++ (C18 P ++ (C19 P ++ (C20 P ++ (C21 P ++ (C22 P ++ (C23 P ++ (C24 P ++ (C25 P ++ (C26 P ++ (C27 P ++ (C28 P))))))))))))))))))))))))))))
def V0x2 (P : Params) : List DictEntry := [(er P ⟨#[105, 109, 112, 111, 114, 116, 46, 108, 111, 97, 100, 101, 100, 46, 95, 115, 116, 114, 117, 99, 116]⟩ 185 (.bool true)), (er P ⟨#[99, 108, 97, 115, 115, 46, 95, 102, 114, 111, 122, 101, 110, 95, 105, 109, 112, 111, 114, 116, 108, 105, 98, 95, 101, 120, 116, 101, 114, 110, 97, 108, 46, 95, 76, 111, 97, 100, 101, 114, 66, 97, 115, 105, 99, 115]⟩ 190 (r 16)), (er P ⟨#[119, 97, 116, 99, 104, 101, 100, 46, 105, 109, 112, 111, 114, 116]⟩ 206 (r 20)), (er P ⟨#[99, 108, 97, 115, 115, 46, 95, 102, 114, 111, 122, 101, 110, 95, 105, 109, 112, 111, 114, 116, 108, 105, 98, 95, 101, 120, 116, 101, 114, 110, 97, 108, 46, 70, 105, 108, 101, 76, 111, 97, 100, 101, 114]⟩ 207 (r 22)), (er P ⟨#[99, 108, 97, 115, 115, 46, 95, 102, 114, 111, 122, 101, 110, 95, 105, 109, 112, 111, 114, 116, 108, 105, 98, 95, 101, 120, 116, 101, 114, 110, 97, 108, 46, 69, 120, 116, 101, 110, 115, 105, 111, 110, 70, 105, 108, 101, 76, 111, 97, 100, 101, 114]⟩ 228 (r 27)), (er P ⟨#[99, 108, 97, 115, 115, 46, 95, 102, 114, 111, 122, 101, 110, 95, 105, 109, 112, 111, 114, 116, 108, 105, 98, 46, 77, 111, 100, 117, 108, 101, 83, 112, 101, 99]⟩ 256 (r 33)), (er P ⟨#[115, 121, 115, 46, 109, 111, 100, 117, 108, 101, 115, 46, 98, 111, 111, 107, 101, 100, 45, 101, 112, 111, 99, 104]⟩ 285 (i 3 0)), (er P ⟨#[99, 108, 97, 115, 115, 46, 115, 116, 114, 117, 99, 116, 46, 101, 114, 114, 111, 114]⟩ 302 (t "struct.error")), (er P ⟨#[105, 109, 112, 111, 114, 116, 46, 108, 97, 116, 101, 114, 45, 108, 97, 105, 100, 46, 95, 115, 116, 114, 117, 99, 116]⟩ 304 (.bool true)), (er P ⟨#[119, 97, 116, 99, 104, 101, 100, 46, 108, 105, 98, 114, 97, 114, 121]⟩ 306 (r 38)), (er P ⟨#[119, 97, 116, 99, 104, 101, 100, 46, 108, 105, 98, 114, 97, 114, 121, 45, 111, 98, 106, 101, 99, 116, 115]⟩ 0 (.str ⟨#[13]⟩ 0))]
def V0x3 (P : Params) : List DictEntry := [(er P ⟨#[95, 95, 110, 97, 109, 101, 95, 95]⟩ 165 (.str ⟨#[95, 95, 109, 97, 105, 110, 95, 95]⟩ 164)), (er P ⟨#[95, 95, 100, 111, 99, 95, 95]⟩ 166 .none), (er P ⟨#[95, 95, 112, 97, 99, 107, 97, 103, 101, 95, 95]⟩ 167 .none), (er P ⟨#[95, 95, 108, 111, 97, 100, 101, 114, 95, 95]⟩ 168 (b "__main__.__loader__#opaque")), (er P ⟨#[95, 95, 115, 112, 101, 99, 95, 95]⟩ 169 .none), (er P ⟨#[95, 95, 97, 110, 110, 111, 116, 97, 116, 105, 111, 110, 115, 95, 95]⟩ 170 (r 6)), (er P ⟨#[95, 95, 98, 117, 105, 108, 116, 105, 110, 115, 95, 95]⟩ 171 (r 4)), (er P ⟨#[95, 95, 102, 105, 108, 101, 95, 95]⟩ 173 (.str ⟨#[47, 99, 108, 97, 105, 109, 47, 99, 117, 116, 46, 112, 121]⟩ 172)), (er P ⟨#[95, 95, 99, 97, 99, 104, 101, 100, 95, 95]⟩ 174 .none), (er P ⟨#[112, 97, 99, 107]⟩ 312 (b "_struct.pack"))]
def V0x40 (_ : Params) : List Value := []
def L0 (P : Params) : List Obj := put (put (put ((AllC P).take 43) 2 (oo .none none (.dict (V0x2 P).toArray 11) #[])) 3 (oo (t "dict") none (.dict (V0x3 P).toArray 10) #[])) 40 (oo .none none (.fields (V0x40 P).toArray) #[])
def S0 (w : World) (os : OsState) : SharedT := ⟨bt 12 (L0 w.params), 43, {}, #[], {}, 319, os⟩
def V1x2 (P : Params) : List DictEntry := V0x2 P ++ [(e P "type.__subclasses__.Exception.0" 344 (i 59 0)), (e P "type.__subclasses__.Exception.n" 345 (i 1 0))]
def V1x3 (P : Params) : List DictEntry := [(er P ⟨#[95, 95, 110, 97, 109, 101, 95, 95]⟩ 165 (s "bson.binary" 583)), (er P ⟨#[95, 95, 100, 111, 99, 95, 95]⟩ 166 .none), (er P ⟨#[95, 95, 112, 97, 99, 107, 97, 103, 101, 95, 95]⟩ 167 .none), (er P ⟨#[95, 95, 108, 111, 97, 100, 101, 114, 95, 95]⟩ 168 (b "__main__.__loader__#opaque")), (er P ⟨#[95, 95, 115, 112, 101, 99, 95, 95]⟩ 169 .none), (er P ⟨#[95, 95, 97, 110, 110, 111, 116, 97, 116, 105, 111, 110, 115, 95, 95]⟩ 170 (r 6)), (er P ⟨#[95, 95, 98, 117, 105, 108, 116, 105, 110, 115, 95, 95]⟩ 171 (r 4)), (er P ⟨#[95, 95, 102, 105, 108, 101, 95, 95]⟩ 173 (.str ⟨#[47, 99, 108, 97, 105, 109, 47, 99, 117, 116, 46, 112, 121]⟩ 172)), (er P ⟨#[95, 95, 99, 97, 99, 104, 101, 100, 95, 95]⟩ 174 .none), (er P ⟨#[112, 97, 99, 107]⟩ 312 (b "_struct.pack")), (e P "_wall" 325 (r 49)), (e P "Error" 347 (r 59)), (e P "DecodeError" 363 (r 72)), (e P "EncodeError" 379 (r 84)), (e P "TAG_TYPE_BITS" 381 (i 3 380)), (e P "_WIRETYPE_MAX" 383 (i 5 382)), (e P "PackTag" 391 (r 93)), (e P "_VarintDecoder" 402 (r 100)), (e P "_DecodeVarint" 410 (r 107)), (e P "ReadTag" 420 (r 114)), (e P "byte_cls" 423 (t "bytes")), (e P "chr_cls" 430 (r 121)), (e P "type_name" 437 (r 128)), (e P "int_to_bytes" 449 (r 136)), (e P "int_from_bytes" 457 (r 144)), (e P "_PY2" 460 (.bool false)), (e P "_INSUFFICIENT_DATA_MESSAGE" 462 (s "Insufficient data - %s bytes requested but only %s available" 461)), (e P "_MAX_DEPTH" 464 (i 10 463)), (e P "emit" 474 (r 151)), (e P "parse" 485 (r 159)), (e P "peek" 494 (r 166)), (e P "_parse" 517 (r 174)), (e P "_dump_header" 532 (r 181)), (e P "UUID" 575 (r 206)), (e P "_turned" 582 (r 217)), (e P "BINARY_SUBTYPE" 586 (i 0 585)), (e P "OLD_UUID_SUBTYPE" 588 (i 3 587)), (e P "UUID_SUBTYPE" 590 (i 4 589)), (e P "UuidRepresentation" 623 (r 227)), (e P "STANDARD" 625 (i 4 589)), (e P "ALL_UUID_SUBTYPES" 626 (r 232)), (e P "ALL_UUID_REPRESENTATIONS" 632 (r 233))]
def V1x40 (P : Params) : List Value := V0x40 P ++ [(i 2 0), (i 0 0), (r 48), (i 6 0), (i 0 0), (r 55), (i 8 0), (i 0 0), (r 68), (i 10 0), (i 0 0), (r 80), (i 14 0), (i 0 0), (r 92), (i 19 0), (i 0 0), (r 99), (i 35 0), (i 0 0), (r 106), (i 37 0), (i 0 0), (r 113), (i 46 0), (i 0 0), (r 120), (i 48 0), (i 0 0), (r 127), (i 51 0), (i 0 0), (r 135), (i 64 0), (i 0 0), (r 143), (i 70 0), (i 0 0), (r 150), (i 86 0), (i 0 0), (r 158), (i 94 0), (i 0 0), (r 165), (i 99 0), (i 0 0), (r 173), (i 151 0), (i 0 0), (r 180), (i 175 0), (i 0 0), (r 187), (i 185 0), (i 0 0), (r 216), (i 191 0), (i 0 0), (r 223)]
def L1 (P : Params) : List Obj := put (put (put ((AllC P).take 234) 2 (oo .none none (.dict (V1x2 P).toArray 13) #[])) 3 (oo (t "dict") none (.dict (V1x3 P).toArray 42) #[])) 40 (oo .none none (.fields (V1x40 P).toArray) #[])
def S1 (w : World) (os : OsState) : SharedT := ⟨bt 12 (L1 w.params), 234, {}, #[], {}, 633, os⟩
def V2x2 (P : Params) : List DictEntry := V1x2 P ++ []
def V2x3 (P : Params) : List DictEntry := V1x3 P ++ [(e P "UUID_REPRESENTATION_NAMES" 648 (r 234))]
def V2x40 (P : Params) : List Value := V1x40 P ++ []
def L2 (P : Params) : List Obj := put (put (put ((AllC P).take 235) 2 (oo .none none (.dict (V2x2 P).toArray 13) #[])) 3 (oo (t "dict") none (.dict (V2x3 P).toArray 43) #[])) 40 (oo .none none (.fields (V2x40 P).toArray) #[])
def S2 (w : World) (os : OsState) : SharedT := ⟨bt 12 (L2 w.params), 235, {}, #[], {}, 649, os⟩
def V3x2 (P : Params) : List DictEntry := V2x2 P ++ []
def V3x3 (P : Params) : List DictEntry := [(er P ⟨#[95, 95, 110, 97, 109, 101, 95, 95]⟩ 165 (s "bson.dbref" 1025)), (er P ⟨#[95, 95, 100, 111, 99, 95, 95]⟩ 166 .none), (er P ⟨#[95, 95, 112, 97, 99, 107, 97, 103, 101, 95, 95]⟩ 167 .none), (er P ⟨#[95, 95, 108, 111, 97, 100, 101, 114, 95, 95]⟩ 168 (b "__main__.__loader__#opaque")), (er P ⟨#[95, 95, 115, 112, 101, 99, 95, 95]⟩ 169 .none), (er P ⟨#[95, 95, 97, 110, 110, 111, 116, 97, 116, 105, 111, 110, 115, 95, 95]⟩ 170 (r 6)), (er P ⟨#[95, 95, 98, 117, 105, 108, 116, 105, 110, 115, 95, 95]⟩ 171 (r 4)), (er P ⟨#[95, 95, 102, 105, 108, 101, 95, 95]⟩ 173 (.str ⟨#[47, 99, 108, 97, 105, 109, 47, 99, 117, 116, 46, 112, 121]⟩ 172)), (er P ⟨#[95, 95, 99, 97, 99, 104, 101, 100, 95, 95]⟩ 174 .none), (er P ⟨#[112, 97, 99, 107]⟩ 312 (b "_struct.pack")), (e P "_wall" 325 (r 49)), (e P "Error" 347 (r 59)), (e P "DecodeError" 363 (r 72)), (e P "EncodeError" 379 (r 84)), (e P "TAG_TYPE_BITS" 381 (i 3 380)), (e P "_WIRETYPE_MAX" 383 (i 5 382)), (e P "PackTag" 391 (r 93)), (e P "_VarintDecoder" 402 (r 100)), (e P "_DecodeVarint" 410 (r 107)), (e P "ReadTag" 420 (r 114)), (e P "byte_cls" 423 (t "bytes")), (e P "chr_cls" 430 (r 121)), (e P "type_name" 437 (r 128)), (e P "int_to_bytes" 449 (r 136)), (e P "int_from_bytes" 457 (r 144)), (e P "_PY2" 460 (.bool false)), (e P "_INSUFFICIENT_DATA_MESSAGE" 462 (s "Insufficient data - %s bytes requested but only %s available" 461)), (e P "_MAX_DEPTH" 464 (i 10 463)), (e P "emit" 474 (r 151)), (e P "parse" 485 (r 159)), (e P "peek" 494 (r 166)), (e P "_parse" 517 (r 174)), (e P "_dump_header" 532 (r 181)), (e P "UUID" 575 (r 206)), (e P "_turned" 582 (r 217)), (e P "BINARY_SUBTYPE" 586 (i 0 585)), (e P "OLD_UUID_SUBTYPE" 588 (i 3 587)), (e P "UUID_SUBTYPE" 590 (i 4 589)), (e P "UuidRepresentation" 623 (r 227)), (e P "STANDARD" 625 (i 4 589)), (e P "ALL_UUID_SUBTYPES" 626 (r 232)), (e P "ALL_UUID_REPRESENTATIONS" 632 (r 233)), (e P "UUID_REPRESENTATION_NAMES" 648 (r 234)), (e P "Binary" 770 (r 312)), (e P "Code" 831 (r 356)), (e P "TypeRegistry" 880 (r 394)), (e P "CodecOptions" 915 (r 416)), (e P "DEFAULT_CODEC_OPTIONS" 935 (r 422)), (e P "DatetimeMS" 1024 (r 494))]
def V3x40 (P : Params) : List Value := V2x40 P ++ [(i 206 0), (i 0 0), (r 240), (i 279 0), (i 0 0), (r 322), (i 315 0), (i 0 0), (r 366), (i 331 0), (i 0 0), (r 404), (i 346 0), (i 0 0), (r 434)]
def L3 (P : Params) : List Obj := put (put (put ((AllC P).take 499) 2 (oo .none none (.dict (V3x2 P).toArray 13) #[])) 3 (oo (t "dict") none (.dict (V3x3 P).toArray 49) #[])) 40 (oo .none none (.fields (V3x40 P).toArray) #[])
def S3 (w : World) (os : OsState) : SharedT := ⟨bt 12 (L3 w.params), 499, {}, #[], {}, 1027, os⟩
def V4x2 (P : Params) : List DictEntry := [(er P ⟨#[105, 109, 112, 111, 114, 116, 46, 108, 111, 97, 100, 101, 100, 46, 95, 115, 116, 114, 117, 99, 116]⟩ 185 (.bool true)), (er P ⟨#[99, 108, 97, 115, 115, 46, 95, 102, 114, 111, 122, 101, 110, 95, 105, 109, 112, 111, 114, 116, 108, 105, 98, 95, 101, 120, 116, 101, 114, 110, 97, 108, 46, 95, 76, 111, 97, 100, 101, 114, 66, 97, 115, 105, 99, 115]⟩ 190 (r 16)), (er P ⟨#[119, 97, 116, 99, 104, 101, 100, 46, 105, 109, 112, 111, 114, 116]⟩ 206 (r 20)), (er P ⟨#[99, 108, 97, 115, 115, 46, 95, 102, 114, 111, 122, 101, 110, 95, 105, 109, 112, 111, 114, 116, 108, 105, 98, 95, 101, 120, 116, 101, 114, 110, 97, 108, 46, 70, 105, 108, 101, 76, 111, 97, 100, 101, 114]⟩ 207 (r 22)), (er P ⟨#[99, 108, 97, 115, 115, 46, 95, 102, 114, 111, 122, 101, 110, 95, 105, 109, 112, 111, 114, 116, 108, 105, 98, 95, 101, 120, 116, 101, 114, 110, 97, 108, 46, 69, 120, 116, 101, 110, 115, 105, 111, 110, 70, 105, 108, 101, 76, 111, 97, 100, 101, 114]⟩ 228 (r 27)), (er P ⟨#[99, 108, 97, 115, 115, 46, 95, 102, 114, 111, 122, 101, 110, 95, 105, 109, 112, 111, 114, 116, 108, 105, 98, 46, 77, 111, 100, 117, 108, 101, 83, 112, 101, 99]⟩ 256 (r 33)), (er P ⟨#[115, 121, 115, 46, 109, 111, 100, 117, 108, 101, 115, 46, 98, 111, 111, 107, 101, 100, 45, 101, 112, 111, 99, 104]⟩ 285 (i 3 0)), (er P ⟨#[99, 108, 97, 115, 115, 46, 115, 116, 114, 117, 99, 116, 46, 101, 114, 114, 111, 114]⟩ 302 (t "struct.error")), (er P ⟨#[105, 109, 112, 111, 114, 116, 46, 108, 97, 116, 101, 114, 45, 108, 97, 105, 100, 46, 95, 115, 116, 114, 117, 99, 116]⟩ 304 (.bool true)), (er P ⟨#[119, 97, 116, 99, 104, 101, 100, 46, 108, 105, 98, 114, 97, 114, 121]⟩ 306 (r 38)), (er P ⟨#[119, 97, 116, 99, 104, 101, 100, 46, 108, 105, 98, 114, 97, 114, 121, 45, 111, 98, 106, 101, 99, 116, 115]⟩ 0 (.str ⟨#[13]⟩ 0)), (e P "type.__subclasses__.Exception.0" 344 (i 59 0)), (e P "type.__subclasses__.Exception.n" 345 (i 2 0)), (e P "type.__subclasses__.Exception.1" 1347 (i 723 0))]
def V4x3 (P : Params) : List DictEntry := [(er P ⟨#[95, 95, 110, 97, 109, 101, 95, 95]⟩ 165 (s "bson.errors" 1329)), (er P ⟨#[95, 95, 100, 111, 99, 95, 95]⟩ 166 .none), (er P ⟨#[95, 95, 112, 97, 99, 107, 97, 103, 101, 95, 95]⟩ 167 .none), (er P ⟨#[95, 95, 108, 111, 97, 100, 101, 114, 95, 95]⟩ 168 (b "__main__.__loader__#opaque")), (er P ⟨#[95, 95, 115, 112, 101, 99, 95, 95]⟩ 169 .none), (er P ⟨#[95, 95, 97, 110, 110, 111, 116, 97, 116, 105, 111, 110, 115, 95, 95]⟩ 170 (r 6)), (er P ⟨#[95, 95, 98, 117, 105, 108, 116, 105, 110, 115, 95, 95]⟩ 171 (r 4)), (er P ⟨#[95, 95, 102, 105, 108, 101, 95, 95]⟩ 173 (.str ⟨#[47, 99, 108, 97, 105, 109, 47, 99, 117, 116, 46, 112, 121]⟩ 172)), (er P ⟨#[95, 95, 99, 97, 99, 104, 101, 100, 95, 95]⟩ 174 .none), (er P ⟨#[112, 97, 99, 107]⟩ 312 (b "_struct.pack")), (e P "_wall" 325 (r 49)), (e P "Error" 347 (r 59)), (e P "DecodeError" 363 (r 72)), (e P "EncodeError" 379 (r 84)), (e P "TAG_TYPE_BITS" 381 (i 3 380)), (e P "_WIRETYPE_MAX" 383 (i 5 382)), (e P "PackTag" 391 (r 93)), (e P "_VarintDecoder" 402 (r 100)), (e P "_DecodeVarint" 410 (r 107)), (e P "ReadTag" 420 (r 114)), (e P "byte_cls" 423 (t "bytes")), (e P "chr_cls" 430 (r 121)), (e P "type_name" 437 (r 128)), (e P "int_to_bytes" 449 (r 136)), (e P "int_from_bytes" 457 (r 144)), (e P "_PY2" 460 (.bool false)), (e P "_INSUFFICIENT_DATA_MESSAGE" 462 (s "Insufficient data - %s bytes requested but only %s available" 461)), (e P "_MAX_DEPTH" 464 (i 10 463)), (e P "emit" 474 (r 151)), (e P "parse" 485 (r 159)), (e P "peek" 494 (r 166)), (e P "_parse" 517 (r 174)), (e P "_dump_header" 532 (r 181)), (e P "UUID" 575 (r 206)), (e P "_turned" 582 (r 217)), (e P "BINARY_SUBTYPE" 586 (i 0 585)), (e P "OLD_UUID_SUBTYPE" 588 (i 3 587)), (e P "UUID_SUBTYPE" 590 (i 4 589)), (e P "UuidRepresentation" 623 (r 227)), (e P "STANDARD" 625 (i 4 589)), (e P "ALL_UUID_SUBTYPES" 626 (r 232)), (e P "ALL_UUID_REPRESENTATIONS" 632 (r 233)), (e P "UUID_REPRESENTATION_NAMES" 648 (r 234)), (e P "Binary" 770 (r 312)), (e P "Code" 831 (r 356)), (e P "TypeRegistry" 880 (r 394)), (e P "CodecOptions" 915 (r 416)), (e P "DEFAULT_CODEC_OPTIONS" 935 (r 422)), (e P "DatetimeMS" 1024 (r 494)), (e P "DBRef" 1107 (r 554)), (e P "Decimal" 1184 (r 617)), (e P "_PACK_64" 1193 (r 628)), (e P "_UNPACK_64" 1200 (r 635)), (e P "_EXPONENT_MASK" 1204 (i 6917529027641081856 1203)), (e P "_EXPONENT_BIAS" 1206 (i 6176 1205)), (e P "_MAX_DIGITS" 1208 (i 34 1207)), (e P "_INF" 1210 (i 8646911284551352320 1209)), (e P "_NAN" 1212 (i 8935141660703064064 1211)), (e P "_SNAN" 1214 (i 9079256848778919936 1213)), (e P "_SIGN" 1216 (i 9223372036854775808 1215)), (e P "_NINF" 1219 (r 636)), (e P "_PINF" 1221 (r 637)), (e P "_NNAN" 1224 (r 638)), (e P "_PNAN" 1226 (r 639)), (e P "_NSNAN" 1229 (r 640)), (e P "_PSNAN" 1231 (r 641)), (e P "_check_fits" 1238 (r 648)), (e P "_decimal_to_128" 1244 (r 653)), (e P "Decimal128" 1328 (r 709)), (e P "BSONError" 1350 (r 723)), (e P "InvalidBSON" 1366 (r 736)), (e P "InvalidStringData" 1382 (r 748)), (e P "InvalidDocument" 1418 (r 778))]
def V4x40 (P : Params) : List Value := V3x40 P ++ [(i 382 0), (i 0 0), (r 504), (i 418 0), (i 0 0), (r 564), (i 443 0), (i 0 0), (r 627), (i 445 0), (i 0 0), (r 634), (i 460 0), (i 0 0), (r 647), (i 464 0), (i 0 0), (r 652), (i 495 0), (i 0 0), (r 659), (i 531 0), (i 0 0), (r 719), (i 533 0), (i 0 0), (r 732), (i 535 0), (i 0 0), (r 744), (i 537 0), (i 0 0), (r 757)]
def L4 (P : Params) : List Obj := put (put (put (put ((AllC P).take 781) 2 (oo .none none (.dict (V4x2 P).toArray 14) #[])) 3 (oo (t "dict") none (.dict (V4x3 P).toArray 73) #[])) 40 (oo .none none (.fields (V4x40 P).toArray) #[])) 723 (oo (t "type") none (.cls ⟨n "BSONError", [(t "Exception")], [(r 723), (t "Exception"), (t "BaseException"), (t "object")], 722, n "BSONError", true, [], [(r 736), (r 748), (r 778)], false, none, false⟩) #[(some (r 714)), none, (some (s "BSONError" 1331)), (some (s "BSONError" 1339)), (some (b "Exception.__new__")), (some (.bool true))])
def S4 (w : World) (os : OsState) : SharedT := ⟨bt 12 (L4 w.params), 781, {}, #[], {}, 1419, os⟩
def V5x2 (P : Params) : List DictEntry := V4x2 P ++ []
def V5x3 (P : Params) : List DictEntry := [(er P ⟨#[95, 95, 110, 97, 109, 101, 95, 95]⟩ 165 (s "bson.timestamp" 1857)), (er P ⟨#[95, 95, 100, 111, 99, 95, 95]⟩ 166 .none), (er P ⟨#[95, 95, 112, 97, 99, 107, 97, 103, 101, 95, 95]⟩ 167 .none), (er P ⟨#[95, 95, 108, 111, 97, 100, 101, 114, 95, 95]⟩ 168 (b "__main__.__loader__#opaque")), (er P ⟨#[95, 95, 115, 112, 101, 99, 95, 95]⟩ 169 .none), (er P ⟨#[95, 95, 97, 110, 110, 111, 116, 97, 116, 105, 111, 110, 115, 95, 95]⟩ 170 (r 6)), (er P ⟨#[95, 95, 98, 117, 105, 108, 116, 105, 110, 115, 95, 95]⟩ 171 (r 4)), (er P ⟨#[95, 95, 102, 105, 108, 101, 95, 95]⟩ 173 (.str ⟨#[47, 99, 108, 97, 105, 109, 47, 99, 117, 116, 46, 112, 121]⟩ 172)), (er P ⟨#[95, 95, 99, 97, 99, 104, 101, 100, 95, 95]⟩ 174 .none), (er P ⟨#[112, 97, 99, 107]⟩ 312 (b "_struct.pack")), (e P "_wall" 325 (r 49)), (e P "Error" 347 (r 59)), (e P "DecodeError" 363 (r 72)), (e P "EncodeError" 379 (r 84)), (e P "TAG_TYPE_BITS" 381 (i 3 380)), (e P "_WIRETYPE_MAX" 383 (i 5 382)), (e P "PackTag" 391 (r 93)), (e P "_VarintDecoder" 402 (r 100)), (e P "_DecodeVarint" 410 (r 107)), (e P "ReadTag" 420 (r 114)), (e P "byte_cls" 423 (t "bytes")), (e P "chr_cls" 430 (r 121)), (e P "type_name" 437 (r 128)), (e P "int_to_bytes" 449 (r 136)), (e P "int_from_bytes" 457 (r 144)), (e P "_PY2" 460 (.bool false)), (e P "_INSUFFICIENT_DATA_MESSAGE" 462 (s "Insufficient data - %s bytes requested but only %s available" 461)), (e P "_MAX_DEPTH" 464 (i 10 463)), (e P "emit" 474 (r 151)), (e P "parse" 485 (r 159)), (e P "peek" 494 (r 166)), (e P "_parse" 517 (r 174)), (e P "_dump_header" 532 (r 181)), (e P "UUID" 575 (r 206)), (e P "_turned" 582 (r 217)), (e P "BINARY_SUBTYPE" 586 (i 0 585)), (e P "OLD_UUID_SUBTYPE" 588 (i 3 587)), (e P "UUID_SUBTYPE" 590 (i 4 589)), (e P "UuidRepresentation" 623 (r 227)), (e P "STANDARD" 625 (i 4 589)), (e P "ALL_UUID_SUBTYPES" 626 (r 232)), (e P "ALL_UUID_REPRESENTATIONS" 632 (r 233)), (e P "UUID_REPRESENTATION_NAMES" 648 (r 234)), (e P "Binary" 770 (r 312)), (e P "Code" 831 (r 356)), (e P "TypeRegistry" 880 (r 394)), (e P "CodecOptions" 915 (r 416)), (e P "DEFAULT_CODEC_OPTIONS" 935 (r 422)), (e P "DatetimeMS" 1024 (r 494)), (e P "DBRef" 1107 (r 554)), (e P "Decimal" 1184 (r 617)), (e P "_PACK_64" 1193 (r 628)), (e P "_UNPACK_64" 1200 (r 635)), (e P "_EXPONENT_MASK" 1204 (i 6917529027641081856 1203)), (e P "_EXPONENT_BIAS" 1206 (i 6176 1205)), (e P "_MAX_DIGITS" 1208 (i 34 1207)), (e P "_INF" 1210 (i 8646911284551352320 1209)), (e P "_NAN" 1212 (i 8935141660703064064 1211)), (e P "_SNAN" 1214 (i 9079256848778919936 1213)), (e P "_SIGN" 1216 (i 9223372036854775808 1215)), (e P "_NINF" 1219 (r 636)), (e P "_PINF" 1221 (r 637)), (e P "_NNAN" 1224 (r 638)), (e P "_PNAN" 1226 (r 639)), (e P "_NSNAN" 1229 (r 640)), (e P "_PSNAN" 1231 (r 641)), (e P "_check_fits" 1238 (r 648)), (e P "_decimal_to_128" 1244 (r 653)), (e P "Decimal128" 1328 (r 709)), (e P "BSONError" 1350 (r 723)), (e P "InvalidBSON" 1366 (r 736)), (e P "InvalidStringData" 1382 (r 748)), (e P "InvalidDocument" 1418 (r 778)), (e P "InvalidId" 1434 (r 790)), (e P "Int64" 1476 (r 816)), (e P "MaxKey" 1556 (r 879)), (e P "MinKey" 1636 (r 942)), (e P "_HEX_DIGITS" 1640 (s "0123456789abcdefABCDEF" 1639)), (e P "_from_hex" 1646 (r 951)), (e P "_raise_invalid_id" 1653 (r 958)), (e P "ObjectId" 1783 (r 1058)), (e P "_IGNORECASE" 1787 (i 2 1786)), (e P "_LOCALE" 1789 (i 4 1788)), (e P "_MULTILINE" 1791 (i 8 1790)), (e P "_DOTALL" 1793 (i 16 1792)), (e P "_UNICODE" 1795 (i 32 1794)), (e P "_VERBOSE" 1797 (i 64 1796)), (e P "str_flags_to_int" 1805 (r 1069)), (e P "Regex" 1856 (r 1101)), (e P "UPPERBOUND" 1860 (i 4294967296 1859))]
def V5x40 (P : Params) : List Value := V4x40 P ++ [(i 546 0), (i 0 0), (r 786), (i 549 0), (i 0 0), (r 798), (i 558 0), (i 0 0), (r 826), (i 582 0), (i 0 0), (r 889), (i 607 0), (i 0 0), (r 950), (i 614 0), (i 0 0), (r 957), (i 616 0), (i 0 0), (r 964), (i 691 0), (i 0 0), (r 1068), (i 706 0), (i 0 0), (r 1075)]
def L5 (P : Params) : List Obj := put (put (put ((AllC P).take 1106) 2 (oo .none none (.dict (V5x2 P).toArray 14) #[])) 3 (oo (t "dict") none (.dict (V5x3 P).toArray 90) #[])) 40 (oo .none none (.fields (V5x40 P).toArray) #[])
def S5 (w : World) (os : OsState) : SharedT := ⟨bt 12 (L5 w.params), 1106, {}, #[], {}, 1861, os⟩
def V6x2 (P : Params) : List DictEntry := V5x2 P ++ []
def V6x3 (P : Params) : List DictEntry := [(er P ⟨#[95, 95, 110, 97, 109, 101, 95, 95]⟩ 165 (s "bson" 1959)), (er P ⟨#[95, 95, 100, 111, 99, 95, 95]⟩ 166 .none), (er P ⟨#[95, 95, 112, 97, 99, 107, 97, 103, 101, 95, 95]⟩ 167 .none), (er P ⟨#[95, 95, 108, 111, 97, 100, 101, 114, 95, 95]⟩ 168 (b "__main__.__loader__#opaque")), (er P ⟨#[95, 95, 115, 112, 101, 99, 95, 95]⟩ 169 .none), (er P ⟨#[95, 95, 97, 110, 110, 111, 116, 97, 116, 105, 111, 110, 115, 95, 95]⟩ 170 (r 6)), (er P ⟨#[95, 95, 98, 117, 105, 108, 116, 105, 110, 115, 95, 95]⟩ 171 (r 4)), (er P ⟨#[95, 95, 102, 105, 108, 101, 95, 95]⟩ 173 (.str ⟨#[47, 99, 108, 97, 105, 109, 47, 99, 117, 116, 46, 112, 121]⟩ 172)), (er P ⟨#[95, 95, 99, 97, 99, 104, 101, 100, 95, 95]⟩ 174 .none), (er P ⟨#[112, 97, 99, 107]⟩ 312 (b "_struct.pack")), (e P "_wall" 325 (r 49)), (e P "Error" 347 (r 59)), (e P "DecodeError" 363 (r 72)), (e P "EncodeError" 379 (r 84)), (e P "TAG_TYPE_BITS" 381 (i 3 380)), (e P "_WIRETYPE_MAX" 383 (i 5 382)), (e P "PackTag" 391 (r 93)), (e P "_VarintDecoder" 402 (r 100)), (e P "_DecodeVarint" 410 (r 107)), (e P "ReadTag" 420 (r 114)), (e P "byte_cls" 423 (t "bytes")), (e P "chr_cls" 430 (r 121)), (e P "type_name" 437 (r 128)), (e P "int_to_bytes" 449 (r 136)), (e P "int_from_bytes" 457 (r 144)), (e P "_PY2" 460 (.bool false)), (e P "_INSUFFICIENT_DATA_MESSAGE" 462 (s "Insufficient data - %s bytes requested but only %s available" 461)), (e P "_MAX_DEPTH" 464 (i 10 463)), (e P "emit" 474 (r 151)), (e P "parse" 485 (r 159)), (e P "peek" 494 (r 166)), (e P "_parse" 517 (r 174)), (e P "_dump_header" 532 (r 181)), (e P "UUID" 575 (r 206)), (e P "_turned" 582 (r 217)), (e P "BINARY_SUBTYPE" 586 (i 0 585)), (e P "OLD_UUID_SUBTYPE" 588 (i 3 587)), (e P "UUID_SUBTYPE" 590 (i 4 589)), (e P "UuidRepresentation" 623 (r 227)), (e P "STANDARD" 625 (i 4 589)), (e P "ALL_UUID_SUBTYPES" 626 (r 232)), (e P "ALL_UUID_REPRESENTATIONS" 632 (r 233)), (e P "UUID_REPRESENTATION_NAMES" 648 (r 234)), (e P "Binary" 770 (r 312)), (e P "Code" 831 (r 356)), (e P "TypeRegistry" 880 (r 394)), (e P "CodecOptions" 915 (r 416)), (e P "DEFAULT_CODEC_OPTIONS" 935 (r 422)), (e P "DatetimeMS" 1024 (r 494)), (e P "DBRef" 1107 (r 554)), (e P "Decimal" 1184 (r 617)), (e P "_PACK_64" 1193 (r 628)), (e P "_UNPACK_64" 1200 (r 635)), (e P "_EXPONENT_MASK" 1204 (i 6917529027641081856 1203)), (e P "_EXPONENT_BIAS" 1206 (i 6176 1205)), (e P "_MAX_DIGITS" 1208 (i 34 1207)), (e P "_INF" 1210 (i 8646911284551352320 1209)), (e P "_NAN" 1212 (i 8935141660703064064 1211)), (e P "_SNAN" 1214 (i 9079256848778919936 1213)), (e P "_SIGN" 1216 (i 9223372036854775808 1215)), (e P "_NINF" 1219 (r 636)), (e P "_PINF" 1221 (r 637)), (e P "_NNAN" 1224 (r 638)), (e P "_PNAN" 1226 (r 639)), (e P "_NSNAN" 1229 (r 640)), (e P "_PSNAN" 1231 (r 641)), (e P "_check_fits" 1238 (r 648)), (e P "_decimal_to_128" 1244 (r 653)), (e P "Decimal128" 1328 (r 709)), (e P "BSONError" 1350 (r 723)), (e P "InvalidBSON" 1366 (r 736)), (e P "InvalidStringData" 1382 (r 748)), (e P "InvalidDocument" 1418 (r 778)), (e P "InvalidId" 1434 (r 790)), (e P "Int64" 1476 (r 816)), (e P "MaxKey" 1556 (r 879)), (e P "MinKey" 1636 (r 942)), (e P "_HEX_DIGITS" 1640 (s "0123456789abcdefABCDEF" 1639)), (e P "_from_hex" 1646 (r 951)), (e P "_raise_invalid_id" 1653 (r 958)), (e P "ObjectId" 1783 (r 1058)), (e P "_IGNORECASE" 1787 (i 2 1786)), (e P "_LOCALE" 1789 (i 4 1788)), (e P "_MULTILINE" 1791 (i 8 1790)), (e P "_DOTALL" 1793 (i 16 1792)), (e P "_UNICODE" 1795 (i 32 1794)), (e P "_VERBOSE" 1797 (i 64 1796)), (e P "str_flags_to_int" 1805 (r 1069)), (e P "Regex" 1856 (r 1101)), (e P "UPPERBOUND" 1860 (i 4294967296 1859)), (e P "Timestamp" 1958 (r 1180)), (e P "BSONSTR" 1962 (y [2] 1961)), (e P "BSONOBJ" 1964 (y [3] 1963)), (e P "BSONARR" 1966 (y [4] 1965)), (e P "BSONBIN" 1968 (y [5] 1967)), (e P "BSONUND" 1970 (y [6] 1969)), (e P "BSONOID" 1972 (y [7] 1971)), (e P "BSONBOO" 1974 (y [8] 1973)), (e P "BSONDAT" 1976 (y [9] 1975)), (e P "BSONNUL" 1978 (y [10] 1977)), (e P "BSONRGX" 1980 (y [11] 1979)), (e P "BSONREF" 1982 (y [12] 1981)), (e P "BSONCOD" 1984 (y [13] 1983)), (e P "BSONSYM" 1986 (y [14] 1985)), (e P "BSONCWS" 1988 (y [15] 1987)), (e P "BSONINT" 1990 (y [16] 1989)), (e P "BSONTIM" 1992 (y [17] 1991)), (e P "BSONLON" 1994 (y [18] 1993)), (e P "BSONDEC" 1996 (y [19] 1995)), (e P "BSONMIN" 1998 (y [255] 1997)), (e P "BSONMAX" 2000 (y [127] 1999)), (e P "_unpack" 2010 (r 1191)), (e P "_UNPACK_INT_FROM" 2018 (r 1198)), (e P "_UNPACK_LENGTH_SUBTYPE_FROM" 2026 (r 1205)), (e P "_UNPACK_LONG_FROM" 2034 (r 1212)), (e P "_UNPACK_TIMESTAMP_FROM" 2042 (r 1219)), (e P "_utf_8_decode" 2051 (r 1226)), (e P "_utf_8_encode" 2058 (r 1233)), (e P "_index_nul" 2067 (r 1240)), (e P "get_data_and_view" 2074 (r 1247)), (e P "_raise_unknown_type" 2082 (r 1254)), (e P "_get_int" 2094 (r 1261)), (e P "_get_c_string" 2105 (r 1268)), (e P "_get_string" 2119 (r 1275)), (e P "_get_object_size" 2131 (r 1282)), (e P "_get_object" 2146 (r 1289)), (e P "_get_array" 2164 (r 1296)), (e P "_get_binary" 2183 (r 1303)), (e P "_get_oid" 2196 (r 1310)), (e P "_get_boolean" 2210 (r 1317)), (e P "_get_date" 2222 (r 1324)), (e P "_get_code" 2235 (r 1331)), (e P "_get_code_w_scope" 2250 (r 1338)), (e P "_get_regex" 2265 (r 1345)), (e P "_get_ref" 2279 (r 1352)), (e P "_get_timestamp" 2293 (r 1359)), (e P "_get_int64" 2305 (r 1366)), (e P "_get_decimal128" 2318 (r 1373))]
def V6x40 (P : Params) : List Value := V5x40 P ++ [(i 730 0), (i 0 0), (r 1111), (i 802 0), (i 0 0), (r 1190), (i 806 0), (i 0 0), (r 1197), (i 808 0), (i 0 0), (r 1204), (i 810 0), (i 0 0), (r 1211), (i 812 0), (i 0 0), (r 1218), (i 814 0), (i 0 0), (r 1225), (i 816 0), (i 0 0), (r 1232), (i 818 0), (i 0 0), (r 1239), (i 823 0), (i 0 0), (r 1246), (i 825 0), (i 0 0), (r 1253), (i 827 0), (i 0 0), (r 1260), (i 829 0), (i 0 0), (r 1267), (i 832 0), (i 0 0), (r 1274), (i 841 0), (i 0 0), (r 1281), (i 854 0), (i 0 0), (r 1288), (i 861 0), (i 0 0), (r 1295), (i 881 0), (i 0 0), (r 1302), (i 904 0), (i 0 0), (r 1309), (i 907 0), (i 0 0), (r 1316), (i 915 0), (i 0 0), (r 1323), (i 917 0), (i 0 0), (r 1330), (i 920 0), (i 0 0), (r 1337), (i 927 0), (i 0 0), (r 1344), (i 932 0), (i 0 0), (r 1351), (i 936 0), (i 0 0), (r 1358), (i 939 0), (i 0 0), (r 1365), (i 941 0), (i 0 0), (r 1372)]
def L6 (P : Params) : List Obj := put (put (put ((AllC P).take 1374) 2 (oo .none none (.dict (V6x2 P).toArray 14) #[])) 3 (oo (t "dict") none (.dict (V6x3 P).toArray 138) #[])) 40 (oo .none none (.fields (V6x40 P).toArray) #[])
def S6 (w : World) (os : OsState) : SharedT := ⟨bt 12 (L6 w.params), 1374, {}, #[], {}, 2319, os⟩
def V7x2 (P : Params) : List DictEntry := V6x2 P ++ []
def V7x3 (P : Params) : List DictEntry := V6x3 P ++ [(e P "_ELEMENT_GETTER" 2403 (r 1374))]
def V7x40 (P : Params) : List Value := V6x40 P ++ [(i 945 0), (i 0 0), (r 1380), (i 946 0), (i 0 0), (r 1387), (i 947 0), (i 0 0), (r 1395), (i 948 0), (i 0 0), (r 1402)]
def L7 (P : Params) : List Obj := put (put (put ((AllC P).take 1404) 2 (oo .none none (.dict (V7x2 P).toArray 14) #[])) 3 (oo (t "dict") none (.dict (V7x3 P).toArray 139) #[])) 40 (oo .none none (.fields (V7x40 P).toArray) #[])
def S7 (w : World) (os : OsState) : SharedT := ⟨bt 12 (L7 w.params), 1404, {}, #[], {}, 2404, os⟩
def V8x3 (P : Params) : List DictEntry := [(er P ⟨#[95, 95, 110, 97, 109, 101, 95, 95]⟩ 165 (s "rlp.utils" 2856)), (er P ⟨#[95, 95, 100, 111, 99, 95, 95]⟩ 166 .none), (er P ⟨#[95, 95, 112, 97, 99, 107, 97, 103, 101, 95, 95]⟩ 167 .none), (er P ⟨#[95, 95, 108, 111, 97, 100, 101, 114, 95, 95]⟩ 168 (b "__main__.__loader__#opaque")), (er P ⟨#[95, 95, 115, 112, 101, 99, 95, 95]⟩ 169 .none), (er P ⟨#[95, 95, 97, 110, 110, 111, 116, 97, 116, 105, 111, 110, 115, 95, 95]⟩ 170 (r 6)), (er P ⟨#[95, 95, 98, 117, 105, 108, 116, 105, 110, 115, 95, 95]⟩ 171 (r 4)), (er P ⟨#[95, 95, 102, 105, 108, 101, 95, 95]⟩ 173 (.str ⟨#[47, 99, 108, 97, 105, 109, 47, 99, 117, 116, 46, 112, 121]⟩ 172)), (er P ⟨#[95, 95, 99, 97, 99, 104, 101, 100, 95, 95]⟩ 174 .none), (er P ⟨#[112, 97, 99, 107]⟩ 312 (b "_struct.pack")), (e P "_wall" 325 (r 49)), (e P "Error" 347 (r 59)), (e P "DecodeError" 363 (r 72)), (e P "EncodeError" 379 (r 84)), (e P "TAG_TYPE_BITS" 381 (i 3 380)), (e P "_WIRETYPE_MAX" 383 (i 5 382)), (e P "PackTag" 391 (r 93)), (e P "_VarintDecoder" 402 (r 100)), (e P "_DecodeVarint" 410 (r 107)), (e P "ReadTag" 420 (r 114)), (e P "byte_cls" 423 (t "bytes")), (e P "chr_cls" 430 (r 121)), (e P "type_name" 437 (r 128)), (e P "int_to_bytes" 449 (r 136)), (e P "int_from_bytes" 457 (r 144)), (e P "_PY2" 460 (.bool false)), (e P "_INSUFFICIENT_DATA_MESSAGE" 462 (s "Insufficient data - %s bytes requested but only %s available" 461)), (e P "_MAX_DEPTH" 464 (i 10 463)), (e P "emit" 474 (r 151)), (e P "parse" 485 (r 159)), (e P "peek" 494 (r 166)), (e P "_parse" 517 (r 174)), (e P "_dump_header" 532 (r 181)), (e P "UUID" 575 (r 206)), (e P "_turned" 582 (r 217)), (e P "BINARY_SUBTYPE" 586 (i 0 585)), (e P "OLD_UUID_SUBTYPE" 588 (i 3 587)), (e P "UUID_SUBTYPE" 590 (i 4 589)), (e P "UuidRepresentation" 623 (r 227)), (e P "STANDARD" 625 (i 4 589)), (e P "ALL_UUID_SUBTYPES" 626 (r 232)), (e P "ALL_UUID_REPRESENTATIONS" 632 (r 233)), (e P "UUID_REPRESENTATION_NAMES" 648 (r 234)), (e P "Binary" 770 (r 312)), (e P "Code" 831 (r 356)), (e P "TypeRegistry" 880 (r 394)), (e P "CodecOptions" 915 (r 416)), (e P "DEFAULT_CODEC_OPTIONS" 935 (r 422)), (e P "DatetimeMS" 1024 (r 494)), (e P "DBRef" 1107 (r 554)), (e P "Decimal" 1184 (r 617)), (e P "_PACK_64" 1193 (r 628)), (e P "_UNPACK_64" 1200 (r 635)), (e P "_EXPONENT_MASK" 1204 (i 6917529027641081856 1203)), (e P "_EXPONENT_BIAS" 1206 (i 6176 1205)), (e P "_MAX_DIGITS" 1208 (i 34 1207)), (e P "_INF" 1210 (i 8646911284551352320 1209)), (e P "_NAN" 1212 (i 8935141660703064064 1211)), (e P "_SNAN" 1214 (i 9079256848778919936 1213)), (e P "_SIGN" 1216 (i 9223372036854775808 1215)), (e P "_NINF" 1219 (r 636)), (e P "_PINF" 1221 (r 637)), (e P "_NNAN" 1224 (r 638)), (e P "_PNAN" 1226 (r 639)), (e P "_NSNAN" 1229 (r 640)), (e P "_PSNAN" 1231 (r 641)), (e P "_check_fits" 1238 (r 648)), (e P "_decimal_to_128" 1244 (r 653)), (e P "Decimal128" 1328 (r 709)), (e P "BSONError" 1350 (r 723)), (e P "InvalidBSON" 1366 (r 736)), (e P "InvalidStringData" 1382 (r 748)), (e P "InvalidDocument" 1418 (r 778)), (e P "InvalidId" 1434 (r 790)), (e P "Int64" 1476 (r 816)), (e P "MaxKey" 1556 (r 879)), (e P "MinKey" 1636 (r 942)), (e P "_HEX_DIGITS" 1640 (s "0123456789abcdefABCDEF" 1639)), (e P "_from_hex" 1646 (r 951)), (e P "_raise_invalid_id" 1653 (r 958)), (e P "ObjectId" 1783 (r 1058)), (e P "_IGNORECASE" 1787 (i 2 1786)), (e P "_LOCALE" 1789 (i 4 1788)), (e P "_MULTILINE" 1791 (i 8 1790)), (e P "_DOTALL" 1793 (i 16 1792)), (e P "_UNICODE" 1795 (i 32 1794)), (e P "_VERBOSE" 1797 (i 64 1796)), (e P "str_flags_to_int" 1805 (r 1069)), (e P "Regex" 1856 (r 1101)), (e P "UPPERBOUND" 1860 (i 4294967296 1859)), (e P "Timestamp" 1958 (r 1180)), (e P "BSONSTR" 1962 (y [2] 1961)), (e P "BSONOBJ" 1964 (y [3] 1963)), (e P "BSONARR" 1966 (y [4] 1965)), (e P "BSONBIN" 1968 (y [5] 1967)), (e P "BSONUND" 1970 (y [6] 1969)), (e P "BSONOID" 1972 (y [7] 1971)), (e P "BSONBOO" 1974 (y [8] 1973)), (e P "BSONDAT" 1976 (y [9] 1975)), (e P "BSONNUL" 1978 (y [10] 1977)), (e P "BSONRGX" 1980 (y [11] 1979)), (e P "BSONREF" 1982 (y [12] 1981)), (e P "BSONCOD" 1984 (y [13] 1983)), (e P "BSONSYM" 1986 (y [14] 1985)), (e P "BSONCWS" 1988 (y [15] 1987)), (e P "BSONINT" 1990 (y [16] 1989)), (e P "BSONTIM" 1992 (y [17] 1991)), (e P "BSONLON" 1994 (y [18] 1993)), (e P "BSONDEC" 1996 (y [19] 1995)), (e P "BSONMIN" 1998 (y [255] 1997)), (e P "BSONMAX" 2000 (y [127] 1999)), (e P "_unpack" 2010 (r 1191)), (e P "_UNPACK_INT_FROM" 2018 (r 1198)), (e P "_UNPACK_LENGTH_SUBTYPE_FROM" 2026 (r 1205)), (e P "_UNPACK_LONG_FROM" 2034 (r 1212)), (e P "_UNPACK_TIMESTAMP_FROM" 2042 (r 1219)), (e P "_utf_8_decode" 2051 (r 1226)), (e P "_utf_8_encode" 2058 (r 1233)), (e P "_index_nul" 2067 (r 1240)), (e P "get_data_and_view" 2074 (r 1247)), (e P "_raise_unknown_type" 2082 (r 1254)), (e P "_get_int" 2094 (r 1261)), (e P "_get_c_string" 2105 (r 1268)), (e P "_get_string" 2119 (r 1275)), (e P "_get_object_size" 2131 (r 1282)), (e P "_get_object" 2146 (r 1289)), (e P "_get_array" 2164 (r 1296)), (e P "_get_binary" 2183 (r 1303)), (e P "_get_oid" 2196 (r 1310)), (e P "_get_boolean" 2210 (r 1317)), (e P "_get_date" 2222 (r 1324)), (e P "_get_code" 2235 (r 1331)), (e P "_get_code_w_scope" 2250 (r 1338)), (e P "_get_regex" 2265 (r 1345)), (e P "_get_ref" 2279 (r 1352)), (e P "_get_timestamp" 2293 (r 1359)), (e P "_get_int64" 2305 (r 1366)), (e P "_get_decimal128" 2318 (r 1373)), (e P "_ELEMENT_GETTER" 2403 (r 1374)), (e P "_element_to_dict" 2417 (r 1410)), (e P "_elements_to_dict" 2432 (r 1417)), (e P "_bson_to_dict" 2444 (r 1424)), (e P "_PACK_INT" 2451 (r 1431)), (e P "_PACK_LENGTH_SUBTYPE" 2459 (r 1438)), (e P "_PACK_LONG" 2466 (r 1445)), (e P "_PACK_TIMESTAMP" 2474 (r 1452)), (e P "_make_c_string_check" 2481 (r 1459)), (e P "_make_c_string" 2488 (r 1466)), (e P "_make_name" 2495 (r 1473)), (e P "_encode_bytes" 2505 (r 1480)), (e P "_encode_mapping" 2511 (r 1485)), (e P "_encode_dbref" 2525 (r 1492)), (e P "_encode_list" 2531 (r 1497)), (e P "_encode_text" 2542 (r 1504)), (e P "_encode_binary" 2553 (r 1511)), (e P "_encode_uuid" 2565 (r 1518)), (e P "_encode_objectid" 2575 (r 1525)), (e P "_encode_bool" 2585 (r 1532)), (e P "_encode_datetime_ms" 2596 (r 1539)), (e P "_encode_none" 2606 (r 1546)), (e P "_encode_regex" 2618 (r 1553)), (e P "_encode_code" 2632 (r 1560)), (e P "_encode_int" 2642 (r 1567)), (e P "_encode_timestamp" 2652 (r 1574)), (e P "_encode_long" 2662 (r 1581)), (e P "_encode_decimal128" 2672 (r 1588)), (e P "_encode_minkey" 2682 (r 1595)), (e P "_encode_maxkey" 2692 (r 1602)), (e P "_name_value_to_bson" 2705 (r 1610)), (e P "_element_to_bson" 2716 (r 1617)), (e P "_dict_to_bson" 2731 (r 1625)), (e P "encode" 2740 (r 1633)), (e P "decode" 2749 (r 1641)), (e P "_EncodeVarint" 2761 (r 1649)), (e P "_VarintBytes" 2769 (r 1656)), (e P "TagBytes" 2777 (r 1663)), (e P "RLPException" 2799 (r 1673)), (e P "EncodingError" 2827 (r 1695)), (e P "DecodingError" 2855 (r 1716))]
def V8x40 (P : Params) : List Value := V7x40 P ++ [(i 949 0), (i 0 0), (r 1409), (i 958 0), (i 0 0), (r 1416), (i 967 0), (i 0 0), (r 1423), (i 976 0), (i 0 0), (r 1430), (i 978 0), (i 0 0), (r 1437), (i 980 0), (i 0 0), (r 1444), (i 984 0), (i 0 0), (r 1451), (i 986 0), (i 0 0), (r 1458), (i 999 0), (i 0 0), (r 1465), (i 1008 0), (i 0 0), (r 1472), (i 1012 0), (i 0 0), (r 1479), (i 1014 0), (i 0 0), (r 1484), (i 1017 0), (i 0 0), (r 1491), (i 1029 0), (i 0 0), (r 1496), (i 1032 0), (i 0 0), (r 1503), (i 1035 0), (i 0 0), (r 1510), (i 1041 0), (i 0 0), (r 1517), (i 1045 0), (i 0 0), (r 1524), (i 1047 0), (i 0 0), (r 1531), (i 1049 0), (i 0 0), (r 1538), (i 1052 0), (i 0 0), (r 1545), (i 1054 0), (i 0 0), (r 1552), (i 1076 0), (i 0 0), (r 1559), (i 1084 0), (i 0 0), (r 1566), (i 1092 0), (i 0 0), (r 1573), (i 1094 0), (i 0 0), (r 1580), (i 1099 0), (i 0 0), (r 1587), (i 1101 0), (i 0 0), (r 1594), (i 1103 0), (i 0 0), (r 1601), (i 1105 0), (i 0 0), (r 1609), (i 1154 0), (i 0 0), (r 1616), (i 1164 0), (i 0 0), (r 1624), (i 1178 0), (i 0 0), (r 1632), (i 1182 0), (i 0 0), (r 1640), (i 1188 0), (i 0 0), (r 1648), (i 1196 0), (i 0 0), (r 1655), (i 1200 0), (i 0 0), (r 1662), (i 1203 0), (i 0 0), (r 1669), (i 1205 0), (i 0 0), (r 1683), (i 1210 0), (i 0 0), (r 1704)]
def L8 (P : Params) : List Obj := put (put ((AllC P).take 1719) 3 (oo (t "dict") none (.dict (V8x3 P).toArray 179) #[])) 40 (oo .none none (.fields (V8x40 P).toArray) #[])
def S8 (w : World) (os : OsState) : SharedT := ⟨bt 12 (L8 w.params), 1719, {}, #[], {}, 2858, os⟩
def V9x3 (P : Params) : List DictEntry := V8x3 P ++ [(e P "ALL_BYTES" 3893 (r 1731))]
def V9x40 (P : Params) : List Value := V8x40 P ++ [(i 1216 0), (i 18 0), (r 1723)]
def L9 (P : Params) : List Obj := put (put ((AllC P).take 1732) 3 (oo (t "dict") none (.dict (V9x3 P).toArray 180) #[])) 40 (oo .none none (.fields (V9x40 P).toArray) #[])
def S9 (w : World) (os : OsState) : SharedT := ⟨bt 12 (L9 w.params), 1732, {}, #[.finished], {}, 3894, os⟩
def L10 (P : Params) : List Obj := (AllC P).take 1815
def S10 (w : World) (os : OsState) : SharedT := ⟨bt 12 (L10 w.params), 1815, {}, #[.finished], {}, 4034, os⟩
theorem runF_eq : segRunT treeTable = runF := by
  unfold runF
  rw [← PySem.W.Fast.te10110043849684766642, ← PySem.W.Fast.te14364793385576792824]
theorem goF_eq : segGoT treeTable = goF := by
  unfold goF
  rw [← PySem.W.Fast.te10295753902157049106, ← PySem.W.Fast.te14364793385576792824]
theorem ofRun {w : World} {N : Nat} {S S' : SharedT} {th : Thread} {f : Flow} {c : Code} {p : Pos} (h : runF prg w 39 ann0 1 N S th = some (f, S', c, p)) :
    segRun treeTable prg w 39 ann0 1 N S.abs th = some (f, S'.abs, c, p) := segRun_of (by rw [runF_eq]; exact h)
theorem ofGo {w : World} {N : Nat} {S S' : SharedT} {th th' : Thread} (h : goF prg w 39 ann0 1 N S th = some (S', th')) :
    segGo treeTable prg w 39 ann0 1 N S.abs th = some (S'.abs, th') := segGo_of (by rw [goF_eq]; exact h)
theorem segRun_more {tb : String → Option Builtin} {p : Program} {w : World} {n₀ : Nat} {ann : Option Value} {b : Nat} (k : Nat) : ∀ (n : Nat) (s : Shared) (t : Thread) (r : Flow × Shared × Code × Pos),
    segRun tb p w n₀ ann b n s t = some r → segRun tb p w n₀ ann b (n + k) s t = some r
  | 0, _, _, _, h => by cases h
  | n + 1, s, t, r, h => by
    rw [show n + 1 + k = n + k + 1 by omega]
    unfold segRun at h ⊢
    cases he : endAt b t with
    | some x => rw [he] at h; exact h
    | none =>
      rw [he] at h
      dsimp only at h ⊢
      cases hk : stepOk n₀ ann t with
      | false => rw [hk] at h; cases h
      | true =>
        rw [hk] at h
        dsimp only at h ⊢
        cases hs : step (denote tb) p w s t with
        | halt o s' => rw [hs] at h; cases h
        | go s' t' => rw [hs] at h; exact segRun_more k n s' t' r h
theorem seg_goE {w : World} {n N M : Nat} {s s' : Shared} {t t' : Thread} {r : Flow × Shared × Code × Pos} (e : n + N = M) (h : segGo treeTable prg w 39 ann0 1 n s t = some (s', t')) (k : segRun treeTable prg w 39 ann0 1 N s' t' = some r) :
    segRun treeTable prg w 39 ann0 1 M s t = some r := by subst e; exact seg_go h k
theorem segRun_moreE {w : World} {n k M : Nat} {s : Shared} {t : Thread} {r : Flow × Shared × Code × Pos} (e : n + k = M) (h : segRun treeTable prg w 39 ann0 1 n s t = some r) : segRun treeTable prg w 39 ann0 1 M s t = some r := by
  subst e; exact segRun_more k n s t r h
theorem runE {w : World} {N M : Nat} {s s' s'' r : Shared} {p p' : Pos} (h : topGo treeTable prg w 39 ann0 12 s (topStub prg) = some (s', ⟨denote treeTable cT, cT, p, B0⟩))
    (hb : segRun treeTable prg w 39 ann0 1 1 s' (blockOf (behindTheImports prg) envT cT p B0) = some (.next, s'', cT, p')) (k : topRun treeTable prg w 39 ann0 N s'' (restOf (restJ 0) envT cT p' B0) = some r) (e : N + 13 = M) :
    topRun treeTable prg w 39 ann0 M s (topStub prg) = some r := by
  subst e
  have x := go_top h (piece_block hb k)
  rw [show N + 13 = 12 + (1 + N) by omega]
  exact x
theorem stepJ {w : World} {a b k N M M' : Nat} {S S' r : Shared} {p p' : Pos} (h : segRun treeTable prg w 39 ann0 1 N S (piecesOf (sts a k) envT cT p B0) = some (.next, S', cT, p'))
    (kk : topRun treeTable prg w 39 ann0 M S' (restOf (restJ b) envT cT p' B0) = some r) (eb : a + k = b) (eM : N + M = M') : topRun treeTable prg w 39 ann0 M' S (restOf (restJ a) envT cT p B0) = some r := by
  subst eb eM
  have e : sts a k ++ restJ (a + k) = restJ a := by
    unfold sts restJ
    rw [← List.drop_drop]
    exact List.take_append_drop k _
  rw [← e]
  exact piece_app h kk
theorem p0 (w : World) (os : OsState) : runF prg w 39 ann0 1 1886 (S0 w os) (piecesOf (sts 0 39) envT cT ⟨0, 0, 0, 0⟩ B0) = some (.next, S1 w os, cT, ⟨204, 0, 204, 24⟩) := by kernel_rfl
theorem q0 (w : World) (os : OsState) : segRun treeTable prg w 39 ann0 1 1886 (S0 w os).abs (piecesOf (sts 0 39) envT cT ⟨0, 0, 0, 0⟩ B0) = some (.next, (S1 w os).abs, cT, ⟨204, 0, 204, 24⟩) := ofRun (p0 w os)
theorem p1false (w : World) (os : OsState) : runF prg (w.withFollow "special-get-raises" false) 39 ann0 1 200 (S1 (w.withFollow "special-get-raises" false) os) (piecesOf (sts 39 1) envT cT ⟨204, 0, 204, 24⟩ B0) = some (.next, S2 (w.withFollow "special-get-raises" false) os, cT, ⟨205, 0, 205, 25⟩) := by kernel_rfl
theorem p1true (w : World) (os : OsState) : runF prg (w.withFollow "special-get-raises" true) 39 ann0 1 200 (S1 (w.withFollow "special-get-raises" true) os) (piecesOf (sts 39 1) envT cT ⟨204, 0, 204, 24⟩ B0) = some (.next, S2 (w.withFollow "special-get-raises" true) os, cT, ⟨205, 0, 205, 25⟩) := by kernel_rfl
theorem q1 (w : World) (os : OsState) : segRun treeTable prg w 39 ann0 1 200 (S1 w os).abs (piecesOf (sts 39 1) envT cT ⟨204, 0, 204, 24⟩ B0) = some (.next, (S2 w os).abs, cT, ⟨205, 0, 205, 25⟩) :=
  byRow2 "special-get-raises" (P := fun w => ∀ os, segRun treeTable prg w 39 ann0 1 200 (S1 w os).abs (piecesOf (sts 39 1) envT cT ⟨204, 0, 204, 24⟩ B0) = some (.next, (S2 w os).abs, cT, ⟨205, 0, 205, 25⟩)) (fun w os => ofRun (p1false w os)) (fun w os => ofRun (p1true w os)) w os
theorem p2 (w : World) (os : OsState) : runF prg w 39 ann0 1 2773 (S2 w os) (piecesOf (sts 40 10) envT cT ⟨205, 0, 205, 25⟩ B0) = some (.next, S3 w os, cT, ⟨381, 0, 381, 8⟩) := by kernel_rfl
theorem q2 (w : World) (os : OsState) : segRun treeTable prg w 39 ann0 1 2773 (S2 w os).abs (piecesOf (sts 40 10) envT cT ⟨205, 0, 205, 25⟩ B0) = some (.next, (S3 w os).abs, cT, ⟨381, 0, 381, 8⟩) := ofRun (p2 w os)
theorem p3 (w : World) (os : OsState) : runF prg w 39 ann0 1 2866 (S3 w os) (piecesOf (sts 50 27) envT cT ⟨381, 0, 381, 8⟩ B0) = some (.next, S4 w os, cT, ⟨537, 0, 545, 29⟩) := by kernel_rfl
theorem q3 (w : World) (os : OsState) : segRun treeTable prg w 39 ann0 1 2866 (S3 w os).abs (piecesOf (sts 50 27) envT cT ⟨381, 0, 381, 8⟩ B0) = some (.next, (S4 w os).abs, cT, ⟨537, 0, 545, 29⟩) := ofRun (p3 w os)
theorem p4 (w : World) (os : OsState) : runF prg w 39 ann0 1 2692 (S4 w os) (piecesOf (sts 77 23) envT cT ⟨537, 0, 545, 29⟩ B0) = some (.next, S5 w os, cT, ⟨729, 0, 729, 10⟩) := by kernel_rfl
theorem q4 (w : World) (os : OsState) : segRun treeTable prg w 39 ann0 1 2692 (S4 w os).abs (piecesOf (sts 77 23) envT cT ⟨537, 0, 545, 29⟩ B0) = some (.next, (S5 w os).abs, cT, ⟨729, 0, 729, 10⟩) := ofRun (p4 w os)
theorem p5 (w : World) (os : OsState) : runF prg w 39 ann0 1 1712 (S5 w os) (piecesOf (sts 100 49) envT cT ⟨729, 0, 729, 10⟩ B0) = some (.next, S6 w os, cT, ⟨941, 0, 943, 57⟩) := by kernel_rfl
theorem q5 (w : World) (os : OsState) : segRun treeTable prg w 39 ann0 1 1712 (S5 w os).abs (piecesOf (sts 100 49) envT cT ⟨729, 0, 729, 10⟩ B0) = some (.next, (S6 w os).abs, cT, ⟨941, 0, 943, 57⟩) := ofRun (p5 w os)
theorem p6false (w : World) (os : OsState) : runF prg (w.withFollow "special-get-raises" false) 39 ann0 1 671 (S6 (w.withFollow "special-get-raises" false) os) (piecesOf (sts 149 1) envT cT ⟨941, 0, 943, 57⟩ B0) = some (.next, S7 (w.withFollow "special-get-raises" false) os, cT, ⟨944, 0, 944, 15⟩) := by kernel_rfl
theorem p6true (w : World) (os : OsState) : runF prg (w.withFollow "special-get-raises" true) 39 ann0 1 671 (S6 (w.withFollow "special-get-raises" true) os) (piecesOf (sts 149 1) envT cT ⟨941, 0, 943, 57⟩ B0) = some (.next, S7 (w.withFollow "special-get-raises" true) os, cT, ⟨944, 0, 944, 15⟩) := by kernel_rfl
theorem q6 (w : World) (os : OsState) : segRun treeTable prg w 39 ann0 1 671 (S6 w os).abs (piecesOf (sts 149 1) envT cT ⟨941, 0, 943, 57⟩ B0) = some (.next, (S7 w os).abs, cT, ⟨944, 0, 944, 15⟩) :=
  byRow2 "special-get-raises" (P := fun w => ∀ os, segRun treeTable prg w 39 ann0 1 671 (S6 w os).abs (piecesOf (sts 149 1) envT cT ⟨941, 0, 943, 57⟩ B0) = some (.next, (S7 w os).abs, cT, ⟨944, 0, 944, 15⟩)) (fun w os => ofRun (p6false w os)) (fun w os => ofRun (p6true w os)) w os
theorem p7 (w : World) (os : OsState) : runF prg w 39 ann0 1 1937 (S7 w os) (piecesOf (sts 150 43) envT cT ⟨944, 0, 944, 15⟩ B0) = some (.next, S8 w os, cT, ⟨1215, 0, 1215, 8⟩) := by kernel_rfl
theorem q7 (w : World) (os : OsState) : segRun treeTable prg w 39 ann0 1 1937 (S7 w os).abs (piecesOf (sts 150 43) envT cT ⟨944, 0, 944, 15⟩ B0) = some (.next, (S8 w os).abs, cT, ⟨1215, 0, 1215, 8⟩) := ofRun (p7 w os)
abbrev thAB : Thread := piecesOf (sts 193 1) envT cT ⟨1215, 0, 1215, 8⟩ B0
abbrev SAB (w : World) (os : OsState) : SharedT := S8 w os
def LAB (P : Params) : List Obj := L8 P
abbrev SAE (w : World) (os : OsState) : SharedT := S9 w os
abbrev posAE : Pos := ⟨1216, 0, 1216, 9⟩
def wT (w : World) : World := (w.withFollow "comprehension-iter-twice" true).withFollow "special-get-raises" true
def X1 (w : World) (os : OsState) : Option (SharedT × Thread) := goF prg (wT w) 39 ann0 1 143 (SAB w os) thAB
def thrL (w : World) (os : OsState) : Thread := match X1 w os with
  | some (_, th) => th
  | none => thAB
def gensL (w : World) (os : OsState) : Array GenState := match X1 w os with
  | some (z, _) => z.gens
  | none => #[]
def itm (j : Nat) : Value := .bytes #[UInt8.ofNat j] (2872 + 4 * j)
def LB (k : Nat) (P : Params) : List Obj := put (put (put (put (put ((AllC P).take 1727) 3 (oo (t "dict") none (.dict (V8x3 P).toArray 179) #[])) 40 (oo .none none (.fields (V9x40 P).toArray) #[]))
  1720 (o (t "range_iterator") (.fields #[.int (Int.ofNat k) 0, .int (Int.ofNat (256 - k)) 0, i 1 0]))) 1724 (o (t "frame") (.dict #[e P ".0" 2866 (r 1720), e P "i" 2870 (.int (Int.ofNat (k - 1)) (2869 + 4 * (k - 1)))] 2)))
  1726 (o (t "list") (.seq ((List.range k).map itm).toArray (k + 2)))
def SLp (k : Nat) (w : World) (os : OsState) : SharedT := ⟨bt 12 (LB k w.params), 1727, {}, gensL w os, {}, 2869 + 4 * k, os⟩
theorem atruetrue (w : World) (os : OsState) : goF prg ((w.withFollow "comprehension-iter-twice" true).withFollow "special-get-raises" true) 39 ann0 1 143 (SAB ((w.withFollow "comprehension-iter-twice" true).withFollow "special-get-raises" true) os) thAB = some (SLp 1 ((w.withFollow "comprehension-iter-twice" true).withFollow "special-get-raises" true) os, thrL ((w.withFollow "comprehension-iter-twice" true).withFollow "special-get-raises" true) os) := by kernel_rfl
theorem atruefalse (w : World) (os : OsState) : goF prg ((w.withFollow "comprehension-iter-twice" true).withFollow "special-get-raises" false) 39 ann0 1 143 (SAB ((w.withFollow "comprehension-iter-twice" true).withFollow "special-get-raises" false) os) thAB = some (SLp 1 ((w.withFollow "comprehension-iter-twice" true).withFollow "special-get-raises" false) os, thrL ((w.withFollow "comprehension-iter-twice" true).withFollow "special-get-raises" false) os) := by kernel_rfl
theorem afalsetrue (w : World) (os : OsState) : goF prg ((w.withFollow "comprehension-iter-twice" false).withFollow "special-get-raises" true) 39 ann0 1 153 (SAB ((w.withFollow "comprehension-iter-twice" false).withFollow "special-get-raises" true) os) thAB = some (SLp 1 ((w.withFollow "comprehension-iter-twice" false).withFollow "special-get-raises" true) os, thrL ((w.withFollow "comprehension-iter-twice" false).withFollow "special-get-raises" true) os) := by kernel_rfl
theorem afalsefalse (w : World) (os : OsState) : goF prg ((w.withFollow "comprehension-iter-twice" false).withFollow "special-get-raises" false) 39 ann0 1 153 (SAB ((w.withFollow "comprehension-iter-twice" false).withFollow "special-get-raises" false) os) thAB = some (SLp 1 ((w.withFollow "comprehension-iter-twice" false).withFollow "special-get-raises" false) os, thrL ((w.withFollow "comprehension-iter-twice" false).withFollow "special-get-raises" false) os) := by kernel_rfl
theorem c1 (w : World) (os : OsState) : goF prg w 39 ann0 1 4165 (SLp 1 w os) (thrL w os) = some (SLp 86 w os, thrL w os) := by kernel_rfl
theorem c86 (w : World) (os : OsState) : goF prg w 39 ann0 1 4165 (SLp 86 w os) (thrL w os) = some (SLp 171 w os, thrL w os) := by kernel_rfl
theorem c171 (w : World) (os : OsState) : goF prg w 39 ann0 1 4165 (SLp 171 w os) (thrL w os) = some (SLp 256 w os, thrL w os) := by kernel_rfl
theorem cEnd (w : World) (os : OsState) : runF prg w 39 ann0 1 52 (SLp 256 w os) (thrL w os) = some (.next, SAE w os, cT, posAE) := by kernel_rfl
theorem d171 (w : World) (os : OsState) : segRun treeTable prg w 39 ann0 1 4217 (SLp 171 w os).abs (thrL w os) = some (.next, (SAE w os).abs, cT, posAE) := seg_goE rfl (ofGo (c171 w os)) (ofRun (cEnd w os))
theorem d86 (w : World) (os : OsState) : segRun treeTable prg w 39 ann0 1 8382 (SLp 86 w os).abs (thrL w os) = some (.next, (SAE w os).abs, cT, posAE) := seg_goE rfl (ofGo (c86 w os)) (d171 w os)
theorem d1 (w : World) (os : OsState) : segRun treeTable prg w 39 ann0 1 12547 (SLp 1 w os).abs (thrL w os) = some (.next, (SAE w os).abs, cT, posAE) := seg_goE rfl (ofGo (c1 w os)) (d86 w os)
theorem btruetrue (w : World) (os : OsState) : segRun treeTable prg ((w.withFollow "comprehension-iter-twice" true).withFollow "special-get-raises" true) 39 ann0 1 13000 (SAB ((w.withFollow "comprehension-iter-twice" true).withFollow "special-get-raises" true) os).abs thAB = some (.next, (SAE ((w.withFollow "comprehension-iter-twice" true).withFollow "special-get-raises" true) os).abs, cT, posAE) := segRun_moreE (n := 12690) (k := 310) rfl (seg_goE (n := 143) (N := 12547) rfl (ofGo (atruetrue w os)) (d1 ((w.withFollow "comprehension-iter-twice" true).withFollow "special-get-raises" true) os))
theorem btruefalse (w : World) (os : OsState) : segRun treeTable prg ((w.withFollow "comprehension-iter-twice" true).withFollow "special-get-raises" false) 39 ann0 1 13000 (SAB ((w.withFollow "comprehension-iter-twice" true).withFollow "special-get-raises" false) os).abs thAB = some (.next, (SAE ((w.withFollow "comprehension-iter-twice" true).withFollow "special-get-raises" false) os).abs, cT, posAE) := segRun_moreE (n := 12690) (k := 310) rfl (seg_goE (n := 143) (N := 12547) rfl (ofGo (atruefalse w os)) (d1 ((w.withFollow "comprehension-iter-twice" true).withFollow "special-get-raises" false) os))
theorem bfalsetrue (w : World) (os : OsState) : segRun treeTable prg ((w.withFollow "comprehension-iter-twice" false).withFollow "special-get-raises" true) 39 ann0 1 13000 (SAB ((w.withFollow "comprehension-iter-twice" false).withFollow "special-get-raises" true) os).abs thAB = some (.next, (SAE ((w.withFollow "comprehension-iter-twice" false).withFollow "special-get-raises" true) os).abs, cT, posAE) := segRun_moreE (n := 12700) (k := 300) rfl (seg_goE (n := 153) (N := 12547) rfl (ofGo (afalsetrue w os)) (d1 ((w.withFollow "comprehension-iter-twice" false).withFollow "special-get-raises" true) os))
theorem bfalsefalse (w : World) (os : OsState) : segRun treeTable prg ((w.withFollow "comprehension-iter-twice" false).withFollow "special-get-raises" false) 39 ann0 1 13000 (SAB ((w.withFollow "comprehension-iter-twice" false).withFollow "special-get-raises" false) os).abs thAB = some (.next, (SAE ((w.withFollow "comprehension-iter-twice" false).withFollow "special-get-raises" false) os).abs, cT, posAE) := segRun_moreE (n := 12700) (k := 300) rfl (seg_goE (n := 153) (N := 12547) rfl (ofGo (afalsefalse w os)) (d1 ((w.withFollow "comprehension-iter-twice" false).withFollow "special-get-raises" false) os))
theorem pAB (w : World) (os : OsState) : segRun treeTable prg w 39 ann0 1 13000 (SAB w os).abs thAB = some (.next, (SAE w os).abs, cT, posAE) :=
  byRow2 "special-get-raises" (P := fun w => ∀ os, segRun treeTable prg w 39 ann0 1 13000 (SAB w os).abs thAB = some (.next, (SAE w os).abs, cT, posAE))
    (fun w => byRow2 "comprehension-iter-twice" (P := fun w => ∀ os, segRun treeTable prg (w.withFollow "special-get-raises" false) 39 ann0 1 13000 (SAB (w.withFollow "special-get-raises" false) os).abs thAB = some (.next, (SAE (w.withFollow "special-get-raises" false) os).abs, cT, posAE)) (fun w os => bfalsefalse w os) (fun w os => btruefalse w os) w)
    (fun w => byRow2 "comprehension-iter-twice" (P := fun w => ∀ os, segRun treeTable prg (w.withFollow "special-get-raises" true) 39 ann0 1 13000 (SAB (w.withFollow "special-get-raises" true) os).abs thAB = some (.next, (SAE (w.withFollow "special-get-raises" true) os).abs, cT, posAE)) (fun w os => bfalsetrue w os) (fun w os => btruetrue w os) w) w os
theorem q8 (w : World) (os : OsState) : segRun treeTable prg w 39 ann0 1 13000 (S8 w os).abs (piecesOf (sts 193 1) envT cT ⟨1215, 0, 1215, 8⟩ B0) = some (.next, (S9 w os).abs, cT, ⟨1216, 0, 1216, 9⟩) := pAB w os
theorem p9 (w : World) (os : OsState) : runF prg w 39 ann0 1 454 (S9 w os) (piecesOf (sts 194 17) envT cT ⟨1216, 0, 1216, 9⟩ B0) = some (.next, S10 w os, cT, ⟨1339, 0, 1360, 15⟩) := by kernel_rfl
theorem q9 (w : World) (os : OsState) : segRun treeTable prg w 39 ann0 1 454 (S9 w os).abs (piecesOf (sts 194 17) envT cT ⟨1216, 0, 1216, 9⟩ B0) = some (.next, (S10 w os).abs, cT, ⟨1339, 0, 1360, 15⟩) := ofRun (p9 w os)
def HE (P : Params) : Heap := ⟨#[
  (o (t "dict") (.dict #[(er P ⟨#[95, 95, 110, 97, 109, 101, 95, 95]⟩ 1 (.str ⟨#[98, 117, 105, 108, 116, 105, 110, 115]⟩ 160)), (er P ⟨#[95, 95, 100, 111, 99, 95, 95]⟩ 2 (b "builtins.__doc__:str#opaque")), (er P ⟨#[95, 95, 112, 97, 99, 107, 97, 103, 101, 95, 95]⟩ 3 (b "builtins.__package__:str#opaque")), (er P ⟨#[95, 95, 108, 111, 97, 100, 101, 114, 95, 95]⟩ 4 (b "builtins.__loader__:shared#opaque")), (er P ⟨#[95, 95, 115, 112, 101, 99, 95, 95]⟩ 5 (b "builtins.__spec__#opaque")), (er P ⟨#[95, 95, 98, 117, 105, 108, 100, 95, 99, 108, 97, 115, 115, 95, 95]⟩ 6 (b "__build_class__")), (er P ⟨#[95, 95, 105, 109, 112, 111, 114, 116, 95, 95]⟩ 7 (b "__import__")), (er P ⟨#[97, 98, 115]⟩ 8 (b "abs")), (er P ⟨#[97, 108, 108]⟩ 9 (b "all")), (er P ⟨#[97, 110, 121]⟩ 10 (b "any")), (er P ⟨#[97, 115, 99, 105, 105]⟩ 11 (b "ascii")), (er P ⟨#[98, 105, 110]⟩ 12 (b "bin")), (er P ⟨#[98, 114, 101, 97, 107, 112, 111, 105, 110, 116]⟩ 13 (b "breakpoint")), (er P ⟨#[99, 97, 108, 108, 97, 98, 108, 101]⟩ 14 (b "callable")), (er P ⟨#[99, 104, 114]⟩ 15 (b "chr")), (er P ⟨#[99, 111, 109, 112, 105, 108, 101]⟩ 16 (b "compile")), (er P ⟨#[100, 101, 108, 97, 116, 116, 114]⟩ 17 (b "delattr")), (er P ⟨#[100, 105, 114]⟩ 18 (b "dir")), (er P ⟨#[100, 105, 118, 109, 111, 100]⟩ 19 (b "divmod")), (er P ⟨#[101, 118, 97, 108]⟩ 20 (b "eval")), (er P ⟨#[101, 120, 101, 99]⟩ 21 (b "exec")), (er P ⟨#[102, 111, 114, 109, 97, 116]⟩ 22 (b "format")), (er P ⟨#[103, 101, 116, 97, 116, 116, 114]⟩ 23 (b "getattr")), (er P ⟨#[103, 108, 111, 98, 97, 108, 115]⟩ 24 (b "globals")), (er P ⟨#[104, 97, 115, 97, 116, 116, 114]⟩ 25 (b "hasattr")), (er P ⟨#[104, 97, 115, 104]⟩ 26 (b "hash")), (er P ⟨#[104, 101, 120]⟩ 27 (b "hex")), (er P ⟨#[105, 100]⟩ 28 (b "id")), (er P ⟨#[105, 110, 112, 117, 116]⟩ 29 (b "input")), (er P ⟨#[105, 115, 105, 110, 115, 116, 97, 110, 99, 101]⟩ 30 (b "isinstance")), (er P ⟨#[105, 115, 115, 117, 98, 99, 108, 97, 115, 115]⟩ 31 (b "issubclass")), (er P ⟨#[105, 116, 101, 114]⟩ 32 (b "iter")), (er P ⟨#[97, 105, 116, 101, 114]⟩ 33 (b "aiter")), (er P ⟨#[108, 101, 110]⟩ 34 (b "len")), (er P ⟨#[108, 111, 99, 97, 108, 115]⟩ 35 (b "locals")), (er P ⟨#[109, 97, 120]⟩ 36 (b "max")), (er P ⟨#[109, 105, 110]⟩ 37 (b "min")), (er P ⟨#[110, 101, 120, 116]⟩ 38 (b "next")), (er P ⟨#[97, 110, 101, 120, 116]⟩ 39 (b "anext")), (er P ⟨#[111, 99, 116]⟩ 40 (b "oct")), (er P ⟨#[111, 114, 100]⟩ 41 (b "ord")), (er P ⟨#[112, 111, 119]⟩ 42 (b "pow")), (er P ⟨#[112, 114, 105, 110, 116]⟩ 43 (b "print")), (er P ⟨#[114, 101, 112, 114]⟩ 44 (b "repr")), (er P ⟨#[114, 111, 117, 110, 100]⟩ 45 (b "round")), (er P ⟨#[115, 101, 116, 97, 116, 116, 114]⟩ 46 (b "setattr")), (er P ⟨#[115, 111, 114, 116, 101, 100]⟩ 47 (b "sorted")), (er P ⟨#[115, 117, 109]⟩ 48 (b "sum")), (er P ⟨#[118, 97, 114, 115]⟩ 49 (b "vars")), (er P ⟨#[78, 111, 110, 101]⟩ 50 .none), (er P ⟨#[69, 108, 108, 105, 112, 115, 105, 115]⟩ 51 .ellipsis), (er P ⟨#[78, 111, 116, 73, 109, 112, 108, 101, 109, 101, 110, 116, 101, 100]⟩ 52 .notImplemented), (er P ⟨#[70, 97, 108, 115, 101]⟩ 53 (.bool false)), (er P ⟨#[84, 114, 117, 101]⟩ 54 (.bool true)), (er P ⟨#[98, 111, 111, 108]⟩ 55 (t "bool")), (er P ⟨#[109, 101, 109, 111, 114, 121, 118, 105, 101, 119]⟩ 56 (t "memoryview")), (er P ⟨#[98, 121, 116, 101, 97, 114, 114, 97, 121]⟩ 57 (t "bytearray")), (er P ⟨#[98, 121, 116, 101, 115]⟩ 58 (t "bytes")), (er P ⟨#[99, 108, 97, 115, 115, 109, 101, 116, 104, 111, 100]⟩ 59 (t "classmethod")), (er P ⟨#[99, 111, 109, 112, 108, 101, 120]⟩ 60 (t "complex")), (er P ⟨#[100, 105, 99, 116]⟩ 61 (t "dict")), (er P ⟨#[101, 110, 117, 109, 101, 114, 97, 116, 101]⟩ 62 (t "enumerate")), (er P ⟨#[102, 105, 108, 116, 101, 114]⟩ 63 (t "filter")), (er P ⟨#[102, 108, 111, 97, 116]⟩ 64 (t "float")), (er P ⟨#[102, 114, 111, 122, 101, 110, 115, 101, 116]⟩ 65 (t "frozenset")), (er P ⟨#[112, 114, 111, 112, 101, 114, 116, 121]⟩ 66 (t "property")), (er P ⟨#[105, 110, 116]⟩ 67 (t "int")), (er P ⟨#[108, 105, 115, 116]⟩ 68 (t "list")), (er P ⟨#[109, 97, 112]⟩ 69 (t "map")), (er P ⟨#[111, 98, 106, 101, 99, 116]⟩ 70 (t "object")), (er P ⟨#[114, 97, 110, 103, 101]⟩ 71 (t "range")), (er P ⟨#[114, 101, 118, 101, 114, 115, 101, 100]⟩ 72 (t "reversed")), (er P ⟨#[115, 101, 116]⟩ 73 (t "set")), (er P ⟨#[115, 108, 105, 99, 101]⟩ 74 (t "slice")), (er P ⟨#[115, 116, 97, 116, 105, 99, 109, 101, 116, 104, 111, 100]⟩ 75 (t "staticmethod")), (er P ⟨#[115, 116, 114]⟩ 76 (t "str")), (er P ⟨#[115, 117, 112, 101, 114]⟩ 77 (t "super")), (er P ⟨#[116, 117, 112, 108, 101]⟩ 78 (t "tuple")), (er P ⟨#[116, 121, 112, 101]⟩ 79 (t "type")), (er P ⟨#[122, 105, 112]⟩ 80 (t "zip")), (er P ⟨#[95, 95, 100, 101, 98, 117, 103, 95, 95]⟩ 81 (.bool true)), (er P ⟨#[66, 97, 115, 101, 69, 120, 99, 101, 112, 116, 105, 111, 110]⟩ 82 (t "BaseException")), (er P ⟨#[66, 97, 115, 101, 69, 120, 99, 101, 112, 116, 105, 111, 110, 71, 114, 111, 117, 112]⟩ 83 (t "BaseExceptionGroup")), (er P ⟨#[69, 120, 99, 101, 112, 116, 105, 111, 110]⟩ 84 (t "Exception")), (er P ⟨#[71, 101, 110, 101, 114, 97, 116, 111, 114, 69, 120, 105, 116]⟩ 85 (t "GeneratorExit")), (er P ⟨#[75, 101, 121, 98, 111, 97, 114, 100, 73, 110, 116, 101, 114, 114, 117, 112, 116]⟩ 86 (t "KeyboardInterrupt")), (er P ⟨#[83, 121, 115, 116, 101, 109, 69, 120, 105, 116]⟩ 87 (t "SystemExit")), (er P ⟨#[65, 114, 105, 116, 104, 109, 101, 116, 105, 99, 69, 114, 114, 111, 114]⟩ 88 (t "ArithmeticError")), (er P ⟨#[65, 115, 115, 101, 114, 116, 105, 111, 110, 69, 114, 114, 111, 114]⟩ 89 (t "AssertionError")), (er P ⟨#[65, 116, 116, 114, 105, 98, 117, 116, 101, 69, 114, 114, 111, 114]⟩ 90 (t "AttributeError")), (er P ⟨#[66, 117, 102, 102, 101, 114, 69, 114, 114, 111, 114]⟩ 91 (t "BufferError")), (er P ⟨#[69, 79, 70, 69, 114, 114, 111, 114]⟩ 92 (t "EOFError")), (er P ⟨#[73, 109, 112, 111, 114, 116, 69, 114, 114, 111, 114]⟩ 93 (t "ImportError")), (er P ⟨#[76, 111, 111, 107, 117, 112, 69, 114, 114, 111, 114]⟩ 94 (t "LookupError")), (er P ⟨#[77, 101, 109, 111, 114, 121, 69, 114, 114, 111, 114]⟩ 95 (t "MemoryError")), (er P ⟨#[78, 97, 109, 101, 69, 114, 114, 111, 114]⟩ 96 (t "NameError")), (er P ⟨#[79, 83, 69, 114, 114, 111, 114]⟩ 97 (t "OSError")), (er P ⟨#[82, 101, 102, 101, 114, 101, 110, 99, 101, 69, 114, 114, 111, 114]⟩ 98 (t "ReferenceError")), (er P ⟨#[82, 117, 110, 116, 105, 109, 101, 69, 114, 114, 111, 114]⟩ 99 (t "RuntimeError")), (er P ⟨#[83, 116, 111, 112, 65, 115, 121, 110, 99, 73, 116, 101, 114, 97, 116, 105, 111, 110]⟩ 100 (t "StopAsyncIteration")), (er P ⟨#[83, 116, 111, 112, 73, 116, 101, 114, 97, 116, 105, 111, 110]⟩ 101 (t "StopIteration")), (er P ⟨#[83, 121, 110, 116, 97, 120, 69, 114, 114, 111, 114]⟩ 102 (t "SyntaxError")), (er P ⟨#[83, 121, 115, 116, 101, 109, 69, 114, 114, 111, 114]⟩ 103 (t "SystemError")), (er P ⟨#[84, 121, 112, 101, 69, 114, 114, 111, 114]⟩ 104 (t "TypeError")), (er P ⟨#[86, 97, 108, 117, 101, 69, 114, 114, 111, 114]⟩ 105 (t "ValueError")), (er P ⟨#[87, 97, 114, 110, 105, 110, 103]⟩ 106 (t "Warning")), (er P ⟨#[70, 108, 111, 97, 116, 105, 110, 103, 80, 111, 105, 110, 116, 69, 114, 114, 111, 114]⟩ 107 (t "FloatingPointError")), (er P ⟨#[79, 118, 101, 114, 102, 108, 111, 119, 69, 114, 114, 111, 114]⟩ 108 (t "OverflowError")), (er P ⟨#[90, 101, 114, 111, 68, 105, 118, 105, 115, 105, 111, 110, 69, 114, 114, 111, 114]⟩ 109 (t "ZeroDivisionError")), (er P ⟨#[66, 121, 116, 101, 115, 87, 97, 114, 110, 105, 110, 103]⟩ 110 (t "BytesWarning")), (er P ⟨#[68, 101, 112, 114, 101, 99, 97, 116, 105, 111, 110, 87, 97, 114, 110, 105, 110, 103]⟩ 111 (t "DeprecationWarning")), (er P ⟨#[69, 110, 99, 111, 100, 105, 110, 103, 87, 97, 114, 110, 105, 110, 103]⟩ 112 (t "EncodingWarning")), (er P ⟨#[70, 117, 116, 117, 114, 101, 87, 97, 114, 110, 105, 110, 103]⟩ 113 (t "FutureWarning")), (er P ⟨#[73, 109, 112, 111, 114, 116, 87, 97, 114, 110, 105, 110, 103]⟩ 114 (t "ImportWarning")), (er P ⟨#[80, 101, 110, 100, 105, 110, 103, 68, 101, 112, 114, 101, 99, 97, 116, 105, 111, 110, 87, 97, 114, 110, 105, 110, 103]⟩ 115 (t "PendingDeprecationWarning")), (er P ⟨#[82, 101, 115, 111, 117, 114, 99, 101, 87, 97, 114, 110, 105, 110, 103]⟩ 116 (t "ResourceWarning")), (er P ⟨#[82, 117, 110, 116, 105, 109, 101, 87, 97, 114, 110, 105, 110, 103]⟩ 117 (t "RuntimeWarning")), (er P ⟨#[83, 121, 110, 116, 97, 120, 87, 97, 114, 110, 105, 110, 103]⟩ 118 (t "SyntaxWarning")), (er P ⟨#[85, 110, 105, 99, 111, 100, 101, 87, 97, 114, 110, 105, 110, 103]⟩ 119 (t "UnicodeWarning")), (er P ⟨#[85, 115, 101, 114, 87, 97, 114, 110, 105, 110, 103]⟩ 120 (t "UserWarning")), (er P ⟨#[66, 108, 111, 99, 107, 105, 110, 103, 73, 79, 69, 114, 114, 111, 114]⟩ 121 (t "BlockingIOError")), (er P ⟨#[67, 104, 105, 108, 100, 80, 114, 111, 99, 101, 115, 115, 69, 114, 114, 111, 114]⟩ 122 (t "ChildProcessError")), (er P ⟨#[67, 111, 110, 110, 101, 99, 116, 105, 111, 110, 69, 114, 114, 111, 114]⟩ 123 (t "ConnectionError")), (er P ⟨#[70, 105, 108, 101, 69, 120, 105, 115, 116, 115, 69, 114, 114, 111, 114]⟩ 124 (t "FileExistsError")), (er P ⟨#[70, 105, 108, 101, 78, 111, 116, 70, 111, 117, 110, 100, 69, 114, 114, 111, 114]⟩ 125 (t "FileNotFoundError")), (er P ⟨#[73, 110, 116, 101, 114, 114, 117, 112, 116, 101, 100, 69, 114, 114, 111, 114]⟩ 126 (t "InterruptedError")), (er P ⟨#[73, 115, 65, 68, 105, 114, 101, 99, 116, 111, 114, 121, 69, 114, 114, 111, 114]⟩ 127 (t "IsADirectoryError")), (er P ⟨#[78, 111, 116, 65, 68, 105, 114, 101, 99, 116, 111, 114, 121, 69, 114, 114, 111, 114]⟩ 128 (t "NotADirectoryError")), (er P ⟨#[80, 101, 114, 109, 105, 115, 115, 105, 111, 110, 69, 114, 114, 111, 114]⟩ 129 (t "PermissionError")), (er P ⟨#[80, 114, 111, 99, 101, 115, 115, 76, 111, 111, 107, 117, 112, 69, 114, 114, 111, 114]⟩ 130 (t "ProcessLookupError")), (er P ⟨#[84, 105, 109, 101, 111, 117, 116, 69, 114, 114, 111, 114]⟩ 131 (t "TimeoutError")), (er P ⟨#[73, 110, 100, 101, 110, 116, 97, 116, 105, 111, 110, 69, 114, 114, 111, 114]⟩ 132 (t "IndentationError")), (er P ⟨#[95, 73, 110, 99, 111, 109, 112, 108, 101, 116, 101, 73, 110, 112, 117, 116, 69, 114, 114, 111, 114]⟩ 133 (t "_IncompleteInputError")), (er P ⟨#[73, 110, 100, 101, 120, 69, 114, 114, 111, 114]⟩ 134 (t "IndexError")), (er P ⟨#[75, 101, 121, 69, 114, 114, 111, 114]⟩ 135 (t "KeyError")), (er P ⟨#[77, 111, 100, 117, 108, 101, 78, 111, 116, 70, 111, 117, 110, 100, 69, 114, 114, 111, 114]⟩ 136 (t "ModuleNotFoundError")), (er P ⟨#[78, 111, 116, 73, 109, 112, 108, 101, 109, 101, 110, 116, 101, 100, 69, 114, 114, 111, 114]⟩ 137 (t "NotImplementedError")), (er P ⟨#[80, 121, 116, 104, 111, 110, 70, 105, 110, 97, 108, 105, 122, 97, 116, 105, 111, 110, 69, 114, 114, 111, 114]⟩ 138 (t "PythonFinalizationError")), (er P ⟨#[82, 101, 99, 117, 114, 115, 105, 111, 110, 69, 114, 114, 111, 114]⟩ 139 (t "RecursionError")), (er P ⟨#[85, 110, 98, 111, 117, 110, 100, 76, 111, 99, 97, 108, 69, 114, 114, 111, 114]⟩ 140 (t "UnboundLocalError")), (er P ⟨#[85, 110, 105, 99, 111, 100, 101, 69, 114, 114, 111, 114]⟩ 141 (t "UnicodeError")), (er P ⟨#[66, 114, 111, 107, 101, 110, 80, 105, 112, 101, 69, 114, 114, 111, 114]⟩ 142 (t "BrokenPipeError")), (er P ⟨#[67, 111, 110, 110, 101, 99, 116, 105, 111, 110, 65, 98, 111, 114, 116, 101, 100, 69, 114, 114, 111, 114]⟩ 143 (t "ConnectionAbortedError")), (er P ⟨#[67, 111, 110, 110, 101, 99, 116, 105, 111, 110, 82, 101, 102, 117, 115, 101, 100, 69, 114, 114, 111, 114]⟩ 144 (t "ConnectionRefusedError")), (er P ⟨#[67, 111, 110, 110, 101, 99, 116, 105, 111, 110, 82, 101, 115, 101, 116, 69, 114, 114, 111, 114]⟩ 145 (t "ConnectionResetError")), (er P ⟨#[84, 97, 98, 69, 114, 114, 111, 114]⟩ 146 (t "TabError")), (er P ⟨#[85, 110, 105, 99, 111, 100, 101, 68, 101, 99, 111, 100, 101, 69, 114, 114, 111, 114]⟩ 147 (t "UnicodeDecodeError")), (er P ⟨#[85, 110, 105, 99, 111, 100, 101, 69, 110, 99, 111, 100, 101, 69, 114, 114, 111, 114]⟩ 148 (t "UnicodeEncodeError")), (er P ⟨#[85, 110, 105, 99, 111, 100, 101, 84, 114, 97, 110, 115, 108, 97, 116, 101, 69, 114, 114, 111, 114]⟩ 149 (t "UnicodeTranslateError")), (er P ⟨#[69, 120, 99, 101, 112, 116, 105, 111, 110, 71, 114, 111, 117, 112]⟩ 150 (t "ExceptionGroup")), (er P ⟨#[69, 110, 118, 105, 114, 111, 110, 109, 101, 110, 116, 69, 114, 114, 111, 114]⟩ 151 (t "OSError")), (er P ⟨#[73, 79, 69, 114, 114, 111, 114]⟩ 152 (t "OSError")), (er P ⟨#[111, 112, 101, 110]⟩ 153 (b "open")), (er P ⟨#[113, 117, 105, 116]⟩ 154 (b "builtins.quit#opaque")), (er P ⟨#[101, 120, 105, 116]⟩ 155 (b "builtins.exit#opaque")), (er P ⟨#[99, 111, 112, 121, 114, 105, 103, 104, 116]⟩ 156 (b "builtins.copyright#opaque")), (er P ⟨#[99, 114, 101, 100, 105, 116, 115]⟩ 157 (b "builtins.credits#opaque")), (er P ⟨#[108, 105, 99, 101, 110, 115, 101]⟩ 158 (b "builtins.license#opaque")), (er P ⟨#[104, 101, 108, 112]⟩ 159 (b "builtins.help#opaque"))] 159)),
  (o (t "dict") (.dict #[(er P ⟨#[98, 117, 105, 108, 116, 105, 110, 115]⟩ 162 (r 4)), (er P ⟨#[95, 95, 109, 97, 105, 110, 95, 95]⟩ 163 (r 5)), (er P ⟨#[95, 115, 116, 114, 117, 99, 116]⟩ 284 (r 13))] 3)),
  (o .none (.dict #[(er P ⟨#[105, 109, 112, 111, 114, 116, 46, 108, 111, 97, 100, 101, 100, 46, 95, 115, 116, 114, 117, 99, 116]⟩ 185 (.bool true)), (er P ⟨#[99, 108, 97, 115, 115, 46, 95, 102, 114, 111, 122, 101, 110, 95, 105, 109, 112, 111, 114, 116, 108, 105, 98, 95, 101, 120, 116, 101, 114, 110, 97, 108, 46, 95, 76, 111, 97, 100, 101, 114, 66, 97, 115, 105, 99, 115]⟩ 190 (r 16)), (er P ⟨#[119, 97, 116, 99, 104, 101, 100, 46, 105, 109, 112, 111, 114, 116]⟩ 206 (r 20)), (er P ⟨#[99, 108, 97, 115, 115, 46, 95, 102, 114, 111, 122, 101, 110, 95, 105, 109, 112, 111, 114, 116, 108, 105, 98, 95, 101, 120, 116, 101, 114, 110, 97, 108, 46, 70, 105, 108, 101, 76, 111, 97, 100, 101, 114]⟩ 207 (r 22)), (er P ⟨#[99, 108, 97, 115, 115, 46, 95, 102, 114, 111, 122, 101, 110, 95, 105, 109, 112, 111, 114, 116, 108, 105, 98, 95, 101, 120, 116, 101, 114, 110, 97, 108, 46, 69, 120, 116, 101, 110, 115, 105, 111, 110, 70, 105, 108, 101, 76, 111, 97, 100, 101, 114]⟩ 228 (r 27)), (er P ⟨#[99, 108, 97, 115, 115, 46, 95, 102, 114, 111, 122, 101, 110, 95, 105, 109, 112, 111, 114, 116, 108, 105, 98, 46, 77, 111, 100, 117, 108, 101, 83, 112, 101, 99]⟩ 256 (r 33)), (er P ⟨#[115, 121, 115, 46, 109, 111, 100, 117, 108, 101, 115, 46, 98, 111, 111, 107, 101, 100, 45, 101, 112, 111, 99, 104]⟩ 285 (i 3 0)), (er P ⟨#[99, 108, 97, 115, 115, 46, 115, 116, 114, 117, 99, 116, 46, 101, 114, 114, 111, 114]⟩ 302 (t "struct.error")), (er P ⟨#[105, 109, 112, 111, 114, 116, 46, 108, 97, 116, 101, 114, 45, 108, 97, 105, 100, 46, 95, 115, 116, 114, 117, 99, 116]⟩ 304 (.bool true)), (er P ⟨#[119, 97, 116, 99, 104, 101, 100, 46, 108, 105, 98, 114, 97, 114, 121]⟩ 306 (r 38)), (er P ⟨#[119, 97, 116, 99, 104, 101, 100, 46, 108, 105, 98, 114, 97, 114, 121, 45, 111, 98, 106, 101, 99, 116, 115]⟩ 0 (.str ⟨#[13]⟩ 0))] 11)),
  (o (t "dict") (.dict #[(er P ⟨#[95, 95, 110, 97, 109, 101, 95, 95]⟩ 165 (.str ⟨#[95, 95, 109, 97, 105, 110, 95, 95]⟩ 164)), (er P ⟨#[95, 95, 100, 111, 99, 95, 95]⟩ 166 .none), (er P ⟨#[95, 95, 112, 97, 99, 107, 97, 103, 101, 95, 95]⟩ 167 .none), (er P ⟨#[95, 95, 108, 111, 97, 100, 101, 114, 95, 95]⟩ 168 (b "__main__.__loader__#opaque")), (er P ⟨#[95, 95, 115, 112, 101, 99, 95, 95]⟩ 169 .none), (er P ⟨#[95, 95, 97, 110, 110, 111, 116, 97, 116, 105, 111, 110, 115, 95, 95]⟩ 170 (r 6)), (er P ⟨#[95, 95, 98, 117, 105, 108, 116, 105, 110, 115, 95, 95]⟩ 171 (r 4)), (er P ⟨#[95, 95, 102, 105, 108, 101, 95, 95]⟩ 173 (.str ⟨#[47, 99, 108, 97, 105, 109, 47, 99, 117, 116, 46, 112, 121]⟩ 172)), (er P ⟨#[95, 95, 99, 97, 99, 104, 101, 100, 95, 95]⟩ 174 .none), (er P ⟨#[112, 97, 99, 107]⟩ 312 (b "_struct.pack"))] 10)),
  (oo (t "module") (some 0) .plain #[]),
  (oo (t "module") (some 3) .plain #[]),
  (o (t "dict") (.dict #[] 0)),
  (o (t "tuple") (.seq #[] 0)),
  (o .none (.fields #[])),
  (o (t "code") (.fields #[(.str ⟨#[60, 109, 111, 100, 117, 108, 101, 62]⟩ 176), (.str ⟨#[60, 109, 111, 100, 117, 108, 101, 62]⟩ 177), (.str ⟨#[47, 99, 108, 97, 105, 109, 47, 99, 117, 116, 46, 112, 121]⟩ 178), (i 1 0), (i 0 0), (i 0 0), (i 0 0), (i 0 0), (r 7), (.bool false), (i 175 0), (r 8), .none, .none, .none, .none, (i 179 0), (i 1 0), (.str ⟨#[47, 99, 108, 97, 105, 109, 47, 99, 117, 116, 46, 112, 121]⟩ 180)])),
  (oo (t "frame") none .plain #[(some (r 9)), (some (r 3)), (some (r 3)), none, (some (.str ⟨#[95, 95, 109, 97, 105, 110, 95, 95]⟩ 164)), none, (some (r 0))]),
  (o (t "tuple") (.seq #[(.str ⟨#[112, 97, 99, 107]⟩ 182)] 0)),
  (o (t "dict") (.dict #[(er P ⟨#[95, 95, 110, 97, 109, 101, 95, 95]⟩ 287 (.str ⟨#[95, 115, 116, 114, 117, 99, 116]⟩ 286)), (er P ⟨#[95, 95, 100, 111, 99, 95, 95]⟩ 288 (b "_struct.__doc__:str#opaque")), (er P ⟨#[95, 95, 112, 97, 99, 107, 97, 103, 101, 95, 95]⟩ 290 (.str ⟨#[]⟩ 289)), (er P ⟨#[95, 95, 108, 111, 97, 100, 101, 114, 95, 95]⟩ 291 (r 29)), (er P ⟨#[95, 95, 115, 112, 101, 99, 95, 95]⟩ 292 (r 37)), (er P ⟨#[95, 99, 108, 101, 97, 114, 99, 97, 99, 104, 101]⟩ 293 (b "_struct._clearcache")), (er P ⟨#[99, 97, 108, 99, 115, 105, 122, 101]⟩ 294 (b "_struct.calcsize")), (er P ⟨#[105, 116, 101, 114, 95, 117, 110, 112, 97, 99, 107]⟩ 295 (b "_struct.iter_unpack")), (er P ⟨#[112, 97, 99, 107]⟩ 296 (b "_struct.pack")), (er P ⟨#[112, 97, 99, 107, 95, 105, 110, 116, 111]⟩ 297 (b "_struct.pack_into")), (er P ⟨#[117, 110, 112, 97, 99, 107]⟩ 298 (b "_struct.unpack")), (er P ⟨#[117, 110, 112, 97, 99, 107, 95, 102, 114, 111, 109]⟩ 299 (b "_struct.unpack_from")), (er P ⟨#[95, 95, 102, 105, 108, 101, 95, 95]⟩ 300 (.str ⟨#[47, 110, 105, 120, 47, 115, 116, 111, 114, 101, 47, 119, 106, 49, 102, 53, 54, 113, 107, 121, 52, 112, 109, 106, 99, 55, 108, 48, 114, 54, 98, 54, 108, 55, 119, 104, 110, 110, 119, 55, 104, 112, 54, 45, 112, 121, 116, 104, 111, 110, 51, 45, 51, 46, 49, 51, 46, 49, 53, 47, 108, 105, 98, 47, 112, 121, 116, 104, 111, 110, 51, 46, 49, 51, 47, 108, 105, 98, 45, 100, 121, 110, 108, 111, 97, 100, 47, 95, 115, 116, 114, 117, 99, 116, 46, 99, 112, 121, 116, 104, 111, 110, 45, 51, 49, 51, 45, 120, 56, 54, 95, 54, 52, 45, 108, 105, 110, 117, 120, 45, 103, 110, 117, 46, 115, 111]⟩ 186)), (er P ⟨#[83, 116, 114, 117, 99, 116]⟩ 301 (t "_struct.Struct")), (er P ⟨#[101, 114, 114, 111, 114]⟩ 303 (t "struct.error"))] 15)),
  (oo (t "module") (some 12) .plain #[]),
  (o (t "dict") (.dict #[(er P ⟨#[110, 97, 109, 101]⟩ 188 (.str ⟨#[95, 115, 116, 114, 117, 99, 116]⟩ 187)), (er P ⟨#[112, 97, 116, 104]⟩ 189 (.str ⟨#[47, 110, 105, 120, 47, 115, 116, 111, 114, 101, 47, 119, 106, 49, 102, 53, 54, 113, 107, 121, 52, 112, 109, 106, 99, 55, 108, 48, 114, 54, 98, 54, 108, 55, 119, 104, 110, 110, 119, 55, 104, 112, 54, 45, 112, 121, 116, 104, 111, 110, 51, 45, 51, 46, 49, 51, 46, 49, 53, 47, 108, 105, 98, 47, 112, 121, 116, 104, 111, 110, 51, 46, 49, 51, 47, 108, 105, 98, 45, 100, 121, 110, 108, 111, 97, 100, 47, 95, 115, 116, 114, 117, 99, 116, 46, 99, 112, 121, 116, 104, 111, 110, 45, 51, 49, 51, 45, 120, 56, 54, 95, 54, 52, 45, 108, 105, 110, 117, 120, 45, 103, 110, 117, 46, 115, 111]⟩ 186))] 2)),
  (o (t "dict") (.dict #[(er P ⟨#[95, 95, 109, 111, 100, 117, 108, 101, 95, 95]⟩ 193 (.str ⟨#[95, 102, 114, 111, 122, 101, 110, 95, 105, 109, 112, 111, 114, 116, 108, 105, 98, 95, 101, 120, 116, 101, 114, 110, 97, 108]⟩ 191)), (er P ⟨#[95, 95, 102, 105, 114, 115, 116, 108, 105, 110, 101, 110, 111, 95, 95]⟩ 194 (i 1001 192)), (er P ⟨#[95, 95, 100, 111, 99, 95, 95]⟩ 195 (b "_frozen_importlib_external._LoaderBasics.__doc__:str#opaque")), (er P ⟨#[105, 115, 95, 112, 97, 99, 107, 97, 103, 101]⟩ 196 (b "_frozen_importlib_external._LoaderBasics.is_package#opaque")), (er P ⟨#[99, 114, 101, 97, 116, 101, 95, 109, 111, 100, 117, 108, 101]⟩ 197 (b "_frozen_importlib_external._LoaderBasics.create_module#opaque")), (er P ⟨#[101, 120, 101, 99, 95, 109, 111, 100, 117, 108, 101]⟩ 198 (b "_frozen_importlib_external._LoaderBasics.exec_module#opaque")), (er P ⟨#[108, 111, 97, 100, 95, 109, 111, 100, 117, 108, 101]⟩ 199 (b "_frozen_importlib_external._LoaderBasics.load_module#opaque")), (er P ⟨#[95, 95, 115, 116, 97, 116, 105, 99, 95, 97, 116, 116, 114, 105, 98, 117, 116, 101, 115, 95, 95]⟩ 200 (r 17)), (er P ⟨#[95, 95, 100, 105, 99, 116, 95, 95]⟩ 202 (r 18)), (er P ⟨#[95, 95, 119, 101, 97, 107, 114, 101, 102, 95, 95]⟩ 204 (r 19))] 10)),
  (o (t "type") (.cls ⟨⟨#[95, 76, 111, 97, 100, 101, 114, 66, 97, 115, 105, 99, 115]⟩, [(t "object")], [(r 16), (t "object")], 15, ⟨#[95, 76, 111, 97, 100, 101, 114, 66, 97, 115, 105, 99, 115]⟩, true, [], [(r 27)], false, none, false⟩)),
  (o (t "tuple") (.seq #[] 0)),
  (o (t "getset_descriptor") (.fields #[(.str ⟨#[95, 95, 100, 105, 99, 116, 95, 95]⟩ 201), (r 16), (b "function.__dict__"), (b "function.__dict__#set")])),
  (o (t "getset_descriptor") (.fields #[(.str ⟨#[95, 95, 119, 101, 97, 107, 114, 101, 102, 95, 95]⟩ 203), (r 16), (b "ExceptionGroup.__weakref__"), .none])),
  (o .none (.seq #[(i 15 0), (.str ⟨#[6, 193, 10, 95, 95, 109, 111, 100, 117, 108, 101, 95, 95, 6, 191, 26, 95, 102, 114, 111, 122, 101, 110, 95, 105, 109, 112, 111, 114, 116, 108, 105, 98, 95, 101, 120, 116, 101, 114, 110, 97, 108, 6, 194, 15, 95, 95, 102, 105, 114, 115, 116, 108, 105, 110, 101, 110, 111, 95, 95, 4, 192, 0, 1001, 6, 195, 7, 95, 95, 100, 111, 99, 95, 95, 9, 59, 95, 102, 114, 111, 122, 101, 110, 95, 105, 109, 112, 111, 114, 116, 108, 105, 98, 95, 101, 120, 116, 101, 114, 110, 97, 108, 46, 95, 76, 111, 97, 100, 101, 114, 66, 97, 115, 105, 99, 115, 46, 95, 95, 100, 111, 99, 95, 95, 58, 115, 116, 114, 35, 111, 112, 97, 113, 117, 101, 6, 196, 10, 105, 115, 95, 112, 97, 99, 107, 97, 103, 101, 9, 58, 95, 102, 114, 111, 122, 101, 110, 95, 105, 109, 112, 111, 114, 116, 108, 105, 98, 95, 101, 120, 116, 101, 114, 110, 97, 108, 46, 95, 76, 111, 97, 100, 101, 114, 66, 97, 115, 105, 99, 115, 46, 105, 115, 95, 112, 97, 99, 107, 97, 103, 101, 35, 111, 112, 97, 113, 117, 101, 6, 197, 13, 99, 114, 101, 97, 116, 101, 95, 109, 111, 100, 117, 108, 101, 9, 61, 95, 102, 114, 111, 122, 101, 110, 95, 105, 109, 112, 111, 114, 116, 108, 105, 98, 95, 101, 120, 116, 101, 114, 110, 97, 108, 46, 95, 76, 111, 97, 100, 101, 114, 66, 97, 115, 105, 99, 115, 46, 99, 114, 101, 97, 116, 101, 95, 109, 111, 100, 117, 108, 101, 35, 111, 112, 97, 113, 117, 101, 6, 198, 11, 101, 120, 101, 99, 95, 109, 111, 100, 117, 108, 101, 9, 59, 95, 102, 114, 111, 122, 101, 110, 95, 105, 109, 112, 111, 114, 116, 108, 105, 98, 95, 101, 120, 116, 101, 114, 110, 97, 108, 46, 95, 76, 111, 97, 100, 101, 114, 66, 97, 115, 105, 99, 115, 46, 101, 120, 101, 99, 95, 109, 111, 100, 117, 108, 101, 35, 111, 112, 97, 113, 117, 101, 6, 199, 11, 108, 111, 97, 100, 95, 109, 111, 100, 117, 108, 101, 9, 59, 95, 102, 114, 111, 122, 101, 110, 95, 105, 109, 112, 111, 114, 116, 108, 105, 98, 95, 101, 120, 116, 101, 114, 110, 97, 108, 46, 95, 76, 111, 97, 100, 101, 114, 66, 97, 115, 105, 99, 115, 46, 108, 111, 97, 100, 95, 109, 111, 100, 117, 108, 101, 35, 111, 112, 97, 113, 117, 101, 6, 200, 21, 95, 95, 115, 116, 97, 116, 105, 99, 95, 97, 116, 116, 114, 105, 98, 117, 116, 101, 115, 95, 95, 4, 0, 0, 17, 6, 202, 8, 95, 95, 100, 105, 99, 116, 95, 95, 4, 0, 0, 18, 6, 204, 11, 95, 95, 119, 101, 97, 107, 114, 101, 102, 95, 95, 4, 0, 0, 19]⟩ 0), (.bool true), (.bool true), (.str ⟨#[]⟩ 205), (i 21 0), (.str ⟨#[6, 212, 10, 95, 95, 109, 111, 100, 117, 108, 101, 95, 95, 6, 208, 26, 95, 102, 114, 111, 122, 101, 110, 95, 105, 109, 112, 111, 114, 116, 108, 105, 98, 95, 101, 120, 116, 101, 114, 110, 97, 108, 6, 213, 15, 95, 95, 102, 105, 114, 115, 116, 108, 105, 110, 101, 110, 111, 95, 95, 4, 209, 0, 1176, 6, 214, 7, 95, 95, 100, 111, 99, 95, 95, 9, 56, 95, 102, 114, 111, 122, 101, 110, 95, 105, 109, 112, 111, 114, 116, 108, 105, 98, 95, 101, 120, 116, 101, 114, 110, 97, 108, 46, 70, 105, 108, 101, 76, 111, 97, 100, 101, 114, 46, 95, 95, 100, 111, 99, 95, 95, 58, 115, 116, 114, 35, 111, 112, 97, 113, 117, 101, 6, 215, 8, 95, 95, 105, 110, 105, 116, 95, 95, 9, 53, 95, 102, 114, 111, 122, 101, 110, 95, 105, 109, 112, 111, 114, 116, 108, 105, 98, 95, 101, 120, 116, 101, 114, 110, 97, 108, 46, 70, 105, 108, 101, 76, 111, 97, 100, 101, 114, 46, 95, 95, 105, 110, 105, 116, 95, 95, 35, 111, 112, 97, 113, 117, 101, 6, 216, 6, 95, 95, 101, 113, 95, 95, 9, 51, 95, 102, 114, 111, 122, 101, 110, 95, 105, 109, 112, 111, 114, 116, 108, 105, 98, 95, 101, 120, 116, 101, 114, 110, 97, 108, 46, 70, 105, 108, 101, 76, 111, 97, 100, 101, 114, 46, 95, 95, 101, 113, 95, 95, 35, 111, 112, 97, 113, 117, 101, 6, 217, 8, 95, 95, 104, 97, 115, 104, 95, 95, 9, 53, 95, 102, 114, 111, 122, 101, 110, 95, 105, 109, 112, 111, 114, 116, 108, 105, 98, 95, 101, 120, 116, 101, 114, 110, 97, 108, 46, 70, 105, 108, 101, 76, 111, 97, 100, 101, 114, 46, 95, 95, 104, 97, 115, 104, 95, 95, 35, 111, 112, 97, 113, 117, 101, 6, 218, 11, 108, 111, 97, 100, 95, 109, 111, 100, 117, 108, 101, 9, 56, 95, 102, 114, 111, 122, 101, 110, 95, 105, 109, 112, 111, 114, 116, 108, 105, 98, 95, 101, 120, 116, 101, 114, 110, 97, 108, 46, 70, 105, 108, 101, 76, 111, 97, 100, 101, 114, 46, 108, 111, 97, 100, 95, 109, 111, 100, 117, 108, 101, 35, 111, 112, 97, 113, 117, 101, 6, 219, 12, 103, 101, 116, 95, 102, 105, 108, 101, 110, 97, 109, 101, 9, 57, 95, 102, 114, 111, 122, 101, 110, 95, 105, 109, 112, 111, 114, 116, 108, 105, 98, 95, 101, 120, 116, 101, 114, 110, 97, 108, 46, 70, 105, 108, 101, 76, 111, 97, 100, 101, 114, 46, 103, 101, 116, 95, 102, 105, 108, 101, 110, 97, 109, 101, 35, 111, 112, 97, 113, 117, 101, 6, 220, 8, 103, 101, 116, 95, 100, 97, 116, 97, 9, 53, 95, 102, 114, 111, 122, 101, 110, 95, 105, 109, 112, 111, 114, 116, 108, 105, 98, 95, 101, 120, 116, 101, 114, 110, 97, 108, 46, 70, 105, 108, 101, 76, 111, 97, 100, 101, 114, 46, 103, 101, 116, 95, 100, 97, 116, 97, 35, 111, 112, 97, 113, 117, 101, 6, 221, 19, 103, 101, 116, 95, 114, 101, 115, 111, 117, 114, 99, 101, 95, 114, 101, 97, 100, 101, 114, 9, 64, 95, 102, 114, 111, 122, 101, 110, 95, 105, 109, 112, 111, 114, 116, 108, 105, 98, 95, 101, 120, 116, 101, 114, 110, 97, 108, 46, 70, 105, 108, 101, 76, 111, 97, 100, 101, 114, 46, 103, 101, 116, 95, 114, 101, 115, 111, 117, 114, 99, 101, 95, 114, 101, 97, 100, 101, 114, 35, 111, 112, 97, 113, 117, 101, 6, 222, 21, 95, 95, 115, 116, 97, 116, 105, 99, 95, 97, 116, 116, 114, 105, 98, 117, 116, 101, 115, 95, 95, 4, 0, 0, 23, 6, 224, 8, 95, 95, 100, 105, 99, 116, 95, 95, 4, 0, 0, 24, 6, 226, 11, 95, 95, 119, 101, 97, 107, 114, 101, 102, 95, 95, 4, 0, 0, 25]⟩ 0), (.bool true), (.bool true), (.str ⟨#[]⟩ 227), (i 26 0), (.str ⟨#[6, 233, 10, 95, 95, 109, 111, 100, 117, 108, 101, 95, 95, 6, 229, 26, 95, 102, 114, 111, 122, 101, 110, 95, 105, 109, 112, 111, 114, 116, 108, 105, 98, 95, 101, 120, 116, 101, 114, 110, 97, 108, 6, 234, 15, 95, 95, 102, 105, 114, 115, 116, 108, 105, 110, 101, 110, 111, 95, 95, 4, 230, 0, 1296, 6, 235, 7, 95, 95, 100, 111, 99, 95, 95, 9, 65, 95, 102, 114, 111, 122, 101, 110, 95, 105, 109, 112, 111, 114, 116, 108, 105, 98, 95, 101, 120, 116, 101, 114, 110, 97, 108, 46, 69, 120, 116, 101, 110, 115, 105, 111, 110, 70, 105, 108, 101, 76, 111, 97, 100, 101, 114, 46, 95, 95, 100, 111, 99, 95, 95, 58, 115, 116, 114, 35, 111, 112, 97, 113, 117, 101, 6, 236, 8, 95, 95, 105, 110, 105, 116, 95, 95, 9, 62, 95, 102, 114, 111, 122, 101, 110, 95, 105, 109, 112, 111, 114, 116, 108, 105, 98, 95, 101, 120, 116, 101, 114, 110, 97, 108, 46, 69, 120, 116, 101, 110, 115, 105, 111, 110, 70, 105, 108, 101, 76, 111, 97, 100, 101, 114, 46, 95, 95, 105, 110, 105, 116, 95, 95, 35, 111, 112, 97, 113, 117, 101, 6, 237, 6, 95, 95, 101, 113, 95, 95, 9, 60, 95, 102, 114, 111, 122, 101, 110, 95, 105, 109, 112, 111, 114, 116, 108, 105, 98, 95, 101, 120, 116, 101, 114, 110, 97, 108, 46, 69, 120, 116, 101, 110, 115, 105, 111, 110, 70, 105, 108, 101, 76, 111, 97, 100, 101, 114, 46, 95, 95, 101, 113, 95, 95, 35, 111, 112, 97, 113, 117, 101, 6, 238, 8, 95, 95, 104, 97, 115, 104, 95, 95, 9, 62, 95, 102, 114, 111, 122, 101, 110, 95, 105, 109, 112, 111, 114, 116, 108, 105, 98, 95, 101, 120, 116, 101, 114, 110, 97, 108, 46, 69, 120, 116, 101, 110, 115, 105, 111, 110, 70, 105, 108, 101, 76, 111, 97, 100, 101, 114, 46, 95, 95, 104, 97, 115, 104, 95, 95, 35, 111, 112, 97, 113, 117, 101, 6, 239, 13, 99, 114, 101, 97, 116, 101, 95, 109, 111, 100, 117, 108, 101, 9, 67, 95, 102, 114, 111, 122, 101, 110, 95, 105, 109, 112, 111, 114, 116, 108, 105, 98, 95, 101, 120, 116, 101, 114, 110, 97, 108, 46, 69, 120, 116, 101, 110, 115, 105, 111, 110, 70, 105, 108, 101, 76, 111, 97, 100, 101, 114, 46, 99, 114, 101, 97, 116, 101, 95, 109, 111, 100, 117, 108, 101, 35, 111, 112, 97, 113, 117, 101, 6, 240, 11, 101, 120, 101, 99, 95, 109, 111, 100, 117, 108, 101, 9, 65, 95, 102, 114, 111, 122, 101, 110, 95, 105, 109, 112, 111, 114, 116, 108, 105, 98, 95, 101, 120, 116, 101, 114, 110, 97, 108, 46, 69, 120, 116, 101, 110, 115, 105, 111, 110, 70, 105, 108, 101, 76, 111, 97, 100, 101, 114, 46, 101, 120, 101, 99, 95, 109, 111, 100, 117, 108, 101, 35, 111, 112, 97, 113, 117, 101, 6, 241, 10, 105, 115, 95, 112, 97, 99, 107, 97, 103, 101, 9, 64, 95, 102, 114, 111, 122, 101, 110, 95, 105, 109, 112, 111, 114, 116, 108, 105, 98, 95, 101, 120, 116, 101, 114, 110, 97, 108, 46, 69, 120, 116, 101, 110, 115, 105, 111, 110, 70, 105, 108, 101, 76, 111, 97, 100, 101, 114, 46, 105, 115, 95, 112, 97, 99, 107, 97, 103, 101, 35, 111, 112, 97, 113, 117, 101, 6, 242, 8, 103, 101, 116, 95, 99, 111, 100, 101, 9, 62, 95, 102, 114, 111, 122, 101, 110, 95, 105, 109, 112, 111, 114, 116, 108, 105, 98, 95, 101, 120, 116, 101, 114, 110, 97, 108, 46, 69, 120, 116, 101, 110, 115, 105, 111, 110, 70, 105, 108, 101, 76, 111, 97, 100, 101, 114, 46, 103, 101, 116, 95, 99, 111, 100, 101, 35, 111, 112, 97, 113, 117, 101, 6, 243, 10, 103, 101, 116, 95, 115, 111, 117, 114, 99, 101, 9, 64, 95, 102, 114, 111, 122, 101, 110, 95, 105, 109, 112, 111, 114, 116, 108, 105, 98, 95, 101, 120, 116, 101, 114, 110, 97, 108, 46, 69, 120, 116, 101, 110, 115, 105, 111, 110, 70, 105, 108, 101, 76, 111, 97, 100, 101, 114, 46, 103, 101, 116, 95, 115, 111, 117, 114, 99, 101, 35, 111, 112, 97, 113, 117, 101, 6, 244, 12, 103, 101, 116, 95, 102, 105, 108, 101, 110, 97, 109, 101, 9, 66, 95, 102, 114, 111, 122, 101, 110, 95, 105, 109, 112, 111, 114, 116, 108, 105, 98, 95, 101, 120, 116, 101, 114, 110, 97, 108, 46, 69, 120, 116, 101, 110, 115, 105, 111, 110, 70, 105, 108, 101, 76, 111, 97, 100, 101, 114, 46, 103, 101, 116, 95, 102, 105, 108, 101, 110, 97, 109, 101, 35, 111, 112, 97, 113, 117, 101, 6, 245, 21, 95, 95, 115, 116, 97, 116, 105, 99, 95, 97, 116, 116, 114, 105, 98, 117, 116, 101, 115, 95, 95, 4, 0, 0, 28]⟩ 0), (.bool true), (.bool true), (.str ⟨#[]⟩ 246), (i 32 0), (.str ⟨#[6, 267, 10, 95, 95, 109, 111, 100, 117, 108, 101, 95, 95, 6, 257, 17, 95, 102, 114, 111, 122, 101, 110, 95, 105, 109, 112, 111, 114, 116, 108, 105, 98, 6, 268, 15, 95, 95, 102, 105, 114, 115, 116, 108, 105, 110, 101, 110, 111, 95, 95, 4, 258, 0, 562, 6, 269, 7, 95, 95, 100, 111, 99, 95, 95, 9, 47, 95, 102, 114, 111, 122, 101, 110, 95, 105, 109, 112, 111, 114, 116, 108, 105, 98, 46, 77, 111, 100, 117, 108, 101, 83, 112, 101, 99, 46, 95, 95, 100, 111, 99, 95, 95, 58, 115, 116, 114, 35, 111, 112, 97, 113, 117, 101, 6, 270, 8, 95, 95, 105, 110, 105, 116, 95, 95, 9, 44, 95, 102, 114, 111, 122, 101, 110, 95, 105, 109, 112, 111, 114, 116, 108, 105, 98, 46, 77, 111, 100, 117, 108, 101, 83, 112, 101, 99, 46, 95, 95, 105, 110, 105, 116, 95, 95, 35, 111, 112, 97, 113, 117, 101, 6, 271, 8, 95, 95, 114, 101, 112, 114, 95, 95, 9, 44, 95, 102, 114, 111, 122, 101, 110, 95, 105, 109, 112, 111, 114, 116, 108, 105, 98, 46, 77, 111, 100, 117, 108, 101, 83, 112, 101, 99, 46, 95, 95, 114, 101, 112, 114, 95, 95, 35, 111, 112, 97, 113, 117, 101, 6, 272, 6, 95, 95, 101, 113, 95, 95, 9, 42, 95, 102, 114, 111, 122, 101, 110, 95, 105, 109, 112, 111, 114, 116, 108, 105, 98, 46, 77, 111, 100, 117, 108, 101, 83, 112, 101, 99, 46, 95, 95, 101, 113, 95, 95, 35, 111, 112, 97, 113, 117, 101, 6, 273, 6, 99, 97, 99, 104, 101, 100, 9, 42, 95, 102, 114, 111, 122, 101, 110, 95, 105, 109, 112, 111, 114, 116, 108, 105, 98, 46, 77, 111, 100, 117, 108, 101, 83, 112, 101, 99, 46, 99, 97, 99, 104, 101, 100, 35, 111, 112, 97, 113, 117, 101, 6, 274, 6, 112, 97, 114, 101, 110, 116, 9, 42, 95, 102, 114, 111, 122, 101, 110, 95, 105, 109, 112, 111, 114, 116, 108, 105, 98, 46, 77, 111, 100, 117, 108, 101, 83, 112, 101, 99, 46, 112, 97, 114, 101, 110, 116, 35, 111, 112, 97, 113, 117, 101, 6, 275, 12, 104, 97, 115, 95, 108, 111, 99, 97, 116, 105, 111, 110, 9, 48, 95, 102, 114, 111, 122, 101, 110, 95, 105, 109, 112, 111, 114, 116, 108, 105, 98, 46, 77, 111, 100, 117, 108, 101, 83, 112, 101, 99, 46, 104, 97, 115, 95, 108, 111, 99, 97, 116, 105, 111, 110, 35, 111, 112, 97, 113, 117, 101, 6, 276, 21, 95, 95, 115, 116, 97, 116, 105, 99, 95, 97, 116, 116, 114, 105, 98, 117, 116, 101, 115, 95, 95, 4, 0, 0, 34, 6, 278, 8, 95, 95, 100, 105, 99, 116, 95, 95, 4, 0, 0, 35, 6, 280, 11, 95, 95, 119, 101, 97, 107, 114, 101, 102, 95, 95, 4, 0, 0, 36, 6, 281, 8, 95, 95, 104, 97, 115, 104, 95, 95, 0]⟩ 0), (.bool true), (.bool true), (.str ⟨#[]⟩ 282)] 3)),
  (o (t "dict") (.dict #[(er P ⟨#[95, 95, 109, 111, 100, 117, 108, 101, 95, 95]⟩ 212 (.str ⟨#[95, 102, 114, 111, 122, 101, 110, 95, 105, 109, 112, 111, 114, 116, 108, 105, 98, 95, 101, 120, 116, 101, 114, 110, 97, 108]⟩ 208)), (er P ⟨#[95, 95, 102, 105, 114, 115, 116, 108, 105, 110, 101, 110, 111, 95, 95]⟩ 213 (i 1176 209)), (er P ⟨#[95, 95, 100, 111, 99, 95, 95]⟩ 214 (b "_frozen_importlib_external.FileLoader.__doc__:str#opaque")), (er P ⟨#[95, 95, 105, 110, 105, 116, 95, 95]⟩ 215 (b "_frozen_importlib_external.FileLoader.__init__#opaque")), (er P ⟨#[95, 95, 101, 113, 95, 95]⟩ 216 (b "_frozen_importlib_external.FileLoader.__eq__#opaque")), (er P ⟨#[95, 95, 104, 97, 115, 104, 95, 95]⟩ 217 (b "_frozen_importlib_external.FileLoader.__hash__#opaque")), (er P ⟨#[108, 111, 97, 100, 95, 109, 111, 100, 117, 108, 101]⟩ 218 (b "_frozen_importlib_external.FileLoader.load_module#opaque")), (er P ⟨#[103, 101, 116, 95, 102, 105, 108, 101, 110, 97, 109, 101]⟩ 219 (b "_frozen_importlib_external.FileLoader.get_filename#opaque")), (er P ⟨#[103, 101, 116, 95, 100, 97, 116, 97]⟩ 220 (b "_frozen_importlib_external.FileLoader.get_data#opaque")), (er P ⟨#[103, 101, 116, 95, 114, 101, 115, 111, 117, 114, 99, 101, 95, 114, 101, 97, 100, 101, 114]⟩ 221 (b "_frozen_importlib_external.FileLoader.get_resource_reader#opaque")), (er P ⟨#[95, 95, 115, 116, 97, 116, 105, 99, 95, 97, 116, 116, 114, 105, 98, 117, 116, 101, 115, 95, 95]⟩ 222 (r 23)), (er P ⟨#[95, 95, 100, 105, 99, 116, 95, 95]⟩ 224 (r 24)), (er P ⟨#[95, 95, 119, 101, 97, 107, 114, 101, 102, 95, 95]⟩ 226 (r 25))] 13)),
  (o (t "type") (.cls ⟨⟨#[70, 105, 108, 101, 76, 111, 97, 100, 101, 114]⟩, [(t "object")], [(r 22), (t "object")], 21, ⟨#[70, 105, 108, 101, 76, 111, 97, 100, 101, 114]⟩, true, [], [(r 27)], false, none, false⟩)),
  (o (t "tuple") (.seq #[(.str ⟨#[110, 97, 109, 101]⟩ 210), (.str ⟨#[112, 97, 116, 104]⟩ 211)] 0)),
  (o (t "getset_descriptor") (.fields #[(.str ⟨#[95, 95, 100, 105, 99, 116, 95, 95]⟩ 223), (r 22), (b "function.__dict__"), (b "function.__dict__#set")])),
  (o (t "getset_descriptor") (.fields #[(.str ⟨#[95, 95, 119, 101, 97, 107, 114, 101, 102, 95, 95]⟩ 225), (r 22), (b "ExceptionGroup.__weakref__"), .none])),
  (o (t "dict") (.dict #[(er P ⟨#[95, 95, 109, 111, 100, 117, 108, 101, 95, 95]⟩ 233 (.str ⟨#[95, 102, 114, 111, 122, 101, 110, 95, 105, 109, 112, 111, 114, 116, 108, 105, 98, 95, 101, 120, 116, 101, 114, 110, 97, 108]⟩ 229)), (er P ⟨#[95, 95, 102, 105, 114, 115, 116, 108, 105, 110, 101, 110, 111, 95, 95]⟩ 234 (i 1296 230)), (er P ⟨#[95, 95, 100, 111, 99, 95, 95]⟩ 235 (b "_frozen_importlib_external.ExtensionFileLoader.__doc__:str#opaque")), (er P ⟨#[95, 95, 105, 110, 105, 116, 95, 95]⟩ 236 (b "_frozen_importlib_external.ExtensionFileLoader.__init__#opaque")), (er P ⟨#[95, 95, 101, 113, 95, 95]⟩ 237 (b "_frozen_importlib_external.ExtensionFileLoader.__eq__#opaque")), (er P ⟨#[95, 95, 104, 97, 115, 104, 95, 95]⟩ 238 (b "_frozen_importlib_external.ExtensionFileLoader.__hash__#opaque")), (er P ⟨#[99, 114, 101, 97, 116, 101, 95, 109, 111, 100, 117, 108, 101]⟩ 239 (b "_frozen_importlib_external.ExtensionFileLoader.create_module#opaque")), (er P ⟨#[101, 120, 101, 99, 95, 109, 111, 100, 117, 108, 101]⟩ 240 (b "_frozen_importlib_external.ExtensionFileLoader.exec_module#opaque")), (er P ⟨#[105, 115, 95, 112, 97, 99, 107, 97, 103, 101]⟩ 241 (b "_frozen_importlib_external.ExtensionFileLoader.is_package#opaque")), (er P ⟨#[103, 101, 116, 95, 99, 111, 100, 101]⟩ 242 (b "_frozen_importlib_external.ExtensionFileLoader.get_code#opaque")), (er P ⟨#[103, 101, 116, 95, 115, 111, 117, 114, 99, 101]⟩ 243 (b "_frozen_importlib_external.ExtensionFileLoader.get_source#opaque")), (er P ⟨#[103, 101, 116, 95, 102, 105, 108, 101, 110, 97, 109, 101]⟩ 244 (b "_frozen_importlib_external.ExtensionFileLoader.get_filename#opaque")), (er P ⟨#[95, 95, 115, 116, 97, 116, 105, 99, 95, 97, 116, 116, 114, 105, 98, 117, 116, 101, 115, 95, 95]⟩ 245 (r 28))] 13)),
  (o (t "type") (.cls ⟨⟨#[69, 120, 116, 101, 110, 115, 105, 111, 110, 70, 105, 108, 101, 76, 111, 97, 100, 101, 114]⟩, [(r 22), (r 16)], [(r 27), (r 22), (r 16), (t "object")], 26, ⟨#[69, 120, 116, 101, 110, 115, 105, 111, 110, 70, 105, 108, 101, 76, 111, 97, 100, 101, 114]⟩, true, [], [], false, none, false⟩)),
  (o (t "tuple") (.seq #[(.str ⟨#[110, 97, 109, 101]⟩ 231), (.str ⟨#[112, 97, 116, 104]⟩ 232)] 0)),
  (oo (r 27) (some 14) .plain #[]),
  (o (t "list") (.seq #[] 0)),
  (o (t "dict") (.dict #[(er P ⟨#[110, 97, 109, 101]⟩ 248 (.str ⟨#[95, 115, 116, 114, 117, 99, 116]⟩ 247)), (er P ⟨#[108, 111, 97, 100, 101, 114]⟩ 249 (r 29)), (er P ⟨#[111, 114, 105, 103, 105, 110]⟩ 250 (.str ⟨#[47, 110, 105, 120, 47, 115, 116, 111, 114, 101, 47, 119, 106, 49, 102, 53, 54, 113, 107, 121, 52, 112, 109, 106, 99, 55, 108, 48, 114, 54, 98, 54, 108, 55, 119, 104, 110, 110, 119, 55, 104, 112, 54, 45, 112, 121, 116, 104, 111, 110, 51, 45, 51, 46, 49, 51, 46, 49, 53, 47, 108, 105, 98, 47, 112, 121, 116, 104, 111, 110, 51, 46, 49, 51, 47, 108, 105, 98, 45, 100, 121, 110, 108, 111, 97, 100, 47, 95, 115, 116, 114, 117, 99, 116, 46, 99, 112, 121, 116, 104, 111, 110, 45, 51, 49, 51, 45, 120, 56, 54, 95, 54, 52, 45, 108, 105, 110, 117, 120, 45, 103, 110, 117, 46, 115, 111]⟩ 186)), (er P ⟨#[108, 111, 97, 100, 101, 114, 95, 115, 116, 97, 116, 101]⟩ 251 .none), (er P ⟨#[115, 117, 98, 109, 111, 100, 117, 108, 101, 95, 115, 101, 97, 114, 99, 104, 95, 108, 111, 99, 97, 116, 105, 111, 110, 115]⟩ 252 .none), (er P ⟨#[95, 117, 110, 105, 110, 105, 116, 105, 97, 108, 105, 122, 101, 100, 95, 115, 117, 98, 109, 111, 100, 117, 108, 101, 115]⟩ 253 (r 30)), (er P ⟨#[95, 115, 101, 116, 95, 102, 105, 108, 101, 97, 116, 116, 114]⟩ 254 (.bool true)), (er P ⟨#[95, 99, 97, 99, 104, 101, 100]⟩ 255 .none), (er P ⟨#[95, 105, 110, 105, 116, 105, 97, 108, 105, 122, 105, 110, 103]⟩ 283 (.bool false))] 9)),
  (o (t "dict") (.dict #[(er P ⟨#[95, 95, 109, 111, 100, 117, 108, 101, 95, 95]⟩ 267 (.str ⟨#[95, 102, 114, 111, 122, 101, 110, 95, 105, 109, 112, 111, 114, 116, 108, 105, 98]⟩ 257)), (er P ⟨#[95, 95, 102, 105, 114, 115, 116, 108, 105, 110, 101, 110, 111, 95, 95]⟩ 268 (i 562 258)), (er P ⟨#[95, 95, 100, 111, 99, 95, 95]⟩ 269 (b "_frozen_importlib.ModuleSpec.__doc__:str#opaque")), (er P ⟨#[95, 95, 105, 110, 105, 116, 95, 95]⟩ 270 (b "_frozen_importlib.ModuleSpec.__init__#opaque")), (er P ⟨#[95, 95, 114, 101, 112, 114, 95, 95]⟩ 271 (b "_frozen_importlib.ModuleSpec.__repr__#opaque")), (er P ⟨#[95, 95, 101, 113, 95, 95]⟩ 272 (b "_frozen_importlib.ModuleSpec.__eq__#opaque")), (er P ⟨#[99, 97, 99, 104, 101, 100]⟩ 273 (b "_frozen_importlib.ModuleSpec.cached#opaque")), (er P ⟨#[112, 97, 114, 101, 110, 116]⟩ 274 (b "_frozen_importlib.ModuleSpec.parent#opaque")), (er P ⟨#[104, 97, 115, 95, 108, 111, 99, 97, 116, 105, 111, 110]⟩ 275 (b "_frozen_importlib.ModuleSpec.has_location#opaque")), (er P ⟨#[95, 95, 115, 116, 97, 116, 105, 99, 95, 97, 116, 116, 114, 105, 98, 117, 116, 101, 115, 95, 95]⟩ 276 (r 34)), (er P ⟨#[95, 95, 100, 105, 99, 116, 95, 95]⟩ 278 (r 35)), (er P ⟨#[95, 95, 119, 101, 97, 107, 114, 101, 102, 95, 95]⟩ 280 (r 36)), (er P ⟨#[95, 95, 104, 97, 115, 104, 95, 95]⟩ 281 .none)] 13)),
  (o (t "type") (.cls ⟨⟨#[77, 111, 100, 117, 108, 101, 83, 112, 101, 99]⟩, [(t "object")], [(r 33), (t "object")], 32, ⟨#[77, 111, 100, 117, 108, 101, 83, 112, 101, 99]⟩, true, [], [], false, none, false⟩)),
  (o (t "tuple") (.seq #[(.str ⟨#[95, 99, 97, 99, 104, 101, 100]⟩ 259), (.str ⟨#[95, 115, 101, 116, 95, 102, 105, 108, 101, 97, 116, 116, 114]⟩ 260), (.str ⟨#[95, 117, 110, 105, 110, 105, 116, 105, 97, 108, 105, 122, 101, 100, 95, 115, 117, 98, 109, 111, 100, 117, 108, 101, 115]⟩ 261), (.str ⟨#[108, 111, 97, 100, 101, 114]⟩ 262), (.str ⟨#[108, 111, 97, 100, 101, 114, 95, 115, 116, 97, 116, 101]⟩ 263), (.str ⟨#[110, 97, 109, 101]⟩ 264), (.str ⟨#[111, 114, 105, 103, 105, 110]⟩ 265), (.str ⟨#[115, 117, 98, 109, 111, 100, 117, 108, 101, 95, 115, 101, 97, 114, 99, 104, 95, 108, 111, 99, 97, 116, 105, 111, 110, 115]⟩ 266)] 0)),
  (o (t "getset_descriptor") (.fields #[(.str ⟨#[95, 95, 100, 105, 99, 116, 95, 95]⟩ 277), (r 33), (b "function.__dict__"), (b "function.__dict__#set")])),
  (o (t "getset_descriptor") (.fields #[(.str ⟨#[95, 95, 119, 101, 97, 107, 114, 101, 102, 95, 95]⟩ 279), (r 33), (b "ExceptionGroup.__weakref__"), .none])),
  (oo (r 33) (some 31) .plain #[]),
  (o .none (.seq #[(i 12 0), (.str ⟨#[6, 287, 8, 95, 95, 110, 97, 109, 101, 95, 95, 6, 286, 7, 95, 115, 116, 114, 117, 99, 116, 6, 288, 7, 95, 95, 100, 111, 99, 95, 95, 9, 26, 95, 115, 116, 114, 117, 99, 116, 46, 95, 95, 100, 111, 99, 95, 95, 58, 115, 116, 114, 35, 111, 112, 97, 113, 117, 101, 6, 290, 11, 95, 95, 112, 97, 99, 107, 97, 103, 101, 95, 95, 6, 289, 0, 6, 291, 10, 95, 95, 108, 111, 97, 100, 101, 114, 95, 95, 4, 0, 0, 29, 6, 292, 8, 95, 95, 115, 112, 101, 99, 95, 95, 4, 0, 0, 37, 6, 293, 11, 95, 99, 108, 101, 97, 114, 99, 97, 99, 104, 101, 9, 19, 95, 115, 116, 114, 117, 99, 116, 46, 95, 99, 108, 101, 97, 114, 99, 97, 99, 104, 101, 6, 294, 8, 99, 97, 108, 99, 115, 105, 122, 101, 9, 16, 95, 115, 116, 114, 117, 99, 116, 46, 99, 97, 108, 99, 115, 105, 122, 101, 6, 295, 11, 105, 116, 101, 114, 95, 117, 110, 112, 97, 99, 107, 9, 19, 95, 115, 116, 114, 117, 99, 116, 46, 105, 116, 101, 114, 95, 117, 110, 112, 97, 99, 107, 6, 296, 4, 112, 97, 99, 107, 9, 12, 95, 115, 116, 114, 117, 99, 116, 46, 112, 97, 99, 107, 6, 297, 9, 112, 97, 99, 107, 95, 105, 110, 116, 111, 9, 17, 95, 115, 116, 114, 117, 99, 116, 46, 112, 97, 99, 107, 95, 105, 110, 116, 111, 6, 298, 6, 117, 110, 112, 97, 99, 107, 9, 14, 95, 115, 116, 114, 117, 99, 116, 46, 117, 110, 112, 97, 99, 107, 6, 299, 11, 117, 110, 112, 97, 99, 107, 95, 102, 114, 111, 109, 9, 19, 95, 115, 116, 114, 117, 99, 116, 46, 117, 110, 112, 97, 99, 107, 95, 102, 114, 111, 109, 6, 300, 8, 95, 95, 102, 105, 108, 101, 95, 95, 6, 186, 126, 47, 110, 105, 120, 47, 115, 116, 111, 114, 101, 47, 119, 106, 49, 102, 53, 54, 113, 107, 121, 52, 112, 109, 106, 99, 55, 108, 48, 114, 54, 98, 54, 108, 55, 119, 104, 110, 110, 119, 55, 104, 112, 54, 45, 112, 121, 116, 104, 111, 110, 51, 45, 51, 46, 49, 51, 46, 49, 53, 47, 108, 105, 98, 47, 112, 121, 116, 104, 111, 110, 51, 46, 49, 51, 47, 108, 105, 98, 45, 100, 121, 110, 108, 111, 97, 100, 47, 95, 115, 116, 114, 117, 99, 116, 46, 99, 112, 121, 116, 104, 111, 110, 45, 51, 49, 51, 45, 120, 56, 54, 95, 54, 52, 45, 108, 105, 110, 117, 120, 45, 103, 110, 117, 46, 115, 111, 6, 301, 6, 83, 116, 114, 117, 99, 116, 8, 14, 95, 115, 116, 114, 117, 99, 116, 46, 83, 116, 114, 117, 99, 116, 6, 303, 5, 101, 114, 114, 111, 114, 8, 12, 115, 116, 114, 117, 99, 116, 46, 101, 114, 114, 111, 114]⟩ 0), (.bool true), (.bool false), (.str ⟨#[95, 115, 116, 114, 117, 99, 116]⟩ 305)] 0))], {}⟩
def H0 (P : Params) : Heap := ⟨#[
  (o (t "dict") (.dict #[(er P ⟨#[95, 95, 110, 97, 109, 101, 95, 95]⟩ 1 (.str ⟨#[98, 117, 105, 108, 116, 105, 110, 115]⟩ 160)), (er P ⟨#[95, 95, 100, 111, 99, 95, 95]⟩ 2 (b "builtins.__doc__:str#opaque")), (er P ⟨#[95, 95, 112, 97, 99, 107, 97, 103, 101, 95, 95]⟩ 3 (b "builtins.__package__:str#opaque")), (er P ⟨#[95, 95, 108, 111, 97, 100, 101, 114, 95, 95]⟩ 4 (b "builtins.__loader__:shared#opaque")), (er P ⟨#[95, 95, 115, 112, 101, 99, 95, 95]⟩ 5 (b "builtins.__spec__#opaque")), (er P ⟨#[95, 95, 98, 117, 105, 108, 100, 95, 99, 108, 97, 115, 115, 95, 95]⟩ 6 (b "__build_class__")), (er P ⟨#[95, 95, 105, 109, 112, 111, 114, 116, 95, 95]⟩ 7 (b "__import__")), (er P ⟨#[97, 98, 115]⟩ 8 (b "abs")), (er P ⟨#[97, 108, 108]⟩ 9 (b "all")), (er P ⟨#[97, 110, 121]⟩ 10 (b "any")), (er P ⟨#[97, 115, 99, 105, 105]⟩ 11 (b "ascii")), (er P ⟨#[98, 105, 110]⟩ 12 (b "bin")), (er P ⟨#[98, 114, 101, 97, 107, 112, 111, 105, 110, 116]⟩ 13 (b "breakpoint")), (er P ⟨#[99, 97, 108, 108, 97, 98, 108, 101]⟩ 14 (b "callable")), (er P ⟨#[99, 104, 114]⟩ 15 (b "chr")), (er P ⟨#[99, 111, 109, 112, 105, 108, 101]⟩ 16 (b "compile")), (er P ⟨#[100, 101, 108, 97, 116, 116, 114]⟩ 17 (b "delattr")), (er P ⟨#[100, 105, 114]⟩ 18 (b "dir")), (er P ⟨#[100, 105, 118, 109, 111, 100]⟩ 19 (b "divmod")), (er P ⟨#[101, 118, 97, 108]⟩ 20 (b "eval")), (er P ⟨#[101, 120, 101, 99]⟩ 21 (b "exec")), (er P ⟨#[102, 111, 114, 109, 97, 116]⟩ 22 (b "format")), (er P ⟨#[103, 101, 116, 97, 116, 116, 114]⟩ 23 (b "getattr")), (er P ⟨#[103, 108, 111, 98, 97, 108, 115]⟩ 24 (b "globals")), (er P ⟨#[104, 97, 115, 97, 116, 116, 114]⟩ 25 (b "hasattr")), (er P ⟨#[104, 97, 115, 104]⟩ 26 (b "hash")), (er P ⟨#[104, 101, 120]⟩ 27 (b "hex")), (er P ⟨#[105, 100]⟩ 28 (b "id")), (er P ⟨#[105, 110, 112, 117, 116]⟩ 29 (b "input")), (er P ⟨#[105, 115, 105, 110, 115, 116, 97, 110, 99, 101]⟩ 30 (b "isinstance")), (er P ⟨#[105, 115, 115, 117, 98, 99, 108, 97, 115, 115]⟩ 31 (b "issubclass")), (er P ⟨#[105, 116, 101, 114]⟩ 32 (b "iter")), (er P ⟨#[97, 105, 116, 101, 114]⟩ 33 (b "aiter")), (er P ⟨#[108, 101, 110]⟩ 34 (b "len")), (er P ⟨#[108, 111, 99, 97, 108, 115]⟩ 35 (b "locals")), (er P ⟨#[109, 97, 120]⟩ 36 (b "max")), (er P ⟨#[109, 105, 110]⟩ 37 (b "min")), (er P ⟨#[110, 101, 120, 116]⟩ 38 (b "next")), (er P ⟨#[97, 110, 101, 120, 116]⟩ 39 (b "anext")), (er P ⟨#[111, 99, 116]⟩ 40 (b "oct")), (er P ⟨#[111, 114, 100]⟩ 41 (b "ord")), (er P ⟨#[112, 111, 119]⟩ 42 (b "pow")), (er P ⟨#[112, 114, 105, 110, 116]⟩ 43 (b "print")), (er P ⟨#[114, 101, 112, 114]⟩ 44 (b "repr")), (er P ⟨#[114, 111, 117, 110, 100]⟩ 45 (b "round")), (er P ⟨#[115, 101, 116, 97, 116, 116, 114]⟩ 46 (b "setattr")), (er P ⟨#[115, 111, 114, 116, 101, 100]⟩ 47 (b "sorted")), (er P ⟨#[115, 117, 109]⟩ 48 (b "sum")), (er P ⟨#[118, 97, 114, 115]⟩ 49 (b "vars")), (er P ⟨#[78, 111, 110, 101]⟩ 50 .none), (er P ⟨#[69, 108, 108, 105, 112, 115, 105, 115]⟩ 51 .ellipsis), (er P ⟨#[78, 111, 116, 73, 109, 112, 108, 101, 109, 101, 110, 116, 101, 100]⟩ 52 .notImplemented), (er P ⟨#[70, 97, 108, 115, 101]⟩ 53 (.bool false)), (er P ⟨#[84, 114, 117, 101]⟩ 54 (.bool true)), (er P ⟨#[98, 111, 111, 108]⟩ 55 (t "bool")), (er P ⟨#[109, 101, 109, 111, 114, 121, 118, 105, 101, 119]⟩ 56 (t "memoryview")), (er P ⟨#[98, 121, 116, 101, 97, 114, 114, 97, 121]⟩ 57 (t "bytearray")), (er P ⟨#[98, 121, 116, 101, 115]⟩ 58 (t "bytes")), (er P ⟨#[99, 108, 97, 115, 115, 109, 101, 116, 104, 111, 100]⟩ 59 (t "classmethod")), (er P ⟨#[99, 111, 109, 112, 108, 101, 120]⟩ 60 (t "complex")), (er P ⟨#[100, 105, 99, 116]⟩ 61 (t "dict")), (er P ⟨#[101, 110, 117, 109, 101, 114, 97, 116, 101]⟩ 62 (t "enumerate")), (er P ⟨#[102, 105, 108, 116, 101, 114]⟩ 63 (t "filter")), (er P ⟨#[102, 108, 111, 97, 116]⟩ 64 (t "float")), (er P ⟨#[102, 114, 111, 122, 101, 110, 115, 101, 116]⟩ 65 (t "frozenset")), (er P ⟨#[112, 114, 111, 112, 101, 114, 116, 121]⟩ 66 (t "property")), (er P ⟨#[105, 110, 116]⟩ 67 (t "int")), (er P ⟨#[108, 105, 115, 116]⟩ 68 (t "list")), (er P ⟨#[109, 97, 112]⟩ 69 (t "map")), (er P ⟨#[111, 98, 106, 101, 99, 116]⟩ 70 (t "object")), (er P ⟨#[114, 97, 110, 103, 101]⟩ 71 (t "range")), (er P ⟨#[114, 101, 118, 101, 114, 115, 101, 100]⟩ 72 (t "reversed")), (er P ⟨#[115, 101, 116]⟩ 73 (t "set")), (er P ⟨#[115, 108, 105, 99, 101]⟩ 74 (t "slice")), (er P ⟨#[115, 116, 97, 116, 105, 99, 109, 101, 116, 104, 111, 100]⟩ 75 (t "staticmethod")), (er P ⟨#[115, 116, 114]⟩ 76 (t "str")), (er P ⟨#[115, 117, 112, 101, 114]⟩ 77 (t "super")), (er P ⟨#[116, 117, 112, 108, 101]⟩ 78 (t "tuple")), (er P ⟨#[116, 121, 112, 101]⟩ 79 (t "type")), (er P ⟨#[122, 105, 112]⟩ 80 (t "zip")), (er P ⟨#[95, 95, 100, 101, 98, 117, 103, 95, 95]⟩ 81 (.bool true)), (er P ⟨#[66, 97, 115, 101, 69, 120, 99, 101, 112, 116, 105, 111, 110]⟩ 82 (t "BaseException")), (er P ⟨#[66, 97, 115, 101, 69, 120, 99, 101, 112, 116, 105, 111, 110, 71, 114, 111, 117, 112]⟩ 83 (t "BaseExceptionGroup")), (er P ⟨#[69, 120, 99, 101, 112, 116, 105, 111, 110]⟩ 84 (t "Exception")), (er P ⟨#[71, 101, 110, 101, 114, 97, 116, 111, 114, 69, 120, 105, 116]⟩ 85 (t "GeneratorExit")), (er P ⟨#[75, 101, 121, 98, 111, 97, 114, 100, 73, 110, 116, 101, 114, 114, 117, 112, 116]⟩ 86 (t "KeyboardInterrupt")), (er P ⟨#[83, 121, 115, 116, 101, 109, 69, 120, 105, 116]⟩ 87 (t "SystemExit")), (er P ⟨#[65, 114, 105, 116, 104, 109, 101, 116, 105, 99, 69, 114, 114, 111, 114]⟩ 88 (t "ArithmeticError")), (er P ⟨#[65, 115, 115, 101, 114, 116, 105, 111, 110, 69, 114, 114, 111, 114]⟩ 89 (t "AssertionError")), (er P ⟨#[65, 116, 116, 114, 105, 98, 117, 116, 101, 69, 114, 114, 111, 114]⟩ 90 (t "AttributeError")), (er P ⟨#[66, 117, 102, 102, 101, 114, 69, 114, 114, 111, 114]⟩ 91 (t "BufferError")), (er P ⟨#[69, 79, 70, 69, 114, 114, 111, 114]⟩ 92 (t "EOFError")), (er P ⟨#[73, 109, 112, 111, 114, 116, 69, 114, 114, 111, 114]⟩ 93 (t "ImportError")), (er P ⟨#[76, 111, 111, 107, 117, 112, 69, 114, 114, 111, 114]⟩ 94 (t "LookupError")), (er P ⟨#[77, 101, 109, 111, 114, 121, 69, 114, 114, 111, 114]⟩ 95 (t "MemoryError")), (er P ⟨#[78, 97, 109, 101, 69, 114, 114, 111, 114]⟩ 96 (t "NameError")), (er P ⟨#[79, 83, 69, 114, 114, 111, 114]⟩ 97 (t "OSError")), (er P ⟨#[82, 101, 102, 101, 114, 101, 110, 99, 101, 69, 114, 114, 111, 114]⟩ 98 (t "ReferenceError")), (er P ⟨#[82, 117, 110, 116, 105, 109, 101, 69, 114, 114, 111, 114]⟩ 99 (t "RuntimeError")), (er P ⟨#[83, 116, 111, 112, 65, 115, 121, 110, 99, 73, 116, 101, 114, 97, 116, 105, 111, 110]⟩ 100 (t "StopAsyncIteration")), (er P ⟨#[83, 116, 111, 112, 73, 116, 101, 114, 97, 116, 105, 111, 110]⟩ 101 (t "StopIteration")), (er P ⟨#[83, 121, 110, 116, 97, 120, 69, 114, 114, 111, 114]⟩ 102 (t "SyntaxError")), (er P ⟨#[83, 121, 115, 116, 101, 109, 69, 114, 114, 111, 114]⟩ 103 (t "SystemError")), (er P ⟨#[84, 121, 112, 101, 69, 114, 114, 111, 114]⟩ 104 (t "TypeError")), (er P ⟨#[86, 97, 108, 117, 101, 69, 114, 114, 111, 114]⟩ 105 (t "ValueError")), (er P ⟨#[87, 97, 114, 110, 105, 110, 103]⟩ 106 (t "Warning")), (er P ⟨#[70, 108, 111, 97, 116, 105, 110, 103, 80, 111, 105, 110, 116, 69, 114, 114, 111, 114]⟩ 107 (t "FloatingPointError")), (er P ⟨#[79, 118, 101, 114, 102, 108, 111, 119, 69, 114, 114, 111, 114]⟩ 108 (t "OverflowError")), (er P ⟨#[90, 101, 114, 111, 68, 105, 118, 105, 115, 105, 111, 110, 69, 114, 114, 111, 114]⟩ 109 (t "ZeroDivisionError")), (er P ⟨#[66, 121, 116, 101, 115, 87, 97, 114, 110, 105, 110, 103]⟩ 110 (t "BytesWarning")), (er P ⟨#[68, 101, 112, 114, 101, 99, 97, 116, 105, 111, 110, 87, 97, 114, 110, 105, 110, 103]⟩ 111 (t "DeprecationWarning")), (er P ⟨#[69, 110, 99, 111, 100, 105, 110, 103, 87, 97, 114, 110, 105, 110, 103]⟩ 112 (t "EncodingWarning")), (er P ⟨#[70, 117, 116, 117, 114, 101, 87, 97, 114, 110, 105, 110, 103]⟩ 113 (t "FutureWarning")), (er P ⟨#[73, 109, 112, 111, 114, 116, 87, 97, 114, 110, 105, 110, 103]⟩ 114 (t "ImportWarning")), (er P ⟨#[80, 101, 110, 100, 105, 110, 103, 68, 101, 112, 114, 101, 99, 97, 116, 105, 111, 110, 87, 97, 114, 110, 105, 110, 103]⟩ 115 (t "PendingDeprecationWarning")), (er P ⟨#[82, 101, 115, 111, 117, 114, 99, 101, 87, 97, 114, 110, 105, 110, 103]⟩ 116 (t "ResourceWarning")), (er P ⟨#[82, 117, 110, 116, 105, 109, 101, 87, 97, 114, 110, 105, 110, 103]⟩ 117 (t "RuntimeWarning")), (er P ⟨#[83, 121, 110, 116, 97, 120, 87, 97, 114, 110, 105, 110, 103]⟩ 118 (t "SyntaxWarning")), (er P ⟨#[85, 110, 105, 99, 111, 100, 101, 87, 97, 114, 110, 105, 110, 103]⟩ 119 (t "UnicodeWarning")), (er P ⟨#[85, 115, 101, 114, 87, 97, 114, 110, 105, 110, 103]⟩ 120 (t "UserWarning")), (er P ⟨#[66, 108, 111, 99, 107, 105, 110, 103, 73, 79, 69, 114, 114, 111, 114]⟩ 121 (t "BlockingIOError")), (er P ⟨#[67, 104, 105, 108, 100, 80, 114, 111, 99, 101, 115, 115, 69, 114, 114, 111, 114]⟩ 122 (t "ChildProcessError")), (er P ⟨#[67, 111, 110, 110, 101, 99, 116, 105, 111, 110, 69, 114, 114, 111, 114]⟩ 123 (t "ConnectionError")), (er P ⟨#[70, 105, 108, 101, 69, 120, 105, 115, 116, 115, 69, 114, 114, 111, 114]⟩ 124 (t "FileExistsError")), (er P ⟨#[70, 105, 108, 101, 78, 111, 116, 70, 111, 117, 110, 100, 69, 114, 114, 111, 114]⟩ 125 (t "FileNotFoundError")), (er P ⟨#[73, 110, 116, 101, 114, 114, 117, 112, 116, 101, 100, 69, 114, 114, 111, 114]⟩ 126 (t "InterruptedError")), (er P ⟨#[73, 115, 65, 68, 105, 114, 101, 99, 116, 111, 114, 121, 69, 114, 114, 111, 114]⟩ 127 (t "IsADirectoryError")), (er P ⟨#[78, 111, 116, 65, 68, 105, 114, 101, 99, 116, 111, 114, 121, 69, 114, 114, 111, 114]⟩ 128 (t "NotADirectoryError")), (er P ⟨#[80, 101, 114, 109, 105, 115, 115, 105, 111, 110, 69, 114, 114, 111, 114]⟩ 129 (t "PermissionError")), (er P ⟨#[80, 114, 111, 99, 101, 115, 115, 76, 111, 111, 107, 117, 112, 69, 114, 114, 111, 114]⟩ 130 (t "ProcessLookupError")), (er P ⟨#[84, 105, 109, 101, 111, 117, 116, 69, 114, 114, 111, 114]⟩ 131 (t "TimeoutError")), (er P ⟨#[73, 110, 100, 101, 110, 116, 97, 116, 105, 111, 110, 69, 114, 114, 111, 114]⟩ 132 (t "IndentationError")), (er P ⟨#[95, 73, 110, 99, 111, 109, 112, 108, 101, 116, 101, 73, 110, 112, 117, 116, 69, 114, 114, 111, 114]⟩ 133 (t "_IncompleteInputError")), (er P ⟨#[73, 110, 100, 101, 120, 69, 114, 114, 111, 114]⟩ 134 (t "IndexError")), (er P ⟨#[75, 101, 121, 69, 114, 114, 111, 114]⟩ 135 (t "KeyError")), (er P ⟨#[77, 111, 100, 117, 108, 101, 78, 111, 116, 70, 111, 117, 110, 100, 69, 114, 114, 111, 114]⟩ 136 (t "ModuleNotFoundError")), (er P ⟨#[78, 111, 116, 73, 109, 112, 108, 101, 109, 101, 110, 116, 101, 100, 69, 114, 114, 111, 114]⟩ 137 (t "NotImplementedError")), (er P ⟨#[80, 121, 116, 104, 111, 110, 70, 105, 110, 97, 108, 105, 122, 97, 116, 105, 111, 110, 69, 114, 114, 111, 114]⟩ 138 (t "PythonFinalizationError")), (er P ⟨#[82, 101, 99, 117, 114, 115, 105, 111, 110, 69, 114, 114, 111, 114]⟩ 139 (t "RecursionError")), (er P ⟨#[85, 110, 98, 111, 117, 110, 100, 76, 111, 99, 97, 108, 69, 114, 114, 111, 114]⟩ 140 (t "UnboundLocalError")), (er P ⟨#[85, 110, 105, 99, 111, 100, 101, 69, 114, 114, 111, 114]⟩ 141 (t "UnicodeError")), (er P ⟨#[66, 114, 111, 107, 101, 110, 80, 105, 112, 101, 69, 114, 114, 111, 114]⟩ 142 (t "BrokenPipeError")), (er P ⟨#[67, 111, 110, 110, 101, 99, 116, 105, 111, 110, 65, 98, 111, 114, 116, 101, 100, 69, 114, 114, 111, 114]⟩ 143 (t "ConnectionAbortedError")), (er P ⟨#[67, 111, 110, 110, 101, 99, 116, 105, 111, 110, 82, 101, 102, 117, 115, 101, 100, 69, 114, 114, 111, 114]⟩ 144 (t "ConnectionRefusedError")), (er P ⟨#[67, 111, 110, 110, 101, 99, 116, 105, 111, 110, 82, 101, 115, 101, 116, 69, 114, 114, 111, 114]⟩ 145 (t "ConnectionResetError")), (er P ⟨#[84, 97, 98, 69, 114, 114, 111, 114]⟩ 146 (t "TabError")), (er P ⟨#[85, 110, 105, 99, 111, 100, 101, 68, 101, 99, 111, 100, 101, 69, 114, 114, 111, 114]⟩ 147 (t "UnicodeDecodeError")), (er P ⟨#[85, 110, 105, 99, 111, 100, 101, 69, 110, 99, 111, 100, 101, 69, 114, 114, 111, 114]⟩ 148 (t "UnicodeEncodeError")), (er P ⟨#[85, 110, 105, 99, 111, 100, 101, 84, 114, 97, 110, 115, 108, 97, 116, 101, 69, 114, 114, 111, 114]⟩ 149 (t "UnicodeTranslateError")), (er P ⟨#[69, 120, 99, 101, 112, 116, 105, 111, 110, 71, 114, 111, 117, 112]⟩ 150 (t "ExceptionGroup")), (er P ⟨#[69, 110, 118, 105, 114, 111, 110, 109, 101, 110, 116, 69, 114, 114, 111, 114]⟩ 151 (t "OSError")), (er P ⟨#[73, 79, 69, 114, 114, 111, 114]⟩ 152 (t "OSError")), (er P ⟨#[111, 112, 101, 110]⟩ 153 (b "open")), (er P ⟨#[113, 117, 105, 116]⟩ 154 (b "builtins.quit#opaque")), (er P ⟨#[101, 120, 105, 116]⟩ 155 (b "builtins.exit#opaque")), (er P ⟨#[99, 111, 112, 121, 114, 105, 103, 104, 116]⟩ 156 (b "builtins.copyright#opaque")), (er P ⟨#[99, 114, 101, 100, 105, 116, 115]⟩ 157 (b "builtins.credits#opaque")), (er P ⟨#[108, 105, 99, 101, 110, 115, 101]⟩ 158 (b "builtins.license#opaque")), (er P ⟨#[104, 101, 108, 112]⟩ 159 (b "builtins.help#opaque"))] 159)),
  (o (t "dict") (.dict #[(er P ⟨#[98, 117, 105, 108, 116, 105, 110, 115]⟩ 162 (r 4)), (er P ⟨#[95, 95, 109, 97, 105, 110, 95, 95]⟩ 163 (r 5)), (er P ⟨#[95, 115, 116, 114, 117, 99, 116]⟩ 284 (r 13))] 3)),
  (o .none (.dict #[(er P ⟨#[105, 109, 112, 111, 114, 116, 46, 108, 111, 97, 100, 101, 100, 46, 95, 115, 116, 114, 117, 99, 116]⟩ 185 (.bool true)), (er P ⟨#[99, 108, 97, 115, 115, 46, 95, 102, 114, 111, 122, 101, 110, 95, 105, 109, 112, 111, 114, 116, 108, 105, 98, 95, 101, 120, 116, 101, 114, 110, 97, 108, 46, 95, 76, 111, 97, 100, 101, 114, 66, 97, 115, 105, 99, 115]⟩ 190 (r 16)), (er P ⟨#[119, 97, 116, 99, 104, 101, 100, 46, 105, 109, 112, 111, 114, 116]⟩ 206 (r 20)), (er P ⟨#[99, 108, 97, 115, 115, 46, 95, 102, 114, 111, 122, 101, 110, 95, 105, 109, 112, 111, 114, 116, 108, 105, 98, 95, 101, 120, 116, 101, 114, 110, 97, 108, 46, 70, 105, 108, 101, 76, 111, 97, 100, 101, 114]⟩ 207 (r 22)), (er P ⟨#[99, 108, 97, 115, 115, 46, 95, 102, 114, 111, 122, 101, 110, 95, 105, 109, 112, 111, 114, 116, 108, 105, 98, 95, 101, 120, 116, 101, 114, 110, 97, 108, 46, 69, 120, 116, 101, 110, 115, 105, 111, 110, 70, 105, 108, 101, 76, 111, 97, 100, 101, 114]⟩ 228 (r 27)), (er P ⟨#[99, 108, 97, 115, 115, 46, 95, 102, 114, 111, 122, 101, 110, 95, 105, 109, 112, 111, 114, 116, 108, 105, 98, 46, 77, 111, 100, 117, 108, 101, 83, 112, 101, 99]⟩ 256 (r 33)), (er P ⟨#[115, 121, 115, 46, 109, 111, 100, 117, 108, 101, 115, 46, 98, 111, 111, 107, 101, 100, 45, 101, 112, 111, 99, 104]⟩ 285 (i 3 0)), (er P ⟨#[99, 108, 97, 115, 115, 46, 115, 116, 114, 117, 99, 116, 46, 101, 114, 114, 111, 114]⟩ 302 (t "struct.error")), (er P ⟨#[105, 109, 112, 111, 114, 116, 46, 108, 97, 116, 101, 114, 45, 108, 97, 105, 100, 46, 95, 115, 116, 114, 117, 99, 116]⟩ 304 (.bool true)), (er P ⟨#[119, 97, 116, 99, 104, 101, 100, 46, 108, 105, 98, 114, 97, 114, 121]⟩ 306 (r 38)), (er P ⟨#[119, 97, 116, 99, 104, 101, 100, 46, 108, 105, 98, 114, 97, 114, 121, 45, 111, 98, 106, 101, 99, 116, 115]⟩ 0 (.str ⟨#[13]⟩ 0))] 11)),
  (o (t "dict") (.dict #[(er P ⟨#[95, 95, 110, 97, 109, 101, 95, 95]⟩ 165 (.str ⟨#[95, 95, 109, 97, 105, 110, 95, 95]⟩ 164)), (er P ⟨#[95, 95, 100, 111, 99, 95, 95]⟩ 166 .none), (er P ⟨#[95, 95, 112, 97, 99, 107, 97, 103, 101, 95, 95]⟩ 167 .none), (er P ⟨#[95, 95, 108, 111, 97, 100, 101, 114, 95, 95]⟩ 168 (b "__main__.__loader__#opaque")), (er P ⟨#[95, 95, 115, 112, 101, 99, 95, 95]⟩ 169 .none), (er P ⟨#[95, 95, 97, 110, 110, 111, 116, 97, 116, 105, 111, 110, 115, 95, 95]⟩ 170 (r 6)), (er P ⟨#[95, 95, 98, 117, 105, 108, 116, 105, 110, 115, 95, 95]⟩ 171 (r 4)), (er P ⟨#[95, 95, 102, 105, 108, 101, 95, 95]⟩ 173 (.str ⟨#[47, 99, 108, 97, 105, 109, 47, 99, 117, 116, 46, 112, 121]⟩ 172)), (er P ⟨#[95, 95, 99, 97, 99, 104, 101, 100, 95, 95]⟩ 174 .none), (er P ⟨#[112, 97, 99, 107]⟩ 312 (b "_struct.pack"))] 10)),
  (oo (t "module") (some 0) .plain #[]),
  (oo (t "module") (some 3) .plain #[]),
  (o (t "dict") (.dict #[] 0)),
  (o (t "tuple") (.seq #[] 0)),
  (o .none (.fields #[])),
  (o (t "code") (.fields #[(.str ⟨#[60, 109, 111, 100, 117, 108, 101, 62]⟩ 176), (.str ⟨#[60, 109, 111, 100, 117, 108, 101, 62]⟩ 177), (.str ⟨#[47, 99, 108, 97, 105, 109, 47, 99, 117, 116, 46, 112, 121]⟩ 178), (i 1 0), (i 0 0), (i 0 0), (i 0 0), (i 0 0), (r 7), (.bool false), (i 175 0), (r 8), .none, .none, .none, .none, (i 179 0), (i 1 0), (.str ⟨#[47, 99, 108, 97, 105, 109, 47, 99, 117, 116, 46, 112, 121]⟩ 180)])),
  (oo (t "frame") none .plain #[(some (r 9)), (some (r 3)), (some (r 3)), none, (some (.str ⟨#[95, 95, 109, 97, 105, 110, 95, 95]⟩ 164)), none, (some (r 0))]),
  (o (t "tuple") (.seq #[(.str ⟨#[112, 97, 99, 107]⟩ 182)] 0)),
  (o (t "dict") (.dict #[(er P ⟨#[95, 95, 110, 97, 109, 101, 95, 95]⟩ 287 (.str ⟨#[95, 115, 116, 114, 117, 99, 116]⟩ 286)), (er P ⟨#[95, 95, 100, 111, 99, 95, 95]⟩ 288 (b "off-the-table:_struct.__doc__:shared#opaque")), (er P ⟨#[95, 95, 112, 97, 99, 107, 97, 103, 101, 95, 95]⟩ 290 (.str ⟨#[]⟩ 289)), (er P ⟨#[95, 95, 108, 111, 97, 100, 101, 114, 95, 95]⟩ 291 (b "off-the-table:_struct.__loader__:shared#opaque")), (er P ⟨#[95, 95, 115, 112, 101, 99, 95, 95]⟩ 292 (b "off-the-table:_struct.__spec__:shared#opaque")), (er P ⟨#[95, 99, 108, 101, 97, 114, 99, 97, 99, 104, 101]⟩ 293 (b "off-the-table:_struct._clearcache:shared#opaque")), (er P ⟨#[99, 97, 108, 99, 115, 105, 122, 101]⟩ 294 (b "_struct.calcsize")), (er P ⟨#[105, 116, 101, 114, 95, 117, 110, 112, 97, 99, 107]⟩ 295 (b "_struct.iter_unpack")), (er P ⟨#[112, 97, 99, 107]⟩ 296 (b "_struct.pack")), (er P ⟨#[112, 97, 99, 107, 95, 105, 110, 116, 111]⟩ 297 (b "_struct.pack_into")), (er P ⟨#[117, 110, 112, 97, 99, 107]⟩ 298 (b "_struct.unpack")), (er P ⟨#[117, 110, 112, 97, 99, 107, 95, 102, 114, 111, 109]⟩ 299 (b "_struct.unpack_from")), (er P ⟨#[95, 95, 102, 105, 108, 101, 95, 95]⟩ 300 (.str ⟨#[47, 110, 105, 120, 47, 115, 116, 111, 114, 101, 47, 119, 106, 49, 102, 53, 54, 113, 107, 121, 52, 112, 109, 106, 99, 55, 108, 48, 114, 54, 98, 54, 108, 55, 119, 104, 110, 110, 119, 55, 104, 112, 54, 45, 112, 121, 116, 104, 111, 110, 51, 45, 51, 46, 49, 51, 46, 49, 53, 47, 108, 105, 98, 47, 112, 121, 116, 104, 111, 110, 51, 46, 49, 51, 47, 108, 105, 98, 45, 100, 121, 110, 108, 111, 97, 100, 47, 95, 115, 116, 114, 117, 99, 116, 46, 99, 112, 121, 116, 104, 111, 110, 45, 51, 49, 51, 45, 120, 56, 54, 95, 54, 52, 45, 108, 105, 110, 117, 120, 45, 103, 110, 117, 46, 115, 111]⟩ 186)), (er P ⟨#[83, 116, 114, 117, 99, 116]⟩ 301 (t "_struct.Struct")), (er P ⟨#[101, 114, 114, 111, 114]⟩ 303 (t "struct.error"))] 15)),
  (oo (t "module") (some 12) .plain #[]),
  (o (t "dict") (.dict #[(er P ⟨#[110, 97, 109, 101]⟩ 188 (.str ⟨#[95, 115, 116, 114, 117, 99, 116]⟩ 187)), (er P ⟨#[112, 97, 116, 104]⟩ 189 (.str ⟨#[47, 110, 105, 120, 47, 115, 116, 111, 114, 101, 47, 119, 106, 49, 102, 53, 54, 113, 107, 121, 52, 112, 109, 106, 99, 55, 108, 48, 114, 54, 98, 54, 108, 55, 119, 104, 110, 110, 119, 55, 104, 112, 54, 45, 112, 121, 116, 104, 111, 110, 51, 45, 51, 46, 49, 51, 46, 49, 53, 47, 108, 105, 98, 47, 112, 121, 116, 104, 111, 110, 51, 46, 49, 51, 47, 108, 105, 98, 45, 100, 121, 110, 108, 111, 97, 100, 47, 95, 115, 116, 114, 117, 99, 116, 46, 99, 112, 121, 116, 104, 111, 110, 45, 51, 49, 51, 45, 120, 56, 54, 95, 54, 52, 45, 108, 105, 110, 117, 120, 45, 103, 110, 117, 46, 115, 111]⟩ 186))] 2)),
  (o (t "dict") (.dict #[(er P ⟨#[95, 95, 109, 111, 100, 117, 108, 101, 95, 95]⟩ 193 (.str ⟨#[95, 102, 114, 111, 122, 101, 110, 95, 105, 109, 112, 111, 114, 116, 108, 105, 98, 95, 101, 120, 116, 101, 114, 110, 97, 108]⟩ 191)), (er P ⟨#[95, 95, 102, 105, 114, 115, 116, 108, 105, 110, 101, 110, 111, 95, 95]⟩ 194 (i 1001 192)), (er P ⟨#[95, 95, 100, 111, 99, 95, 95]⟩ 195 (b "_frozen_importlib_external._LoaderBasics.__doc__:str#opaque")), (er P ⟨#[105, 115, 95, 112, 97, 99, 107, 97, 103, 101]⟩ 196 (b "_frozen_importlib_external._LoaderBasics.is_package#opaque")), (er P ⟨#[99, 114, 101, 97, 116, 101, 95, 109, 111, 100, 117, 108, 101]⟩ 197 (b "_frozen_importlib_external._LoaderBasics.create_module#opaque")), (er P ⟨#[101, 120, 101, 99, 95, 109, 111, 100, 117, 108, 101]⟩ 198 (b "_frozen_importlib_external._LoaderBasics.exec_module#opaque")), (er P ⟨#[108, 111, 97, 100, 95, 109, 111, 100, 117, 108, 101]⟩ 199 (b "_frozen_importlib_external._LoaderBasics.load_module#opaque")), (er P ⟨#[95, 95, 115, 116, 97, 116, 105, 99, 95, 97, 116, 116, 114, 105, 98, 117, 116, 101, 115, 95, 95]⟩ 200 (r 17)), (er P ⟨#[95, 95, 100, 105, 99, 116, 95, 95]⟩ 202 (r 18)), (er P ⟨#[95, 95, 119, 101, 97, 107, 114, 101, 102, 95, 95]⟩ 204 (r 19))] 10)),
  (o (t "type") (.cls ⟨⟨#[95, 76, 111, 97, 100, 101, 114, 66, 97, 115, 105, 99, 115]⟩, [(t "object")], [(r 16), (t "object")], 15, ⟨#[95, 76, 111, 97, 100, 101, 114, 66, 97, 115, 105, 99, 115]⟩, true, [], [(r 27)], false, none, false⟩)),
  (o (t "tuple") (.seq #[] 0)),
  (o (t "getset_descriptor") (.fields #[(.str ⟨#[95, 95, 100, 105, 99, 116, 95, 95]⟩ 201), (r 16), (b "function.__dict__"), (b "function.__dict__#set")])),
  (o (t "getset_descriptor") (.fields #[(.str ⟨#[95, 95, 119, 101, 97, 107, 114, 101, 102, 95, 95]⟩ 203), (r 16), (b "ExceptionGroup.__weakref__"), .none])),
  (o .none (.seq #[(i 15 0), (.str ⟨#[6, 193, 10, 95, 95, 109, 111, 100, 117, 108, 101, 95, 95, 6, 191, 26, 95, 102, 114, 111, 122, 101, 110, 95, 105, 109, 112, 111, 114, 116, 108, 105, 98, 95, 101, 120, 116, 101, 114, 110, 97, 108, 6, 194, 15, 95, 95, 102, 105, 114, 115, 116, 108, 105, 110, 101, 110, 111, 95, 95, 4, 192, 0, 1001, 6, 195, 7, 95, 95, 100, 111, 99, 95, 95, 9, 59, 95, 102, 114, 111, 122, 101, 110, 95, 105, 109, 112, 111, 114, 116, 108, 105, 98, 95, 101, 120, 116, 101, 114, 110, 97, 108, 46, 95, 76, 111, 97, 100, 101, 114, 66, 97, 115, 105, 99, 115, 46, 95, 95, 100, 111, 99, 95, 95, 58, 115, 116, 114, 35, 111, 112, 97, 113, 117, 101, 6, 196, 10, 105, 115, 95, 112, 97, 99, 107, 97, 103, 101, 9, 58, 95, 102, 114, 111, 122, 101, 110, 95, 105, 109, 112, 111, 114, 116, 108, 105, 98, 95, 101, 120, 116, 101, 114, 110, 97, 108, 46, 95, 76, 111, 97, 100, 101, 114, 66, 97, 115, 105, 99, 115, 46, 105, 115, 95, 112, 97, 99, 107, 97, 103, 101, 35, 111, 112, 97, 113, 117, 101, 6, 197, 13, 99, 114, 101, 97, 116, 101, 95, 109, 111, 100, 117, 108, 101, 9, 61, 95, 102, 114, 111, 122, 101, 110, 95, 105, 109, 112, 111, 114, 116, 108, 105, 98, 95, 101, 120, 116, 101, 114, 110, 97, 108, 46, 95, 76, 111, 97, 100, 101, 114, 66, 97, 115, 105, 99, 115, 46, 99, 114, 101, 97, 116, 101, 95, 109, 111, 100, 117, 108, 101, 35, 111, 112, 97, 113, 117, 101, 6, 198, 11, 101, 120, 101, 99, 95, 109, 111, 100, 117, 108, 101, 9, 59, 95, 102, 114, 111, 122, 101, 110, 95, 105, 109, 112, 111, 114, 116, 108, 105, 98, 95, 101, 120, 116, 101, 114, 110, 97, 108, 46, 95, 76, 111, 97, 100, 101, 114, 66, 97, 115, 105, 99, 115, 46, 101, 120, 101, 99, 95, 109, 111, 100, 117, 108, 101, 35, 111, 112, 97, 113, 117, 101, 6, 199, 11, 108, 111, 97, 100, 95, 109, 111, 100, 117, 108, 101, 9, 59, 95, 102, 114, 111, 122, 101, 110, 95, 105, 109, 112, 111, 114, 116, 108, 105, 98, 95, 101, 120, 116, 101, 114, 110, 97, 108, 46, 95, 76, 111, 97, 100, 101, 114, 66, 97, 115, 105, 99, 115, 46, 108, 111, 97, 100, 95, 109, 111, 100, 117, 108, 101, 35, 111, 112, 97, 113, 117, 101, 6, 200, 21, 95, 95, 115, 116, 97, 116, 105, 99, 95, 97, 116, 116, 114, 105, 98, 117, 116, 101, 115, 95, 95, 4, 0, 0, 17, 6, 202, 8, 95, 95, 100, 105, 99, 116, 95, 95, 4, 0, 0, 18, 6, 204, 11, 95, 95, 119, 101, 97, 107, 114, 101, 102, 95, 95, 4, 0, 0, 19]⟩ 0), (.bool true), (.bool true), (.str ⟨#[]⟩ 205), (i 21 0), (.str ⟨#[6, 212, 10, 95, 95, 109, 111, 100, 117, 108, 101, 95, 95, 6, 208, 26, 95, 102, 114, 111, 122, 101, 110, 95, 105, 109, 112, 111, 114, 116, 108, 105, 98, 95, 101, 120, 116, 101, 114, 110, 97, 108, 6, 213, 15, 95, 95, 102, 105, 114, 115, 116, 108, 105, 110, 101, 110, 111, 95, 95, 4, 209, 0, 1176, 6, 214, 7, 95, 95, 100, 111, 99, 95, 95, 9, 56, 95, 102, 114, 111, 122, 101, 110, 95, 105, 109, 112, 111, 114, 116, 108, 105, 98, 95, 101, 120, 116, 101, 114, 110, 97, 108, 46, 70, 105, 108, 101, 76, 111, 97, 100, 101, 114, 46, 95, 95, 100, 111, 99, 95, 95, 58, 115, 116, 114, 35, 111, 112, 97, 113, 117, 101, 6, 215, 8, 95, 95, 105, 110, 105, 116, 95, 95, 9, 53, 95, 102, 114, 111, 122, 101, 110, 95, 105, 109, 112, 111, 114, 116, 108, 105, 98, 95, 101, 120, 116, 101, 114, 110, 97, 108, 46, 70, 105, 108, 101, 76, 111, 97, 100, 101, 114, 46, 95, 95, 105, 110, 105, 116, 95, 95, 35, 111, 112, 97, 113, 117, 101, 6, 216, 6, 95, 95, 101, 113, 95, 95, 9, 51, 95, 102, 114, 111, 122, 101, 110, 95, 105, 109, 112, 111, 114, 116, 108, 105, 98, 95, 101, 120, 116, 101, 114, 110, 97, 108, 46, 70, 105, 108, 101, 76, 111, 97, 100, 101, 114, 46, 95, 95, 101, 113, 95, 95, 35, 111, 112, 97, 113, 117, 101, 6, 217, 8, 95, 95, 104, 97, 115, 104, 95, 95, 9, 53, 95, 102, 114, 111, 122, 101, 110, 95, 105, 109, 112, 111, 114, 116, 108, 105, 98, 95, 101, 120, 116, 101, 114, 110, 97, 108, 46, 70, 105, 108, 101, 76, 111, 97, 100, 101, 114, 46, 95, 95, 104, 97, 115, 104, 95, 95, 35, 111, 112, 97, 113, 117, 101, 6, 218, 11, 108, 111, 97, 100, 95, 109, 111, 100, 117, 108, 101, 9, 56, 95, 102, 114, 111, 122, 101, 110, 95, 105, 109, 112, 111, 114, 116, 108, 105, 98, 95, 101, 120, 116, 101, 114, 110, 97, 108, 46, 70, 105, 108, 101, 76, 111, 97, 100, 101, 114, 46, 108, 111, 97, 100, 95, 109, 111, 100, 117, 108, 101, 35, 111, 112, 97, 113, 117, 101, 6, 219, 12, 103, 101, 116, 95, 102, 105, 108, 101, 110, 97, 109, 101, 9, 57, 95, 102, 114, 111, 122, 101, 110, 95, 105, 109, 112, 111, 114, 116, 108, 105, 98, 95, 101, 120, 116, 101, 114, 110, 97, 108, 46, 70, 105, 108, 101, 76, 111, 97, 100, 101, 114, 46, 103, 101, 116, 95, 102, 105, 108, 101, 110, 97, 109, 101, 35, 111, 112, 97, 113, 117, 101, 6, 220, 8, 103, 101, 116, 95, 100, 97, 116, 97, 9, 53, 95, 102, 114, 111, 122, 101, 110, 95, 105, 109, 112, 111, 114, 116, 108, 105, 98, 95, 101, 120, 116, 101, 114, 110, 97, 108, 46, 70, 105, 108, 101, 76, 111, 97, 100, 101, 114, 46, 103, 101, 116, 95, 100, 97, 116, 97, 35, 111, 112, 97, 113, 117, 101, 6, 221, 19, 103, 101, 116, 95, 114, 101, 115, 111, 117, 114, 99, 101, 95, 114, 101, 97, 100, 101, 114, 9, 64, 95, 102, 114, 111, 122, 101, 110, 95, 105, 109, 112, 111, 114, 116, 108, 105, 98, 95, 101, 120, 116, 101, 114, 110, 97, 108, 46, 70, 105, 108, 101, 76, 111, 97, 100, 101, 114, 46, 103, 101, 116, 95, 114, 101, 115, 111, 117, 114, 99, 101, 95, 114, 101, 97, 100, 101, 114, 35, 111, 112, 97, 113, 117, 101, 6, 222, 21, 95, 95, 115, 116, 97, 116, 105, 99, 95, 97, 116, 116, 114, 105, 98, 117, 116, 101, 115, 95, 95, 4, 0, 0, 23, 6, 224, 8, 95, 95, 100, 105, 99, 116, 95, 95, 4, 0, 0, 24, 6, 226, 11, 95, 95, 119, 101, 97, 107, 114, 101, 102, 95, 95, 4, 0, 0, 25]⟩ 0), (.bool true), (.bool true), (.str ⟨#[]⟩ 227), (i 26 0), (.str ⟨#[6, 233, 10, 95, 95, 109, 111, 100, 117, 108, 101, 95, 95, 6, 229, 26, 95, 102, 114, 111, 122, 101, 110, 95, 105, 109, 112, 111, 114, 116, 108, 105, 98, 95, 101, 120, 116, 101, 114, 110, 97, 108, 6, 234, 15, 95, 95, 102, 105, 114, 115, 116, 108, 105, 110, 101, 110, 111, 95, 95, 4, 230, 0, 1296, 6, 235, 7, 95, 95, 100, 111, 99, 95, 95, 9, 65, 95, 102, 114, 111, 122, 101, 110, 95, 105, 109, 112, 111, 114, 116, 108, 105, 98, 95, 101, 120, 116, 101, 114, 110, 97, 108, 46, 69, 120, 116, 101, 110, 115, 105, 111, 110, 70, 105, 108, 101, 76, 111, 97, 100, 101, 114, 46, 95, 95, 100, 111, 99, 95, 95, 58, 115, 116, 114, 35, 111, 112, 97, 113, 117, 101, 6, 236, 8, 95, 95, 105, 110, 105, 116, 95, 95, 9, 62, 95, 102, 114, 111, 122, 101, 110, 95, 105, 109, 112, 111, 114, 116, 108, 105, 98, 95, 101, 120, 116, 101, 114, 110, 97, 108, 46, 69, 120, 116, 101, 110, 115, 105, 111, 110, 70, 105, 108, 101, 76, 111, 97, 100, 101, 114, 46, 95, 95, 105, 110, 105, 116, 95, 95, 35, 111, 112, 97, 113, 117, 101, 6, 237, 6, 95, 95, 101, 113, 95, 95, 9, 60, 95, 102, 114, 111, 122, 101, 110, 95, 105, 109, 112, 111, 114, 116, 108, 105, 98, 95, 101, 120, 116, 101, 114, 110, 97, 108, 46, 69, 120, 116, 101, 110, 115, 105, 111, 110, 70, 105, 108, 101, 76, 111, 97, 100, 101, 114, 46, 95, 95, 101, 113, 95, 95, 35, 111, 112, 97, 113, 117, 101, 6, 238, 8, 95, 95, 104, 97, 115, 104, 95, 95, 9, 62, 95, 102, 114, 111, 122, 101, 110, 95, 105, 109, 112, 111, 114, 116, 108, 105, 98, 95, 101, 120, 116, 101, 114, 110, 97, 108, 46, 69, 120, 116, 101, 110, 115, 105, 111, 110, 70, 105, 108, 101, 76, 111, 97, 100, 101, 114, 46, 95, 95, 104, 97, 115, 104, 95, 95, 35, 111, 112, 97, 113, 117, 101, 6, 239, 13, 99, 114, 101, 97, 116, 101, 95, 109, 111, 100, 117, 108, 101, 9, 67, 95, 102, 114, 111, 122, 101, 110, 95, 105, 109, 112, 111, 114, 116, 108, 105, 98, 95, 101, 120, 116, 101, 114, 110, 97, 108, 46, 69, 120, 116, 101, 110, 115, 105, 111, 110, 70, 105, 108, 101, 76, 111, 97, 100, 101, 114, 46, 99, 114, 101, 97, 116, 101, 95, 109, 111, 100, 117, 108, 101, 35, 111, 112, 97, 113, 117, 101, 6, 240, 11, 101, 120, 101, 99, 95, 109, 111, 100, 117, 108, 101, 9, 65, 95, 102, 114, 111, 122, 101, 110, 95, 105, 109, 112, 111, 114, 116, 108, 105, 98, 95, 101, 120, 116, 101, 114, 110, 97, 108, 46, 69, 120, 116, 101, 110, 115, 105, 111, 110, 70, 105, 108, 101, 76, 111, 97, 100, 101, 114, 46, 101, 120, 101, 99, 95, 109, 111, 100, 117, 108, 101, 35, 111, 112, 97, 113, 117, 101, 6, 241, 10, 105, 115, 95, 112, 97, 99, 107, 97, 103, 101, 9, 64, 95, 102, 114, 111, 122, 101, 110, 95, 105, 109, 112, 111, 114, 116, 108, 105, 98, 95, 101, 120, 116, 101, 114, 110, 97, 108, 46, 69, 120, 116, 101, 110, 115, 105, 111, 110, 70, 105, 108, 101, 76, 111, 97, 100, 101, 114, 46, 105, 115, 95, 112, 97, 99, 107, 97, 103, 101, 35, 111, 112, 97, 113, 117, 101, 6, 242, 8, 103, 101, 116, 95, 99, 111, 100, 101, 9, 62, 95, 102, 114, 111, 122, 101, 110, 95, 105, 109, 112, 111, 114, 116, 108, 105, 98, 95, 101, 120, 116, 101, 114, 110, 97, 108, 46, 69, 120, 116, 101, 110, 115, 105, 111, 110, 70, 105, 108, 101, 76, 111, 97, 100, 101, 114, 46, 103, 101, 116, 95, 99, 111, 100, 101, 35, 111, 112, 97, 113, 117, 101, 6, 243, 10, 103, 101, 116, 95, 115, 111, 117, 114, 99, 101, 9, 64, 95, 102, 114, 111, 122, 101, 110, 95, 105, 109, 112, 111, 114, 116, 108, 105, 98, 95, 101, 120, 116, 101, 114, 110, 97, 108, 46, 69, 120, 116, 101, 110, 115, 105, 111, 110, 70, 105, 108, 101, 76, 111, 97, 100, 101, 114, 46, 103, 101, 116, 95, 115, 111, 117, 114, 99, 101, 35, 111, 112, 97, 113, 117, 101, 6, 244, 12, 103, 101, 116, 95, 102, 105, 108, 101, 110, 97, 109, 101, 9, 66, 95, 102, 114, 111, 122, 101, 110, 95, 105, 109, 112, 111, 114, 116, 108, 105, 98, 95, 101, 120, 116, 101, 114, 110, 97, 108, 46, 69, 120, 116, 101, 110, 115, 105, 111, 110, 70, 105, 108, 101, 76, 111, 97, 100, 101, 114, 46, 103, 101, 116, 95, 102, 105, 108, 101, 110, 97, 109, 101, 35, 111, 112, 97, 113, 117, 101, 6, 245, 21, 95, 95, 115, 116, 97, 116, 105, 99, 95, 97, 116, 116, 114, 105, 98, 117, 116, 101, 115, 95, 95, 4, 0, 0, 28]⟩ 0), (.bool true), (.bool true), (.str ⟨#[]⟩ 246), (i 32 0), (.str ⟨#[6, 267, 10, 95, 95, 109, 111, 100, 117, 108, 101, 95, 95, 6, 257, 17, 95, 102, 114, 111, 122, 101, 110, 95, 105, 109, 112, 111, 114, 116, 108, 105, 98, 6, 268, 15, 95, 95, 102, 105, 114, 115, 116, 108, 105, 110, 101, 110, 111, 95, 95, 4, 258, 0, 562, 6, 269, 7, 95, 95, 100, 111, 99, 95, 95, 9, 47, 95, 102, 114, 111, 122, 101, 110, 95, 105, 109, 112, 111, 114, 116, 108, 105, 98, 46, 77, 111, 100, 117, 108, 101, 83, 112, 101, 99, 46, 95, 95, 100, 111, 99, 95, 95, 58, 115, 116, 114, 35, 111, 112, 97, 113, 117, 101, 6, 270, 8, 95, 95, 105, 110, 105, 116, 95, 95, 9, 44, 95, 102, 114, 111, 122, 101, 110, 95, 105, 109, 112, 111, 114, 116, 108, 105, 98, 46, 77, 111, 100, 117, 108, 101, 83, 112, 101, 99, 46, 95, 95, 105, 110, 105, 116, 95, 95, 35, 111, 112, 97, 113, 117, 101, 6, 271, 8, 95, 95, 114, 101, 112, 114, 95, 95, 9, 44, 95, 102, 114, 111, 122, 101, 110, 95, 105, 109, 112, 111, 114, 116, 108, 105, 98, 46, 77, 111, 100, 117, 108, 101, 83, 112, 101, 99, 46, 95, 95, 114, 101, 112, 114, 95, 95, 35, 111, 112, 97, 113, 117, 101, 6, 272, 6, 95, 95, 101, 113, 95, 95, 9, 42, 95, 102, 114, 111, 122, 101, 110, 95, 105, 109, 112, 111, 114, 116, 108, 105, 98, 46, 77, 111, 100, 117, 108, 101, 83, 112, 101, 99, 46, 95, 95, 101, 113, 95, 95, 35, 111, 112, 97, 113, 117, 101, 6, 273, 6, 99, 97, 99, 104, 101, 100, 9, 42, 95, 102, 114, 111, 122, 101, 110, 95, 105, 109, 112, 111, 114, 116, 108, 105, 98, 46, 77, 111, 100, 117, 108, 101, 83, 112, 101, 99, 46, 99, 97, 99, 104, 101, 100, 35, 111, 112, 97, 113, 117, 101, 6, 274, 6, 112, 97, 114, 101, 110, 116, 9, 42, 95, 102, 114, 111, 122, 101, 110, 95, 105, 109, 112, 111, 114, 116, 108, 105, 98, 46, 77, 111, 100, 117, 108, 101, 83, 112, 101, 99, 46, 112, 97, 114, 101, 110, 116, 35, 111, 112, 97, 113, 117, 101, 6, 275, 12, 104, 97, 115, 95, 108, 111, 99, 97, 116, 105, 111, 110, 9, 48, 95, 102, 114, 111, 122, 101, 110, 95, 105, 109, 112, 111, 114, 116, 108, 105, 98, 46, 77, 111, 100, 117, 108, 101, 83, 112, 101, 99, 46, 104, 97, 115, 95, 108, 111, 99, 97, 116, 105, 111, 110, 35, 111, 112, 97, 113, 117, 101, 6, 276, 21, 95, 95, 115, 116, 97, 116, 105, 99, 95, 97, 116, 116, 114, 105, 98, 117, 116, 101, 115, 95, 95, 4, 0, 0, 34, 6, 278, 8, 95, 95, 100, 105, 99, 116, 95, 95, 4, 0, 0, 35, 6, 280, 11, 95, 95, 119, 101, 97, 107, 114, 101, 102, 95, 95, 4, 0, 0, 36, 6, 281, 8, 95, 95, 104, 97, 115, 104, 95, 95, 0]⟩ 0), (.bool true), (.bool true), (.str ⟨#[]⟩ 282)] 3)),
  (o (t "dict") (.dict #[(er P ⟨#[95, 95, 109, 111, 100, 117, 108, 101, 95, 95]⟩ 212 (.str ⟨#[95, 102, 114, 111, 122, 101, 110, 95, 105, 109, 112, 111, 114, 116, 108, 105, 98, 95, 101, 120, 116, 101, 114, 110, 97, 108]⟩ 208)), (er P ⟨#[95, 95, 102, 105, 114, 115, 116, 108, 105, 110, 101, 110, 111, 95, 95]⟩ 213 (i 1176 209)), (er P ⟨#[95, 95, 100, 111, 99, 95, 95]⟩ 214 (b "_frozen_importlib_external.FileLoader.__doc__:str#opaque")), (er P ⟨#[95, 95, 105, 110, 105, 116, 95, 95]⟩ 215 (b "_frozen_importlib_external.FileLoader.__init__#opaque")), (er P ⟨#[95, 95, 101, 113, 95, 95]⟩ 216 (b "_frozen_importlib_external.FileLoader.__eq__#opaque")), (er P ⟨#[95, 95, 104, 97, 115, 104, 95, 95]⟩ 217 (b "_frozen_importlib_external.FileLoader.__hash__#opaque")), (er P ⟨#[108, 111, 97, 100, 95, 109, 111, 100, 117, 108, 101]⟩ 218 (b "_frozen_importlib_external.FileLoader.load_module#opaque")), (er P ⟨#[103, 101, 116, 95, 102, 105, 108, 101, 110, 97, 109, 101]⟩ 219 (b "_frozen_importlib_external.FileLoader.get_filename#opaque")), (er P ⟨#[103, 101, 116, 95, 100, 97, 116, 97]⟩ 220 (b "_frozen_importlib_external.FileLoader.get_data#opaque")), (er P ⟨#[103, 101, 116, 95, 114, 101, 115, 111, 117, 114, 99, 101, 95, 114, 101, 97, 100, 101, 114]⟩ 221 (b "_frozen_importlib_external.FileLoader.get_resource_reader#opaque")), (er P ⟨#[95, 95, 115, 116, 97, 116, 105, 99, 95, 97, 116, 116, 114, 105, 98, 117, 116, 101, 115, 95, 95]⟩ 222 (r 23)), (er P ⟨#[95, 95, 100, 105, 99, 116, 95, 95]⟩ 224 (r 24)), (er P ⟨#[95, 95, 119, 101, 97, 107, 114, 101, 102, 95, 95]⟩ 226 (r 25))] 13)),
  (o (t "type") (.cls ⟨⟨#[70, 105, 108, 101, 76, 111, 97, 100, 101, 114]⟩, [(t "object")], [(r 22), (t "object")], 21, ⟨#[70, 105, 108, 101, 76, 111, 97, 100, 101, 114]⟩, true, [], [(r 27)], false, none, false⟩)),
  (o (t "tuple") (.seq #[(.str ⟨#[110, 97, 109, 101]⟩ 210), (.str ⟨#[112, 97, 116, 104]⟩ 211)] 0)),
  (o (t "getset_descriptor") (.fields #[(.str ⟨#[95, 95, 100, 105, 99, 116, 95, 95]⟩ 223), (r 22), (b "function.__dict__"), (b "function.__dict__#set")])),
  (o (t "getset_descriptor") (.fields #[(.str ⟨#[95, 95, 119, 101, 97, 107, 114, 101, 102, 95, 95]⟩ 225), (r 22), (b "ExceptionGroup.__weakref__"), .none])),
  (o (t "dict") (.dict #[(er P ⟨#[95, 95, 109, 111, 100, 117, 108, 101, 95, 95]⟩ 233 (.str ⟨#[95, 102, 114, 111, 122, 101, 110, 95, 105, 109, 112, 111, 114, 116, 108, 105, 98, 95, 101, 120, 116, 101, 114, 110, 97, 108]⟩ 229)), (er P ⟨#[95, 95, 102, 105, 114, 115, 116, 108, 105, 110, 101, 110, 111, 95, 95]⟩ 234 (i 1296 230)), (er P ⟨#[95, 95, 100, 111, 99, 95, 95]⟩ 235 (b "_frozen_importlib_external.ExtensionFileLoader.__doc__:str#opaque")), (er P ⟨#[95, 95, 105, 110, 105, 116, 95, 95]⟩ 236 (b "_frozen_importlib_external.ExtensionFileLoader.__init__#opaque")), (er P ⟨#[95, 95, 101, 113, 95, 95]⟩ 237 (b "_frozen_importlib_external.ExtensionFileLoader.__eq__#opaque")), (er P ⟨#[95, 95, 104, 97, 115, 104, 95, 95]⟩ 238 (b "_frozen_importlib_external.ExtensionFileLoader.__hash__#opaque")), (er P ⟨#[99, 114, 101, 97, 116, 101, 95, 109, 111, 100, 117, 108, 101]⟩ 239 (b "_frozen_importlib_external.ExtensionFileLoader.create_module#opaque")), (er P ⟨#[101, 120, 101, 99, 95, 109, 111, 100, 117, 108, 101]⟩ 240 (b "_frozen_importlib_external.ExtensionFileLoader.exec_module#opaque")), (er P ⟨#[105, 115, 95, 112, 97, 99, 107, 97, 103, 101]⟩ 241 (b "_frozen_importlib_external.ExtensionFileLoader.is_package#opaque")), (er P ⟨#[103, 101, 116, 95, 99, 111, 100, 101]⟩ 242 (b "_frozen_importlib_external.ExtensionFileLoader.get_code#opaque")), (er P ⟨#[103, 101, 116, 95, 115, 111, 117, 114, 99, 101]⟩ 243 (b "_frozen_importlib_external.ExtensionFileLoader.get_source#opaque")), (er P ⟨#[103, 101, 116, 95, 102, 105, 108, 101, 110, 97, 109, 101]⟩ 244 (b "_frozen_importlib_external.ExtensionFileLoader.get_filename#opaque")), (er P ⟨#[95, 95, 115, 116, 97, 116, 105, 99, 95, 97, 116, 116, 114, 105, 98, 117, 116, 101, 115, 95, 95]⟩ 245 (r 28))] 13)),
  (o (t "type") (.cls ⟨⟨#[69, 120, 116, 101, 110, 115, 105, 111, 110, 70, 105, 108, 101, 76, 111, 97, 100, 101, 114]⟩, [(r 22), (r 16)], [(r 27), (r 22), (r 16), (t "object")], 26, ⟨#[69, 120, 116, 101, 110, 115, 105, 111, 110, 70, 105, 108, 101, 76, 111, 97, 100, 101, 114]⟩, true, [], [], false, none, false⟩)),
  (o (t "tuple") (.seq #[(.str ⟨#[110, 97, 109, 101]⟩ 231), (.str ⟨#[112, 97, 116, 104]⟩ 232)] 0)),
  (oo (r 27) (some 14) .plain #[]),
  (o (t "list") (.seq #[] 0)),
  (o (t "dict") (.dict #[(er P ⟨#[110, 97, 109, 101]⟩ 248 (.str ⟨#[95, 115, 116, 114, 117, 99, 116]⟩ 247)), (er P ⟨#[108, 111, 97, 100, 101, 114]⟩ 249 (r 29)), (er P ⟨#[111, 114, 105, 103, 105, 110]⟩ 250 (.str ⟨#[47, 110, 105, 120, 47, 115, 116, 111, 114, 101, 47, 119, 106, 49, 102, 53, 54, 113, 107, 121, 52, 112, 109, 106, 99, 55, 108, 48, 114, 54, 98, 54, 108, 55, 119, 104, 110, 110, 119, 55, 104, 112, 54, 45, 112, 121, 116, 104, 111, 110, 51, 45, 51, 46, 49, 51, 46, 49, 53, 47, 108, 105, 98, 47, 112, 121, 116, 104, 111, 110, 51, 46, 49, 51, 47, 108, 105, 98, 45, 100, 121, 110, 108, 111, 97, 100, 47, 95, 115, 116, 114, 117, 99, 116, 46, 99, 112, 121, 116, 104, 111, 110, 45, 51, 49, 51, 45, 120, 56, 54, 95, 54, 52, 45, 108, 105, 110, 117, 120, 45, 103, 110, 117, 46, 115, 111]⟩ 186)), (er P ⟨#[108, 111, 97, 100, 101, 114, 95, 115, 116, 97, 116, 101]⟩ 251 .none), (er P ⟨#[115, 117, 98, 109, 111, 100, 117, 108, 101, 95, 115, 101, 97, 114, 99, 104, 95, 108, 111, 99, 97, 116, 105, 111, 110, 115]⟩ 252 .none), (er P ⟨#[95, 117, 110, 105, 110, 105, 116, 105, 97, 108, 105, 122, 101, 100, 95, 115, 117, 98, 109, 111, 100, 117, 108, 101, 115]⟩ 253 (r 30)), (er P ⟨#[95, 115, 101, 116, 95, 102, 105, 108, 101, 97, 116, 116, 114]⟩ 254 (.bool true)), (er P ⟨#[95, 99, 97, 99, 104, 101, 100]⟩ 255 .none), (er P ⟨#[95, 105, 110, 105, 116, 105, 97, 108, 105, 122, 105, 110, 103]⟩ 283 (.bool false))] 9)),
  (o (t "dict") (.dict #[(er P ⟨#[95, 95, 109, 111, 100, 117, 108, 101, 95, 95]⟩ 267 (.str ⟨#[95, 102, 114, 111, 122, 101, 110, 95, 105, 109, 112, 111, 114, 116, 108, 105, 98]⟩ 257)), (er P ⟨#[95, 95, 102, 105, 114, 115, 116, 108, 105, 110, 101, 110, 111, 95, 95]⟩ 268 (i 562 258)), (er P ⟨#[95, 95, 100, 111, 99, 95, 95]⟩ 269 (b "_frozen_importlib.ModuleSpec.__doc__:str#opaque")), (er P ⟨#[95, 95, 105, 110, 105, 116, 95, 95]⟩ 270 (b "_frozen_importlib.ModuleSpec.__init__#opaque")), (er P ⟨#[95, 95, 114, 101, 112, 114, 95, 95]⟩ 271 (b "_frozen_importlib.ModuleSpec.__repr__#opaque")), (er P ⟨#[95, 95, 101, 113, 95, 95]⟩ 272 (b "_frozen_importlib.ModuleSpec.__eq__#opaque")), (er P ⟨#[99, 97, 99, 104, 101, 100]⟩ 273 (b "_frozen_importlib.ModuleSpec.cached#opaque")), (er P ⟨#[112, 97, 114, 101, 110, 116]⟩ 274 (b "_frozen_importlib.ModuleSpec.parent#opaque")), (er P ⟨#[104, 97, 115, 95, 108, 111, 99, 97, 116, 105, 111, 110]⟩ 275 (b "_frozen_importlib.ModuleSpec.has_location#opaque")), (er P ⟨#[95, 95, 115, 116, 97, 116, 105, 99, 95, 97, 116, 116, 114, 105, 98, 117, 116, 101, 115, 95, 95]⟩ 276 (r 34)), (er P ⟨#[95, 95, 100, 105, 99, 116, 95, 95]⟩ 278 (r 35)), (er P ⟨#[95, 95, 119, 101, 97, 107, 114, 101, 102, 95, 95]⟩ 280 (r 36)), (er P ⟨#[95, 95, 104, 97, 115, 104, 95, 95]⟩ 281 .none)] 13)),
  (o (t "type") (.cls ⟨⟨#[77, 111, 100, 117, 108, 101, 83, 112, 101, 99]⟩, [(t "object")], [(r 33), (t "object")], 32, ⟨#[77, 111, 100, 117, 108, 101, 83, 112, 101, 99]⟩, true, [], [], false, none, false⟩)),
  (o (t "tuple") (.seq #[(.str ⟨#[95, 99, 97, 99, 104, 101, 100]⟩ 259), (.str ⟨#[95, 115, 101, 116, 95, 102, 105, 108, 101, 97, 116, 116, 114]⟩ 260), (.str ⟨#[95, 117, 110, 105, 110, 105, 116, 105, 97, 108, 105, 122, 101, 100, 95, 115, 117, 98, 109, 111, 100, 117, 108, 101, 115]⟩ 261), (.str ⟨#[108, 111, 97, 100, 101, 114]⟩ 262), (.str ⟨#[108, 111, 97, 100, 101, 114, 95, 115, 116, 97, 116, 101]⟩ 263), (.str ⟨#[110, 97, 109, 101]⟩ 264), (.str ⟨#[111, 114, 105, 103, 105, 110]⟩ 265), (.str ⟨#[115, 117, 98, 109, 111, 100, 117, 108, 101, 95, 115, 101, 97, 114, 99, 104, 95, 108, 111, 99, 97, 116, 105, 111, 110, 115]⟩ 266)] 0)),
  (o (t "getset_descriptor") (.fields #[(.str ⟨#[95, 95, 100, 105, 99, 116, 95, 95]⟩ 277), (r 33), (b "function.__dict__"), (b "function.__dict__#set")])),
  (o (t "getset_descriptor") (.fields #[(.str ⟨#[95, 95, 119, 101, 97, 107, 114, 101, 102, 95, 95]⟩ 279), (r 33), (b "ExceptionGroup.__weakref__"), .none])),
  (oo (r 33) (some 31) .plain #[]),
  (o .none (.seq #[(i 12 0), (.str ⟨#[6, 287, 8, 95, 95, 110, 97, 109, 101, 95, 95, 6, 286, 7, 95, 115, 116, 114, 117, 99, 116, 6, 288, 7, 95, 95, 100, 111, 99, 95, 95, 9, 26, 95, 115, 116, 114, 117, 99, 116, 46, 95, 95, 100, 111, 99, 95, 95, 58, 115, 116, 114, 35, 111, 112, 97, 113, 117, 101, 6, 290, 11, 95, 95, 112, 97, 99, 107, 97, 103, 101, 95, 95, 6, 289, 0, 6, 291, 10, 95, 95, 108, 111, 97, 100, 101, 114, 95, 95, 4, 0, 0, 29, 6, 292, 8, 95, 95, 115, 112, 101, 99, 95, 95, 4, 0, 0, 37, 6, 293, 11, 95, 99, 108, 101, 97, 114, 99, 97, 99, 104, 101, 9, 19, 95, 115, 116, 114, 117, 99, 116, 46, 95, 99, 108, 101, 97, 114, 99, 97, 99, 104, 101, 6, 294, 8, 99, 97, 108, 99, 115, 105, 122, 101, 9, 16, 95, 115, 116, 114, 117, 99, 116, 46, 99, 97, 108, 99, 115, 105, 122, 101, 6, 295, 11, 105, 116, 101, 114, 95, 117, 110, 112, 97, 99, 107, 9, 19, 95, 115, 116, 114, 117, 99, 116, 46, 105, 116, 101, 114, 95, 117, 110, 112, 97, 99, 107, 6, 296, 4, 112, 97, 99, 107, 9, 12, 95, 115, 116, 114, 117, 99, 116, 46, 112, 97, 99, 107, 6, 297, 9, 112, 97, 99, 107, 95, 105, 110, 116, 111, 9, 17, 95, 115, 116, 114, 117, 99, 116, 46, 112, 97, 99, 107, 95, 105, 110, 116, 111, 6, 298, 6, 117, 110, 112, 97, 99, 107, 9, 14, 95, 115, 116, 114, 117, 99, 116, 46, 117, 110, 112, 97, 99, 107, 6, 299, 11, 117, 110, 112, 97, 99, 107, 95, 102, 114, 111, 109, 9, 19, 95, 115, 116, 114, 117, 99, 116, 46, 117, 110, 112, 97, 99, 107, 95, 102, 114, 111, 109, 6, 300, 8, 95, 95, 102, 105, 108, 101, 95, 95, 6, 186, 126, 47, 110, 105, 120, 47, 115, 116, 111, 114, 101, 47, 119, 106, 49, 102, 53, 54, 113, 107, 121, 52, 112, 109, 106, 99, 55, 108, 48, 114, 54, 98, 54, 108, 55, 119, 104, 110, 110, 119, 55, 104, 112, 54, 45, 112, 121, 116, 104, 111, 110, 51, 45, 51, 46, 49, 51, 46, 49, 53, 47, 108, 105, 98, 47, 112, 121, 116, 104, 111, 110, 51, 46, 49, 51, 47, 108, 105, 98, 45, 100, 121, 110, 108, 111, 97, 100, 47, 95, 115, 116, 114, 117, 99, 116, 46, 99, 112, 121, 116, 104, 111, 110, 45, 51, 49, 51, 45, 120, 56, 54, 95, 54, 52, 45, 108, 105, 110, 117, 120, 45, 103, 110, 117, 46, 115, 111, 6, 301, 6, 83, 116, 114, 117, 99, 116, 8, 14, 95, 115, 116, 114, 117, 99, 116, 46, 83, 116, 114, 117, 99, 116, 6, 303, 5, 101, 114, 114, 111, 114, 8, 12, 115, 116, 114, 117, 99, 116, 46, 101, 114, 114, 111, 114]⟩ 0), (.bool true), (.bool false), (.str ⟨#[95, 115, 116, 114, 117, 99, 116]⟩ 305)] 0))], {}⟩
def IG : Program → World → Nat → SharedT → Thread → Option (SharedT × Thread) := PySem.W.Fast.tw14789777615569096658 PySem.W.Fast.tw14364793385576792824
def st0 : Shared × Thread := PySem.W.Fast.tw1435165496053646825 (opening prg)
def I0 (w : World) : SharedT := ⟨.nil, 0, {}, #[], {}, 1, st0.1.os⟩
def thI0 (w : World) : Thread := st0.2
theorem iz (w : World) : (I0 w).abs = st0.1 := by kernel_rfl
def HM360 (P : Params) : List Obj := [
  (o (t "dict") (.dict #[(er P ⟨#[95, 95, 110, 97, 109, 101, 95, 95]⟩ 1 (.str ⟨#[98, 117, 105, 108, 116, 105, 110, 115]⟩ 160)), (er P ⟨#[95, 95, 100, 111, 99, 95, 95]⟩ 2 (b "builtins.__doc__:str#opaque")), (er P ⟨#[95, 95, 112, 97, 99, 107, 97, 103, 101, 95, 95]⟩ 3 (b "builtins.__package__:str#opaque")), (er P ⟨#[95, 95, 108, 111, 97, 100, 101, 114, 95, 95]⟩ 4 (b "builtins.__loader__:shared#opaque")), (er P ⟨#[95, 95, 115, 112, 101, 99, 95, 95]⟩ 5 (b "builtins.__spec__#opaque")), (er P ⟨#[95, 95, 98, 117, 105, 108, 100, 95, 99, 108, 97, 115, 115, 95, 95]⟩ 6 (b "__build_class__")), (er P ⟨#[95, 95, 105, 109, 112, 111, 114, 116, 95, 95]⟩ 7 (b "__import__")), (er P ⟨#[97, 98, 115]⟩ 8 (b "abs")), (er P ⟨#[97, 108, 108]⟩ 9 (b "all")), (er P ⟨#[97, 110, 121]⟩ 10 (b "any")), (er P ⟨#[97, 115, 99, 105, 105]⟩ 11 (b "ascii")), (er P ⟨#[98, 105, 110]⟩ 12 (b "bin")), (er P ⟨#[98, 114, 101, 97, 107, 112, 111, 105, 110, 116]⟩ 13 (b "breakpoint")), (er P ⟨#[99, 97, 108, 108, 97, 98, 108, 101]⟩ 14 (b "callable")), (er P ⟨#[99, 104, 114]⟩ 15 (b "chr")), (er P ⟨#[99, 111, 109, 112, 105, 108, 101]⟩ 16 (b "compile")), (er P ⟨#[100, 101, 108, 97, 116, 116, 114]⟩ 17 (b "delattr")), (er P ⟨#[100, 105, 114]⟩ 18 (b "dir")), (er P ⟨#[100, 105, 118, 109, 111, 100]⟩ 19 (b "divmod")), (er P ⟨#[101, 118, 97, 108]⟩ 20 (b "eval")), (er P ⟨#[101, 120, 101, 99]⟩ 21 (b "exec")), (er P ⟨#[102, 111, 114, 109, 97, 116]⟩ 22 (b "format")), (er P ⟨#[103, 101, 116, 97, 116, 116, 114]⟩ 23 (b "getattr")), (er P ⟨#[103, 108, 111, 98, 97, 108, 115]⟩ 24 (b "globals")), (er P ⟨#[104, 97, 115, 97, 116, 116, 114]⟩ 25 (b "hasattr")), (er P ⟨#[104, 97, 115, 104]⟩ 26 (b "hash")), (er P ⟨#[104, 101, 120]⟩ 27 (b "hex")), (er P ⟨#[105, 100]⟩ 28 (b "id")), (er P ⟨#[105, 110, 112, 117, 116]⟩ 29 (b "input")), (er P ⟨#[105, 115, 105, 110, 115, 116, 97, 110, 99, 101]⟩ 30 (b "isinstance")), (er P ⟨#[105, 115, 115, 117, 98, 99, 108, 97, 115, 115]⟩ 31 (b "issubclass")), (er P ⟨#[105, 116, 101, 114]⟩ 32 (b "iter")), (er P ⟨#[97, 105, 116, 101, 114]⟩ 33 (b "aiter")), (er P ⟨#[108, 101, 110]⟩ 34 (b "len")), (er P ⟨#[108, 111, 99, 97, 108, 115]⟩ 35 (b "locals")), (er P ⟨#[109, 97, 120]⟩ 36 (b "max")), (er P ⟨#[109, 105, 110]⟩ 37 (b "min")), (er P ⟨#[110, 101, 120, 116]⟩ 38 (b "next")), (er P ⟨#[97, 110, 101, 120, 116]⟩ 39 (b "anext")), (er P ⟨#[111, 99, 116]⟩ 40 (b "oct")), (er P ⟨#[111, 114, 100]⟩ 41 (b "ord")), (er P ⟨#[112, 111, 119]⟩ 42 (b "pow")), (er P ⟨#[112, 114, 105, 110, 116]⟩ 43 (b "print")), (er P ⟨#[114, 101, 112, 114]⟩ 44 (b "repr")), (er P ⟨#[114, 111, 117, 110, 100]⟩ 45 (b "round")), (er P ⟨#[115, 101, 116, 97, 116, 116, 114]⟩ 46 (b "setattr")), (er P ⟨#[115, 111, 114, 116, 101, 100]⟩ 47 (b "sorted")), (er P ⟨#[115, 117, 109]⟩ 48 (b "sum")), (er P ⟨#[118, 97, 114, 115]⟩ 49 (b "vars")), (er P ⟨#[78, 111, 110, 101]⟩ 50 .none), (er P ⟨#[69, 108, 108, 105, 112, 115, 105, 115]⟩ 51 .ellipsis), (er P ⟨#[78, 111, 116, 73, 109, 112, 108, 101, 109, 101, 110, 116, 101, 100]⟩ 52 .notImplemented), (er P ⟨#[70, 97, 108, 115, 101]⟩ 53 (.bool false)), (er P ⟨#[84, 114, 117, 101]⟩ 54 (.bool true)), (er P ⟨#[98, 111, 111, 108]⟩ 55 (t "bool")), (er P ⟨#[109, 101, 109, 111, 114, 121, 118, 105, 101, 119]⟩ 56 (t "memoryview")), (er P ⟨#[98, 121, 116, 101, 97, 114, 114, 97, 121]⟩ 57 (t "bytearray")), (er P ⟨#[98, 121, 116, 101, 115]⟩ 58 (t "bytes")), (er P ⟨#[99, 108, 97, 115, 115, 109, 101, 116, 104, 111, 100]⟩ 59 (t "classmethod")), (er P ⟨#[99, 111, 109, 112, 108, 101, 120]⟩ 60 (t "complex")), (er P ⟨#[100, 105, 99, 116]⟩ 61 (t "dict")), (er P ⟨#[101, 110, 117, 109, 101, 114, 97, 116, 101]⟩ 62 (t "enumerate")), (er P ⟨#[102, 105, 108, 116, 101, 114]⟩ 63 (t "filter")), (er P ⟨#[102, 108, 111, 97, 116]⟩ 64 (t "float")), (er P ⟨#[102, 114, 111, 122, 101, 110, 115, 101, 116]⟩ 65 (t "frozenset")), (er P ⟨#[112, 114, 111, 112, 101, 114, 116, 121]⟩ 66 (t "property")), (er P ⟨#[105, 110, 116]⟩ 67 (t "int")), (er P ⟨#[108, 105, 115, 116]⟩ 68 (t "list")), (er P ⟨#[109, 97, 112]⟩ 69 (t "map")), (er P ⟨#[111, 98, 106, 101, 99, 116]⟩ 70 (t "object")), (er P ⟨#[114, 97, 110, 103, 101]⟩ 71 (t "range")), (er P ⟨#[114, 101, 118, 101, 114, 115, 101, 100]⟩ 72 (t "reversed")), (er P ⟨#[115, 101, 116]⟩ 73 (t "set")), (er P ⟨#[115, 108, 105, 99, 101]⟩ 74 (t "slice")), (er P ⟨#[115, 116, 97, 116, 105, 99, 109, 101, 116, 104, 111, 100]⟩ 75 (t "staticmethod")), (er P ⟨#[115, 116, 114]⟩ 76 (t "str")), (er P ⟨#[115, 117, 112, 101, 114]⟩ 77 (t "super")), (er P ⟨#[116, 117, 112, 108, 101]⟩ 78 (t "tuple")), (er P ⟨#[116, 121, 112, 101]⟩ 79 (t "type")), (er P ⟨#[122, 105, 112]⟩ 80 (t "zip")), (er P ⟨#[95, 95, 100, 101, 98, 117, 103, 95, 95]⟩ 81 (.bool true)), (er P ⟨#[66, 97, 115, 101, 69, 120, 99, 101, 112, 116, 105, 111, 110]⟩ 82 (t "BaseException")), (er P ⟨#[66, 97, 115, 101, 69, 120, 99, 101, 112, 116, 105, 111, 110, 71, 114, 111, 117, 112]⟩ 83 (t "BaseExceptionGroup")), (er P ⟨#[69, 120, 99, 101, 112, 116, 105, 111, 110]⟩ 84 (t "Exception")), (er P ⟨#[71, 101, 110, 101, 114, 97, 116, 111, 114, 69, 120, 105, 116]⟩ 85 (t "GeneratorExit")), (er P ⟨#[75, 101, 121, 98, 111, 97, 114, 100, 73, 110, 116, 101, 114, 114, 117, 112, 116]⟩ 86 (t "KeyboardInterrupt")), (er P ⟨#[83, 121, 115, 116, 101, 109, 69, 120, 105, 116]⟩ 87 (t "SystemExit")), (er P ⟨#[65, 114, 105, 116, 104, 109, 101, 116, 105, 99, 69, 114, 114, 111, 114]⟩ 88 (t "ArithmeticError")), (er P ⟨#[65, 115, 115, 101, 114, 116, 105, 111, 110, 69, 114, 114, 111, 114]⟩ 89 (t "AssertionError")), (er P ⟨#[65, 116, 116, 114, 105, 98, 117, 116, 101, 69, 114, 114, 111, 114]⟩ 90 (t "AttributeError")), (er P ⟨#[66, 117, 102, 102, 101, 114, 69, 114, 114, 111, 114]⟩ 91 (t "BufferError")), (er P ⟨#[69, 79, 70, 69, 114, 114, 111, 114]⟩ 92 (t "EOFError")), (er P ⟨#[73, 109, 112, 111, 114, 116, 69, 114, 114, 111, 114]⟩ 93 (t "ImportError")), (er P ⟨#[76, 111, 111, 107, 117, 112, 69, 114, 114, 111, 114]⟩ 94 (t "LookupError")), (er P ⟨#[77, 101, 109, 111, 114, 121, 69, 114, 114, 111, 114]⟩ 95 (t "MemoryError")), (er P ⟨#[78, 97, 109, 101, 69, 114, 114, 111, 114]⟩ 96 (t "NameError")), (er P ⟨#[79, 83, 69, 114, 114, 111, 114]⟩ 97 (t "OSError")), (er P ⟨#[82, 101, 102, 101, 114, 101, 110, 99, 101, 69, 114, 114, 111, 114]⟩ 98 (t "ReferenceError")), (er P ⟨#[82, 117, 110, 116, 105, 109, 101, 69, 114, 114, 111, 114]⟩ 99 (t "RuntimeError")), (er P ⟨#[83, 116, 111, 112, 65, 115, 121, 110, 99, 73, 116, 101, 114, 97, 116, 105, 111, 110]⟩ 100 (t "StopAsyncIteration")), (er P ⟨#[83, 116, 111, 112, 73, 116, 101, 114, 97, 116, 105, 111, 110]⟩ 101 (t "StopIteration")), (er P ⟨#[83, 121, 110, 116, 97, 120, 69, 114, 114, 111, 114]⟩ 102 (t "SyntaxError")), (er P ⟨#[83, 121, 115, 116, 101, 109, 69, 114, 114, 111, 114]⟩ 103 (t "SystemError")), (er P ⟨#[84, 121, 112, 101, 69, 114, 114, 111, 114]⟩ 104 (t "TypeError")), (er P ⟨#[86, 97, 108, 117, 101, 69, 114, 114, 111, 114]⟩ 105 (t "ValueError")), (er P ⟨#[87, 97, 114, 110, 105, 110, 103]⟩ 106 (t "Warning")), (er P ⟨#[70, 108, 111, 97, 116, 105, 110, 103, 80, 111, 105, 110, 116, 69, 114, 114, 111, 114]⟩ 107 (t "FloatingPointError")), (er P ⟨#[79, 118, 101, 114, 102, 108, 111, 119, 69, 114, 114, 111, 114]⟩ 108 (t "OverflowError")), (er P ⟨#[90, 101, 114, 111, 68, 105, 118, 105, 115, 105, 111, 110, 69, 114, 114, 111, 114]⟩ 109 (t "ZeroDivisionError")), (er P ⟨#[66, 121, 116, 101, 115, 87, 97, 114, 110, 105, 110, 103]⟩ 110 (t "BytesWarning")), (er P ⟨#[68, 101, 112, 114, 101, 99, 97, 116, 105, 111, 110, 87, 97, 114, 110, 105, 110, 103]⟩ 111 (t "DeprecationWarning")), (er P ⟨#[69, 110, 99, 111, 100, 105, 110, 103, 87, 97, 114, 110, 105, 110, 103]⟩ 112 (t "EncodingWarning")), (er P ⟨#[70, 117, 116, 117, 114, 101, 87, 97, 114, 110, 105, 110, 103]⟩ 113 (t "FutureWarning")), (er P ⟨#[73, 109, 112, 111, 114, 116, 87, 97, 114, 110, 105, 110, 103]⟩ 114 (t "ImportWarning")), (er P ⟨#[80, 101, 110, 100, 105, 110, 103, 68, 101, 112, 114, 101, 99, 97, 116, 105, 111, 110, 87, 97, 114, 110, 105, 110, 103]⟩ 115 (t "PendingDeprecationWarning")), (er P ⟨#[82, 101, 115, 111, 117, 114, 99, 101, 87, 97, 114, 110, 105, 110, 103]⟩ 116 (t "ResourceWarning")), (er P ⟨#[82, 117, 110, 116, 105, 109, 101, 87, 97, 114, 110, 105, 110, 103]⟩ 117 (t "RuntimeWarning")), (er P ⟨#[83, 121, 110, 116, 97, 120, 87, 97, 114, 110, 105, 110, 103]⟩ 118 (t "SyntaxWarning")), (er P ⟨#[85, 110, 105, 99, 111, 100, 101, 87, 97, 114, 110, 105, 110, 103]⟩ 119 (t "UnicodeWarning")), (er P ⟨#[85, 115, 101, 114, 87, 97, 114, 110, 105, 110, 103]⟩ 120 (t "UserWarning")), (er P ⟨#[66, 108, 111, 99, 107, 105, 110, 103, 73, 79, 69, 114, 114, 111, 114]⟩ 121 (t "BlockingIOError")), (er P ⟨#[67, 104, 105, 108, 100, 80, 114, 111, 99, 101, 115, 115, 69, 114, 114, 111, 114]⟩ 122 (t "ChildProcessError")), (er P ⟨#[67, 111, 110, 110, 101, 99, 116, 105, 111, 110, 69, 114, 114, 111, 114]⟩ 123 (t "ConnectionError")), (er P ⟨#[70, 105, 108, 101, 69, 120, 105, 115, 116, 115, 69, 114, 114, 111, 114]⟩ 124 (t "FileExistsError")), (er P ⟨#[70, 105, 108, 101, 78, 111, 116, 70, 111, 117, 110, 100, 69, 114, 114, 111, 114]⟩ 125 (t "FileNotFoundError")), (er P ⟨#[73, 110, 116, 101, 114, 114, 117, 112, 116, 101, 100, 69, 114, 114, 111, 114]⟩ 126 (t "InterruptedError")), (er P ⟨#[73, 115, 65, 68, 105, 114, 101, 99, 116, 111, 114, 121, 69, 114, 114, 111, 114]⟩ 127 (t "IsADirectoryError")), (er P ⟨#[78, 111, 116, 65, 68, 105, 114, 101, 99, 116, 111, 114, 121, 69, 114, 114, 111, 114]⟩ 128 (t "NotADirectoryError")), (er P ⟨#[80, 101, 114, 109, 105, 115, 115, 105, 111, 110, 69, 114, 114, 111, 114]⟩ 129 (t "PermissionError")), (er P ⟨#[80, 114, 111, 99, 101, 115, 115, 76, 111, 111, 107, 117, 112, 69, 114, 114, 111, 114]⟩ 130 (t "ProcessLookupError")), (er P ⟨#[84, 105, 109, 101, 111, 117, 116, 69, 114, 114, 111, 114]⟩ 131 (t "TimeoutError")), (er P ⟨#[73, 110, 100, 101, 110, 116, 97, 116, 105, 111, 110, 69, 114, 114, 111, 114]⟩ 132 (t "IndentationError")), (er P ⟨#[95, 73, 110, 99, 111, 109, 112, 108, 101, 116, 101, 73, 110, 112, 117, 116, 69, 114, 114, 111, 114]⟩ 133 (t "_IncompleteInputError")), (er P ⟨#[73, 110, 100, 101, 120, 69, 114, 114, 111, 114]⟩ 134 (t "IndexError")), (er P ⟨#[75, 101, 121, 69, 114, 114, 111, 114]⟩ 135 (t "KeyError")), (er P ⟨#[77, 111, 100, 117, 108, 101, 78, 111, 116, 70, 111, 117, 110, 100, 69, 114, 114, 111, 114]⟩ 136 (t "ModuleNotFoundError")), (er P ⟨#[78, 111, 116, 73, 109, 112, 108, 101, 109, 101, 110, 116, 101, 100, 69, 114, 114, 111, 114]⟩ 137 (t "NotImplementedError")), (er P ⟨#[80, 121, 116, 104, 111, 110, 70, 105, 110, 97, 108, 105, 122, 97, 116, 105, 111, 110, 69, 114, 114, 111, 114]⟩ 138 (t "PythonFinalizationError")), (er P ⟨#[82, 101, 99, 117, 114, 115, 105, 111, 110, 69, 114, 114, 111, 114]⟩ 139 (t "RecursionError")), (er P ⟨#[85, 110, 98, 111, 117, 110, 100, 76, 111, 99, 97, 108, 69, 114, 114, 111, 114]⟩ 140 (t "UnboundLocalError")), (er P ⟨#[85, 110, 105, 99, 111, 100, 101, 69, 114, 114, 111, 114]⟩ 141 (t "UnicodeError")), (er P ⟨#[66, 114, 111, 107, 101, 110, 80, 105, 112, 101, 69, 114, 114, 111, 114]⟩ 142 (t "BrokenPipeError")), (er P ⟨#[67, 111, 110, 110, 101, 99, 116, 105, 111, 110, 65, 98, 111, 114, 116, 101, 100, 69, 114, 114, 111, 114]⟩ 143 (t "ConnectionAbortedError")), (er P ⟨#[67, 111, 110, 110, 101, 99, 116, 105, 111, 110, 82, 101, 102, 117, 115, 101, 100, 69, 114, 114, 111, 114]⟩ 144 (t "ConnectionRefusedError")), (er P ⟨#[67, 111, 110, 110, 101, 99, 116, 105, 111, 110, 82, 101, 115, 101, 116, 69, 114, 114, 111, 114]⟩ 145 (t "ConnectionResetError")), (er P ⟨#[84, 97, 98, 69, 114, 114, 111, 114]⟩ 146 (t "TabError")), (er P ⟨#[85, 110, 105, 99, 111, 100, 101, 68, 101, 99, 111, 100, 101, 69, 114, 114, 111, 114]⟩ 147 (t "UnicodeDecodeError")), (er P ⟨#[85, 110, 105, 99, 111, 100, 101, 69, 110, 99, 111, 100, 101, 69, 114, 114, 111, 114]⟩ 148 (t "UnicodeEncodeError")), (er P ⟨#[85, 110, 105, 99, 111, 100, 101, 84, 114, 97, 110, 115, 108, 97, 116, 101, 69, 114, 114, 111, 114]⟩ 149 (t "UnicodeTranslateError")), (er P ⟨#[69, 120, 99, 101, 112, 116, 105, 111, 110, 71, 114, 111, 117, 112]⟩ 150 (t "ExceptionGroup")), (er P ⟨#[69, 110, 118, 105, 114, 111, 110, 109, 101, 110, 116, 69, 114, 114, 111, 114]⟩ 151 (t "OSError")), (er P ⟨#[73, 79, 69, 114, 114, 111, 114]⟩ 152 (t "OSError")), (er P ⟨#[111, 112, 101, 110]⟩ 153 (b "open")), (er P ⟨#[113, 117, 105, 116]⟩ 154 (b "builtins.quit#opaque")), (er P ⟨#[101, 120, 105, 116]⟩ 155 (b "builtins.exit#opaque")), (er P ⟨#[99, 111, 112, 121, 114, 105, 103, 104, 116]⟩ 156 (b "builtins.copyright#opaque")), (er P ⟨#[99, 114, 101, 100, 105, 116, 115]⟩ 157 (b "builtins.credits#opaque")), (er P ⟨#[108, 105, 99, 101, 110, 115, 101]⟩ 158 (b "builtins.license#opaque")), (er P ⟨#[104, 101, 108, 112]⟩ 159 (b "builtins.help#opaque"))] 159)),
  (o (t "dict") (.dict #[(er P ⟨#[98, 117, 105, 108, 116, 105, 110, 115]⟩ 162 (r 4)), (er P ⟨#[95, 95, 109, 97, 105, 110, 95, 95]⟩ 163 (r 5))] 2)),
  (o .none (.dict #[] 0)),
  (o (t "dict") (.dict #[(er P ⟨#[95, 95, 110, 97, 109, 101, 95, 95]⟩ 165 (.str ⟨#[95, 95, 109, 97, 105, 110, 95, 95]⟩ 164)), (er P ⟨#[95, 95, 100, 111, 99, 95, 95]⟩ 166 .none), (er P ⟨#[95, 95, 112, 97, 99, 107, 97, 103, 101, 95, 95]⟩ 167 .none), (er P ⟨#[95, 95, 108, 111, 97, 100, 101, 114, 95, 95]⟩ 168 (b "__main__.__loader__#opaque")), (er P ⟨#[95, 95, 115, 112, 101, 99, 95, 95]⟩ 169 .none)] 5)),
  (oo (t "module") (some 0) .plain #[]),
  (oo (t "module") (some 3) .plain #[]),
  (o (t "dict") (.dict #[] 0))]
def I360 (w : World) : SharedT := ⟨bt 12 (HM360 w.params), 7, {}, #[], {}, 170, st0.1.os⟩
def thI360 (w : World) : Thread := match IG (opening prg) w 360 (I0 w) (thI0 w) with
  | some (_, th) => th
  | none => st0.2
theorem i360 (w : World) : IG (opening prg) w 360 (I0 w) (thI0 w) = some (I360 w, thI360 w) := by kernel_rfl
def HM680 (P : Params) : List Obj := [
  (o (t "dict") (.dict #[(er P ⟨#[95, 95, 110, 97, 109, 101, 95, 95]⟩ 1 (.str ⟨#[98, 117, 105, 108, 116, 105, 110, 115]⟩ 160)), (er P ⟨#[95, 95, 100, 111, 99, 95, 95]⟩ 2 (b "builtins.__doc__:str#opaque")), (er P ⟨#[95, 95, 112, 97, 99, 107, 97, 103, 101, 95, 95]⟩ 3 (b "builtins.__package__:str#opaque")), (er P ⟨#[95, 95, 108, 111, 97, 100, 101, 114, 95, 95]⟩ 4 (b "builtins.__loader__:shared#opaque")), (er P ⟨#[95, 95, 115, 112, 101, 99, 95, 95]⟩ 5 (b "builtins.__spec__#opaque")), (er P ⟨#[95, 95, 98, 117, 105, 108, 100, 95, 99, 108, 97, 115, 115, 95, 95]⟩ 6 (b "__build_class__")), (er P ⟨#[95, 95, 105, 109, 112, 111, 114, 116, 95, 95]⟩ 7 (b "__import__")), (er P ⟨#[97, 98, 115]⟩ 8 (b "abs")), (er P ⟨#[97, 108, 108]⟩ 9 (b "all")), (er P ⟨#[97, 110, 121]⟩ 10 (b "any")), (er P ⟨#[97, 115, 99, 105, 105]⟩ 11 (b "ascii")), (er P ⟨#[98, 105, 110]⟩ 12 (b "bin")), (er P ⟨#[98, 114, 101, 97, 107, 112, 111, 105, 110, 116]⟩ 13 (b "breakpoint")), (er P ⟨#[99, 97, 108, 108, 97, 98, 108, 101]⟩ 14 (b "callable")), (er P ⟨#[99, 104, 114]⟩ 15 (b "chr")), (er P ⟨#[99, 111, 109, 112, 105, 108, 101]⟩ 16 (b "compile")), (er P ⟨#[100, 101, 108, 97, 116, 116, 114]⟩ 17 (b "delattr")), (er P ⟨#[100, 105, 114]⟩ 18 (b "dir")), (er P ⟨#[100, 105, 118, 109, 111, 100]⟩ 19 (b "divmod")), (er P ⟨#[101, 118, 97, 108]⟩ 20 (b "eval")), (er P ⟨#[101, 120, 101, 99]⟩ 21 (b "exec")), (er P ⟨#[102, 111, 114, 109, 97, 116]⟩ 22 (b "format")), (er P ⟨#[103, 101, 116, 97, 116, 116, 114]⟩ 23 (b "getattr")), (er P ⟨#[103, 108, 111, 98, 97, 108, 115]⟩ 24 (b "globals")), (er P ⟨#[104, 97, 115, 97, 116, 116, 114]⟩ 25 (b "hasattr")), (er P ⟨#[104, 97, 115, 104]⟩ 26 (b "hash")), (er P ⟨#[104, 101, 120]⟩ 27 (b "hex")), (er P ⟨#[105, 100]⟩ 28 (b "id")), (er P ⟨#[105, 110, 112, 117, 116]⟩ 29 (b "input")), (er P ⟨#[105, 115, 105, 110, 115, 116, 97, 110, 99, 101]⟩ 30 (b "isinstance")), (er P ⟨#[105, 115, 115, 117, 98, 99, 108, 97, 115, 115]⟩ 31 (b "issubclass")), (er P ⟨#[105, 116, 101, 114]⟩ 32 (b "iter")), (er P ⟨#[97, 105, 116, 101, 114]⟩ 33 (b "aiter")), (er P ⟨#[108, 101, 110]⟩ 34 (b "len")), (er P ⟨#[108, 111, 99, 97, 108, 115]⟩ 35 (b "locals")), (er P ⟨#[109, 97, 120]⟩ 36 (b "max")), (er P ⟨#[109, 105, 110]⟩ 37 (b "min")), (er P ⟨#[110, 101, 120, 116]⟩ 38 (b "next")), (er P ⟨#[97, 110, 101, 120, 116]⟩ 39 (b "anext")), (er P ⟨#[111, 99, 116]⟩ 40 (b "oct")), (er P ⟨#[111, 114, 100]⟩ 41 (b "ord")), (er P ⟨#[112, 111, 119]⟩ 42 (b "pow")), (er P ⟨#[112, 114, 105, 110, 116]⟩ 43 (b "print")), (er P ⟨#[114, 101, 112, 114]⟩ 44 (b "repr")), (er P ⟨#[114, 111, 117, 110, 100]⟩ 45 (b "round")), (er P ⟨#[115, 101, 116, 97, 116, 116, 114]⟩ 46 (b "setattr")), (er P ⟨#[115, 111, 114, 116, 101, 100]⟩ 47 (b "sorted")), (er P ⟨#[115, 117, 109]⟩ 48 (b "sum")), (er P ⟨#[118, 97, 114, 115]⟩ 49 (b "vars")), (er P ⟨#[78, 111, 110, 101]⟩ 50 .none), (er P ⟨#[69, 108, 108, 105, 112, 115, 105, 115]⟩ 51 .ellipsis), (er P ⟨#[78, 111, 116, 73, 109, 112, 108, 101, 109, 101, 110, 116, 101, 100]⟩ 52 .notImplemented), (er P ⟨#[70, 97, 108, 115, 101]⟩ 53 (.bool false)), (er P ⟨#[84, 114, 117, 101]⟩ 54 (.bool true)), (er P ⟨#[98, 111, 111, 108]⟩ 55 (t "bool")), (er P ⟨#[109, 101, 109, 111, 114, 121, 118, 105, 101, 119]⟩ 56 (t "memoryview")), (er P ⟨#[98, 121, 116, 101, 97, 114, 114, 97, 121]⟩ 57 (t "bytearray")), (er P ⟨#[98, 121, 116, 101, 115]⟩ 58 (t "bytes")), (er P ⟨#[99, 108, 97, 115, 115, 109, 101, 116, 104, 111, 100]⟩ 59 (t "classmethod")), (er P ⟨#[99, 111, 109, 112, 108, 101, 120]⟩ 60 (t "complex")), (er P ⟨#[100, 105, 99, 116]⟩ 61 (t "dict")), (er P ⟨#[101, 110, 117, 109, 101, 114, 97, 116, 101]⟩ 62 (t "enumerate")), (er P ⟨#[102, 105, 108, 116, 101, 114]⟩ 63 (t "filter")), (er P ⟨#[102, 108, 111, 97, 116]⟩ 64 (t "float")), (er P ⟨#[102, 114, 111, 122, 101, 110, 115, 101, 116]⟩ 65 (t "frozenset")), (er P ⟨#[112, 114, 111, 112, 101, 114, 116, 121]⟩ 66 (t "property")), (er P ⟨#[105, 110, 116]⟩ 67 (t "int")), (er P ⟨#[108, 105, 115, 116]⟩ 68 (t "list")), (er P ⟨#[109, 97, 112]⟩ 69 (t "map")), (er P ⟨#[111, 98, 106, 101, 99, 116]⟩ 70 (t "object")), (er P ⟨#[114, 97, 110, 103, 101]⟩ 71 (t "range")), (er P ⟨#[114, 101, 118, 101, 114, 115, 101, 100]⟩ 72 (t "reversed")), (er P ⟨#[115, 101, 116]⟩ 73 (t "set")), (er P ⟨#[115, 108, 105, 99, 101]⟩ 74 (t "slice")), (er P ⟨#[115, 116, 97, 116, 105, 99, 109, 101, 116, 104, 111, 100]⟩ 75 (t "staticmethod")), (er P ⟨#[115, 116, 114]⟩ 76 (t "str")), (er P ⟨#[115, 117, 112, 101, 114]⟩ 77 (t "super")), (er P ⟨#[116, 117, 112, 108, 101]⟩ 78 (t "tuple")), (er P ⟨#[116, 121, 112, 101]⟩ 79 (t "type")), (er P ⟨#[122, 105, 112]⟩ 80 (t "zip")), (er P ⟨#[95, 95, 100, 101, 98, 117, 103, 95, 95]⟩ 81 (.bool true)), (er P ⟨#[66, 97, 115, 101, 69, 120, 99, 101, 112, 116, 105, 111, 110]⟩ 82 (t "BaseException")), (er P ⟨#[66, 97, 115, 101, 69, 120, 99, 101, 112, 116, 105, 111, 110, 71, 114, 111, 117, 112]⟩ 83 (t "BaseExceptionGroup")), (er P ⟨#[69, 120, 99, 101, 112, 116, 105, 111, 110]⟩ 84 (t "Exception")), (er P ⟨#[71, 101, 110, 101, 114, 97, 116, 111, 114, 69, 120, 105, 116]⟩ 85 (t "GeneratorExit")), (er P ⟨#[75, 101, 121, 98, 111, 97, 114, 100, 73, 110, 116, 101, 114, 114, 117, 112, 116]⟩ 86 (t "KeyboardInterrupt")), (er P ⟨#[83, 121, 115, 116, 101, 109, 69, 120, 105, 116]⟩ 87 (t "SystemExit")), (er P ⟨#[65, 114, 105, 116, 104, 109, 101, 116, 105, 99, 69, 114, 114, 111, 114]⟩ 88 (t "ArithmeticError")), (er P ⟨#[65, 115, 115, 101, 114, 116, 105, 111, 110, 69, 114, 114, 111, 114]⟩ 89 (t "AssertionError")), (er P ⟨#[65, 116, 116, 114, 105, 98, 117, 116, 101, 69, 114, 114, 111, 114]⟩ 90 (t "AttributeError")), (er P ⟨#[66, 117, 102, 102, 101, 114, 69, 114, 114, 111, 114]⟩ 91 (t "BufferError")), (er P ⟨#[69, 79, 70, 69, 114, 114, 111, 114]⟩ 92 (t "EOFError")), (er P ⟨#[73, 109, 112, 111, 114, 116, 69, 114, 114, 111, 114]⟩ 93 (t "ImportError")), (er P ⟨#[76, 111, 111, 107, 117, 112, 69, 114, 114, 111, 114]⟩ 94 (t "LookupError")), (er P ⟨#[77, 101, 109, 111, 114, 121, 69, 114, 114, 111, 114]⟩ 95 (t "MemoryError")), (er P ⟨#[78, 97, 109, 101, 69, 114, 114, 111, 114]⟩ 96 (t "NameError")), (er P ⟨#[79, 83, 69, 114, 114, 111, 114]⟩ 97 (t "OSError")), (er P ⟨#[82, 101, 102, 101, 114, 101, 110, 99, 101, 69, 114, 114, 111, 114]⟩ 98 (t "ReferenceError")), (er P ⟨#[82, 117, 110, 116, 105, 109, 101, 69, 114, 114, 111, 114]⟩ 99 (t "RuntimeError")), (er P ⟨#[83, 116, 111, 112, 65, 115, 121, 110, 99, 73, 116, 101, 114, 97, 116, 105, 111, 110]⟩ 100 (t "StopAsyncIteration")), (er P ⟨#[83, 116, 111, 112, 73, 116, 101, 114, 97, 116, 105, 111, 110]⟩ 101 (t "StopIteration")), (er P ⟨#[83, 121, 110, 116, 97, 120, 69, 114, 114, 111, 114]⟩ 102 (t "SyntaxError")), (er P ⟨#[83, 121, 115, 116, 101, 109, 69, 114, 114, 111, 114]⟩ 103 (t "SystemError")), (er P ⟨#[84, 121, 112, 101, 69, 114, 114, 111, 114]⟩ 104 (t "TypeError")), (er P ⟨#[86, 97, 108, 117, 101, 69, 114, 114, 111, 114]⟩ 105 (t "ValueError")), (er P ⟨#[87, 97, 114, 110, 105, 110, 103]⟩ 106 (t "Warning")), (er P ⟨#[70, 108, 111, 97, 116, 105, 110, 103, 80, 111, 105, 110, 116, 69, 114, 114, 111, 114]⟩ 107 (t "FloatingPointError")), (er P ⟨#[79, 118, 101, 114, 102, 108, 111, 119, 69, 114, 114, 111, 114]⟩ 108 (t "OverflowError")), (er P ⟨#[90, 101, 114, 111, 68, 105, 118, 105, 115, 105, 111, 110, 69, 114, 114, 111, 114]⟩ 109 (t "ZeroDivisionError")), (er P ⟨#[66, 121, 116, 101, 115, 87, 97, 114, 110, 105, 110, 103]⟩ 110 (t "BytesWarning")), (er P ⟨#[68, 101, 112, 114, 101, 99, 97, 116, 105, 111, 110, 87, 97, 114, 110, 105, 110, 103]⟩ 111 (t "DeprecationWarning")), (er P ⟨#[69, 110, 99, 111, 100, 105, 110, 103, 87, 97, 114, 110, 105, 110, 103]⟩ 112 (t "EncodingWarning")), (er P ⟨#[70, 117, 116, 117, 114, 101, 87, 97, 114, 110, 105, 110, 103]⟩ 113 (t "FutureWarning")), (er P ⟨#[73, 109, 112, 111, 114, 116, 87, 97, 114, 110, 105, 110, 103]⟩ 114 (t "ImportWarning")), (er P ⟨#[80, 101, 110, 100, 105, 110, 103, 68, 101, 112, 114, 101, 99, 97, 116, 105, 111, 110, 87, 97, 114, 110, 105, 110, 103]⟩ 115 (t "PendingDeprecationWarning")), (er P ⟨#[82, 101, 115, 111, 117, 114, 99, 101, 87, 97, 114, 110, 105, 110, 103]⟩ 116 (t "ResourceWarning")), (er P ⟨#[82, 117, 110, 116, 105, 109, 101, 87, 97, 114, 110, 105, 110, 103]⟩ 117 (t "RuntimeWarning")), (er P ⟨#[83, 121, 110, 116, 97, 120, 87, 97, 114, 110, 105, 110, 103]⟩ 118 (t "SyntaxWarning")), (er P ⟨#[85, 110, 105, 99, 111, 100, 101, 87, 97, 114, 110, 105, 110, 103]⟩ 119 (t "UnicodeWarning")), (er P ⟨#[85, 115, 101, 114, 87, 97, 114, 110, 105, 110, 103]⟩ 120 (t "UserWarning")), (er P ⟨#[66, 108, 111, 99, 107, 105, 110, 103, 73, 79, 69, 114, 114, 111, 114]⟩ 121 (t "BlockingIOError")), (er P ⟨#[67, 104, 105, 108, 100, 80, 114, 111, 99, 101, 115, 115, 69, 114, 114, 111, 114]⟩ 122 (t "ChildProcessError")), (er P ⟨#[67, 111, 110, 110, 101, 99, 116, 105, 111, 110, 69, 114, 114, 111, 114]⟩ 123 (t "ConnectionError")), (er P ⟨#[70, 105, 108, 101, 69, 120, 105, 115, 116, 115, 69, 114, 114, 111, 114]⟩ 124 (t "FileExistsError")), (er P ⟨#[70, 105, 108, 101, 78, 111, 116, 70, 111, 117, 110, 100, 69, 114, 114, 111, 114]⟩ 125 (t "FileNotFoundError")), (er P ⟨#[73, 110, 116, 101, 114, 114, 117, 112, 116, 101, 100, 69, 114, 114, 111, 114]⟩ 126 (t "InterruptedError")), (er P ⟨#[73, 115, 65, 68, 105, 114, 101, 99, 116, 111, 114, 121, 69, 114, 114, 111, 114]⟩ 127 (t "IsADirectoryError")), (er P ⟨#[78, 111, 116, 65, 68, 105, 114, 101, 99, 116, 111, 114, 121, 69, 114, 114, 111, 114]⟩ 128 (t "NotADirectoryError")), (er P ⟨#[80, 101, 114, 109, 105, 115, 115, 105, 111, 110, 69, 114, 114, 111, 114]⟩ 129 (t "PermissionError")), (er P ⟨#[80, 114, 111, 99, 101, 115, 115, 76, 111, 111, 107, 117, 112, 69, 114, 114, 111, 114]⟩ 130 (t "ProcessLookupError")), (er P ⟨#[84, 105, 109, 101, 111, 117, 116, 69, 114, 114, 111, 114]⟩ 131 (t "TimeoutError")), (er P ⟨#[73, 110, 100, 101, 110, 116, 97, 116, 105, 111, 110, 69, 114, 114, 111, 114]⟩ 132 (t "IndentationError")), (er P ⟨#[95, 73, 110, 99, 111, 109, 112, 108, 101, 116, 101, 73, 110, 112, 117, 116, 69, 114, 114, 111, 114]⟩ 133 (t "_IncompleteInputError")), (er P ⟨#[73, 110, 100, 101, 120, 69, 114, 114, 111, 114]⟩ 134 (t "IndexError")), (er P ⟨#[75, 101, 121, 69, 114, 114, 111, 114]⟩ 135 (t "KeyError")), (er P ⟨#[77, 111, 100, 117, 108, 101, 78, 111, 116, 70, 111, 117, 110, 100, 69, 114, 114, 111, 114]⟩ 136 (t "ModuleNotFoundError")), (er P ⟨#[78, 111, 116, 73, 109, 112, 108, 101, 109, 101, 110, 116, 101, 100, 69, 114, 114, 111, 114]⟩ 137 (t "NotImplementedError")), (er P ⟨#[80, 121, 116, 104, 111, 110, 70, 105, 110, 97, 108, 105, 122, 97, 116, 105, 111, 110, 69, 114, 114, 111, 114]⟩ 138 (t "PythonFinalizationError")), (er P ⟨#[82, 101, 99, 117, 114, 115, 105, 111, 110, 69, 114, 114, 111, 114]⟩ 139 (t "RecursionError")), (er P ⟨#[85, 110, 98, 111, 117, 110, 100, 76, 111, 99, 97, 108, 69, 114, 114, 111, 114]⟩ 140 (t "UnboundLocalError")), (er P ⟨#[85, 110, 105, 99, 111, 100, 101, 69, 114, 114, 111, 114]⟩ 141 (t "UnicodeError")), (er P ⟨#[66, 114, 111, 107, 101, 110, 80, 105, 112, 101, 69, 114, 114, 111, 114]⟩ 142 (t "BrokenPipeError")), (er P ⟨#[67, 111, 110, 110, 101, 99, 116, 105, 111, 110, 65, 98, 111, 114, 116, 101, 100, 69, 114, 114, 111, 114]⟩ 143 (t "ConnectionAbortedError")), (er P ⟨#[67, 111, 110, 110, 101, 99, 116, 105, 111, 110, 82, 101, 102, 117, 115, 101, 100, 69, 114, 114, 111, 114]⟩ 144 (t "ConnectionRefusedError")), (er P ⟨#[67, 111, 110, 110, 101, 99, 116, 105, 111, 110, 82, 101, 115, 101, 116, 69, 114, 114, 111, 114]⟩ 145 (t "ConnectionResetError")), (er P ⟨#[84, 97, 98, 69, 114, 114, 111, 114]⟩ 146 (t "TabError")), (er P ⟨#[85, 110, 105, 99, 111, 100, 101, 68, 101, 99, 111, 100, 101, 69, 114, 114, 111, 114]⟩ 147 (t "UnicodeDecodeError")), (er P ⟨#[85, 110, 105, 99, 111, 100, 101, 69, 110, 99, 111, 100, 101, 69, 114, 114, 111, 114]⟩ 148 (t "UnicodeEncodeError")), (er P ⟨#[85, 110, 105, 99, 111, 100, 101, 84, 114, 97, 110, 115, 108, 97, 116, 101, 69, 114, 114, 111, 114]⟩ 149 (t "UnicodeTranslateError")), (er P ⟨#[69, 120, 99, 101, 112, 116, 105, 111, 110, 71, 114, 111, 117, 112]⟩ 150 (t "ExceptionGroup")), (er P ⟨#[69, 110, 118, 105, 114, 111, 110, 109, 101, 110, 116, 69, 114, 114, 111, 114]⟩ 151 (t "OSError")), (er P ⟨#[73, 79, 69, 114, 114, 111, 114]⟩ 152 (t "OSError")), (er P ⟨#[111, 112, 101, 110]⟩ 153 (b "open")), (er P ⟨#[113, 117, 105, 116]⟩ 154 (b "builtins.quit#opaque")), (er P ⟨#[101, 120, 105, 116]⟩ 155 (b "builtins.exit#opaque")), (er P ⟨#[99, 111, 112, 121, 114, 105, 103, 104, 116]⟩ 156 (b "builtins.copyright#opaque")), (er P ⟨#[99, 114, 101, 100, 105, 116, 115]⟩ 157 (b "builtins.credits#opaque")), (er P ⟨#[108, 105, 99, 101, 110, 115, 101]⟩ 158 (b "builtins.license#opaque")), (er P ⟨#[104, 101, 108, 112]⟩ 159 (b "builtins.help#opaque"))] 159)),
  (o (t "dict") (.dict #[(er P ⟨#[98, 117, 105, 108, 116, 105, 110, 115]⟩ 162 (r 4)), (er P ⟨#[95, 95, 109, 97, 105, 110, 95, 95]⟩ 163 (r 5))] 2)),
  (o .none (.dict #[(er P ⟨#[105, 109, 112, 111, 114, 116, 46, 108, 111, 97, 100, 101, 100, 46, 95, 115, 116, 114, 117, 99, 116]⟩ 185 (.bool true)), (er P ⟨#[99, 108, 97, 115, 115, 46, 95, 102, 114, 111, 122, 101, 110, 95, 105, 109, 112, 111, 114, 116, 108, 105, 98, 95, 101, 120, 116, 101, 114, 110, 97, 108, 46, 95, 76, 111, 97, 100, 101, 114, 66, 97, 115, 105, 99, 115]⟩ 190 (r 16)), (er P ⟨#[119, 97, 116, 99, 104, 101, 100, 46, 105, 109, 112, 111, 114, 116]⟩ 206 (r 20)), (er P ⟨#[99, 108, 97, 115, 115, 46, 95, 102, 114, 111, 122, 101, 110, 95, 105, 109, 112, 111, 114, 116, 108, 105, 98, 95, 101, 120, 116, 101, 114, 110, 97, 108, 46, 70, 105, 108, 101, 76, 111, 97, 100, 101, 114]⟩ 207 (r 22)), (er P ⟨#[99, 108, 97, 115, 115, 46, 95, 102, 114, 111, 122, 101, 110, 95, 105, 109, 112, 111, 114, 116, 108, 105, 98, 95, 101, 120, 116, 101, 114, 110, 97, 108, 46, 69, 120, 116, 101, 110, 115, 105, 111, 110, 70, 105, 108, 101, 76, 111, 97, 100, 101, 114]⟩ 228 (r 27))] 5)),
  (o (t "dict") (.dict #[(er P ⟨#[95, 95, 110, 97, 109, 101, 95, 95]⟩ 165 (.str ⟨#[95, 95, 109, 97, 105, 110, 95, 95]⟩ 164)), (er P ⟨#[95, 95, 100, 111, 99, 95, 95]⟩ 166 .none), (er P ⟨#[95, 95, 112, 97, 99, 107, 97, 103, 101, 95, 95]⟩ 167 .none), (er P ⟨#[95, 95, 108, 111, 97, 100, 101, 114, 95, 95]⟩ 168 (b "__main__.__loader__#opaque")), (er P ⟨#[95, 95, 115, 112, 101, 99, 95, 95]⟩ 169 .none), (er P ⟨#[95, 95, 97, 110, 110, 111, 116, 97, 116, 105, 111, 110, 115, 95, 95]⟩ 170 (r 6)), (er P ⟨#[95, 95, 98, 117, 105, 108, 116, 105, 110, 115, 95, 95]⟩ 171 (r 4)), (er P ⟨#[95, 95, 102, 105, 108, 101, 95, 95]⟩ 173 (.str ⟨#[47, 99, 108, 97, 105, 109, 47, 99, 117, 116, 46, 112, 121]⟩ 172)), (er P ⟨#[95, 95, 99, 97, 99, 104, 101, 100, 95, 95]⟩ 174 .none)] 9)),
  (oo (t "module") (some 0) .plain #[]),
  (oo (t "module") (some 3) .plain #[]),
  (o (t "dict") (.dict #[] 0)),
  (o (t "tuple") (.seq #[] 0)),
  (o .none (.fields #[])),
  (o (t "code") (.fields #[(.str ⟨#[60, 109, 111, 100, 117, 108, 101, 62]⟩ 176), (.str ⟨#[60, 109, 111, 100, 117, 108, 101, 62]⟩ 177), (.str ⟨#[47, 99, 108, 97, 105, 109, 47, 99, 117, 116, 46, 112, 121]⟩ 178), (i 1 0), (i 0 0), (i 0 0), (i 0 0), (i 0 0), (r 7), (.bool false), (i 175 0), (r 8), .none, .none, .none, .none, (i 179 0), (i 1 0), (.str ⟨#[47, 99, 108, 97, 105, 109, 47, 99, 117, 116, 46, 112, 121]⟩ 180)])),
  (oo (t "frame") none .plain #[(some (r 9)), (some (r 3)), (some (r 3)), none, (some (.str ⟨#[95, 95, 109, 97, 105, 110, 95, 95]⟩ 164)), none, (some (r 0))]),
  (o (t "tuple") (.seq #[(.str ⟨#[112, 97, 99, 107]⟩ 182)] 0)),
  (o (t "dict") (.dict #[] 0)),
  (oo (t "module") (some 12) .plain #[]),
  (o (t "dict") (.dict #[(er P ⟨#[110, 97, 109, 101]⟩ 188 (.str ⟨#[95, 115, 116, 114, 117, 99, 116]⟩ 187)), (er P ⟨#[112, 97, 116, 104]⟩ 189 (.str ⟨#[47, 110, 105, 120, 47, 115, 116, 111, 114, 101, 47, 119, 106, 49, 102, 53, 54, 113, 107, 121, 52, 112, 109, 106, 99, 55, 108, 48, 114, 54, 98, 54, 108, 55, 119, 104, 110, 110, 119, 55, 104, 112, 54, 45, 112, 121, 116, 104, 111, 110, 51, 45, 51, 46, 49, 51, 46, 49, 53, 47, 108, 105, 98, 47, 112, 121, 116, 104, 111, 110, 51, 46, 49, 51, 47, 108, 105, 98, 45, 100, 121, 110, 108, 111, 97, 100, 47, 95, 115, 116, 114, 117, 99, 116, 46, 99, 112, 121, 116, 104, 111, 110, 45, 51, 49, 51, 45, 120, 56, 54, 95, 54, 52, 45, 108, 105, 110, 117, 120, 45, 103, 110, 117, 46, 115, 111]⟩ 186))] 2)),
  (o (t "dict") (.dict #[(er P ⟨#[95, 95, 109, 111, 100, 117, 108, 101, 95, 95]⟩ 193 (.str ⟨#[95, 102, 114, 111, 122, 101, 110, 95, 105, 109, 112, 111, 114, 116, 108, 105, 98, 95, 101, 120, 116, 101, 114, 110, 97, 108]⟩ 191)), (er P ⟨#[95, 95, 102, 105, 114, 115, 116, 108, 105, 110, 101, 110, 111, 95, 95]⟩ 194 (i 1001 192)), (er P ⟨#[95, 95, 100, 111, 99, 95, 95]⟩ 195 (b "_frozen_importlib_external._LoaderBasics.__doc__:str#opaque")), (er P ⟨#[105, 115, 95, 112, 97, 99, 107, 97, 103, 101]⟩ 196 (b "_frozen_importlib_external._LoaderBasics.is_package#opaque")), (er P ⟨#[99, 114, 101, 97, 116, 101, 95, 109, 111, 100, 117, 108, 101]⟩ 197 (b "_frozen_importlib_external._LoaderBasics.create_module#opaque")), (er P ⟨#[101, 120, 101, 99, 95, 109, 111, 100, 117, 108, 101]⟩ 198 (b "_frozen_importlib_external._LoaderBasics.exec_module#opaque")), (er P ⟨#[108, 111, 97, 100, 95, 109, 111, 100, 117, 108, 101]⟩ 199 (b "_frozen_importlib_external._LoaderBasics.load_module#opaque")), (er P ⟨#[95, 95, 115, 116, 97, 116, 105, 99, 95, 97, 116, 116, 114, 105, 98, 117, 116, 101, 115, 95, 95]⟩ 200 (r 17)), (er P ⟨#[95, 95, 100, 105, 99, 116, 95, 95]⟩ 202 (r 18)), (er P ⟨#[95, 95, 119, 101, 97, 107, 114, 101, 102, 95, 95]⟩ 204 (r 19))] 10)),
  (o (t "type") (.cls ⟨⟨#[95, 76, 111, 97, 100, 101, 114, 66, 97, 115, 105, 99, 115]⟩, [(t "object")], [(r 16), (t "object")], 15, ⟨#[95, 76, 111, 97, 100, 101, 114, 66, 97, 115, 105, 99, 115]⟩, true, [], [(r 27)], false, none, false⟩)),
  (o (t "tuple") (.seq #[] 0)),
  (o (t "getset_descriptor") (.fields #[(.str ⟨#[95, 95, 100, 105, 99, 116, 95, 95]⟩ 201), (r 16), (b "function.__dict__"), (b "function.__dict__#set")])),
  (o (t "getset_descriptor") (.fields #[(.str ⟨#[95, 95, 119, 101, 97, 107, 114, 101, 102, 95, 95]⟩ 203), (r 16), (b "ExceptionGroup.__weakref__"), .none])),
  (o .none (.seq #[(i 15 0), (.str ⟨#[6, 193, 10, 95, 95, 109, 111, 100, 117, 108, 101, 95, 95, 6, 191, 26, 95, 102, 114, 111, 122, 101, 110, 95, 105, 109, 112, 111, 114, 116, 108, 105, 98, 95, 101, 120, 116, 101, 114, 110, 97, 108, 6, 194, 15, 95, 95, 102, 105, 114, 115, 116, 108, 105, 110, 101, 110, 111, 95, 95, 4, 192, 0, 1001, 6, 195, 7, 95, 95, 100, 111, 99, 95, 95, 9, 59, 95, 102, 114, 111, 122, 101, 110, 95, 105, 109, 112, 111, 114, 116, 108, 105, 98, 95, 101, 120, 116, 101, 114, 110, 97, 108, 46, 95, 76, 111, 97, 100, 101, 114, 66, 97, 115, 105, 99, 115, 46, 95, 95, 100, 111, 99, 95, 95, 58, 115, 116, 114, 35, 111, 112, 97, 113, 117, 101, 6, 196, 10, 105, 115, 95, 112, 97, 99, 107, 97, 103, 101, 9, 58, 95, 102, 114, 111, 122, 101, 110, 95, 105, 109, 112, 111, 114, 116, 108, 105, 98, 95, 101, 120, 116, 101, 114, 110, 97, 108, 46, 95, 76, 111, 97, 100, 101, 114, 66, 97, 115, 105, 99, 115, 46, 105, 115, 95, 112, 97, 99, 107, 97, 103, 101, 35, 111, 112, 97, 113, 117, 101, 6, 197, 13, 99, 114, 101, 97, 116, 101, 95, 109, 111, 100, 117, 108, 101, 9, 61, 95, 102, 114, 111, 122, 101, 110, 95, 105, 109, 112, 111, 114, 116, 108, 105, 98, 95, 101, 120, 116, 101, 114, 110, 97, 108, 46, 95, 76, 111, 97, 100, 101, 114, 66, 97, 115, 105, 99, 115, 46, 99, 114, 101, 97, 116, 101, 95, 109, 111, 100, 117, 108, 101, 35, 111, 112, 97, 113, 117, 101, 6, 198, 11, 101, 120, 101, 99, 95, 109, 111, 100, 117, 108, 101, 9, 59, 95, 102, 114, 111, 122, 101, 110, 95, 105, 109, 112, 111, 114, 116, 108, 105, 98, 95, 101, 120, 116, 101, 114, 110, 97, 108, 46, 95, 76, 111, 97, 100, 101, 114, 66, 97, 115, 105, 99, 115, 46, 101, 120, 101, 99, 95, 109, 111, 100, 117, 108, 101, 35, 111, 112, 97, 113, 117, 101, 6, 199, 11, 108, 111, 97, 100, 95, 109, 111, 100, 117, 108, 101, 9, 59, 95, 102, 114, 111, 122, 101, 110, 95, 105, 109, 112, 111, 114, 116, 108, 105, 98, 95, 101, 120, 116, 101, 114, 110, 97, 108, 46, 95, 76, 111, 97, 100, 101, 114, 66, 97, 115, 105, 99, 115, 46, 108, 111, 97, 100, 95, 109, 111, 100, 117, 108, 101, 35, 111, 112, 97, 113, 117, 101, 6, 200, 21, 95, 95, 115, 116, 97, 116, 105, 99, 95, 97, 116, 116, 114, 105, 98, 117, 116, 101, 115, 95, 95, 4, 0, 0, 17, 6, 202, 8, 95, 95, 100, 105, 99, 116, 95, 95, 4, 0, 0, 18, 6, 204, 11, 95, 95, 119, 101, 97, 107, 114, 101, 102, 95, 95, 4, 0, 0, 19]⟩ 0), (.bool true), (.bool true), (.str ⟨#[]⟩ 205), (i 21 0), (.str ⟨#[6, 212, 10, 95, 95, 109, 111, 100, 117, 108, 101, 95, 95, 6, 208, 26, 95, 102, 114, 111, 122, 101, 110, 95, 105, 109, 112, 111, 114, 116, 108, 105, 98, 95, 101, 120, 116, 101, 114, 110, 97, 108, 6, 213, 15, 95, 95, 102, 105, 114, 115, 116, 108, 105, 110, 101, 110, 111, 95, 95, 4, 209, 0, 1176, 6, 214, 7, 95, 95, 100, 111, 99, 95, 95, 9, 56, 95, 102, 114, 111, 122, 101, 110, 95, 105, 109, 112, 111, 114, 116, 108, 105, 98, 95, 101, 120, 116, 101, 114, 110, 97, 108, 46, 70, 105, 108, 101, 76, 111, 97, 100, 101, 114, 46, 95, 95, 100, 111, 99, 95, 95, 58, 115, 116, 114, 35, 111, 112, 97, 113, 117, 101, 6, 215, 8, 95, 95, 105, 110, 105, 116, 95, 95, 9, 53, 95, 102, 114, 111, 122, 101, 110, 95, 105, 109, 112, 111, 114, 116, 108, 105, 98, 95, 101, 120, 116, 101, 114, 110, 97, 108, 46, 70, 105, 108, 101, 76, 111, 97, 100, 101, 114, 46, 95, 95, 105, 110, 105, 116, 95, 95, 35, 111, 112, 97, 113, 117, 101, 6, 216, 6, 95, 95, 101, 113, 95, 95, 9, 51, 95, 102, 114, 111, 122, 101, 110, 95, 105, 109, 112, 111, 114, 116, 108, 105, 98, 95, 101, 120, 116, 101, 114, 110, 97, 108, 46, 70, 105, 108, 101, 76, 111, 97, 100, 101, 114, 46, 95, 95, 101, 113, 95, 95, 35, 111, 112, 97, 113, 117, 101, 6, 217, 8, 95, 95, 104, 97, 115, 104, 95, 95, 9, 53, 95, 102, 114, 111, 122, 101, 110, 95, 105, 109, 112, 111, 114, 116, 108, 105, 98, 95, 101, 120, 116, 101, 114, 110, 97, 108, 46, 70, 105, 108, 101, 76, 111, 97, 100, 101, 114, 46, 95, 95, 104, 97, 115, 104, 95, 95, 35, 111, 112, 97, 113, 117, 101, 6, 218, 11, 108, 111, 97, 100, 95, 109, 111, 100, 117, 108, 101, 9, 56, 95, 102, 114, 111, 122, 101, 110, 95, 105, 109, 112, 111, 114, 116, 108, 105, 98, 95, 101, 120, 116, 101, 114, 110, 97, 108, 46, 70, 105, 108, 101, 76, 111, 97, 100, 101, 114, 46, 108, 111, 97, 100, 95, 109, 111, 100, 117, 108, 101, 35, 111, 112, 97, 113, 117, 101, 6, 219, 12, 103, 101, 116, 95, 102, 105, 108, 101, 110, 97, 109, 101, 9, 57, 95, 102, 114, 111, 122, 101, 110, 95, 105, 109, 112, 111, 114, 116, 108, 105, 98, 95, 101, 120, 116, 101, 114, 110, 97, 108, 46, 70, 105, 108, 101, 76, 111, 97, 100, 101, 114, 46, 103, 101, 116, 95, 102, 105, 108, 101, 110, 97, 109, 101, 35, 111, 112, 97, 113, 117, 101, 6, 220, 8, 103, 101, 116, 95, 100, 97, 116, 97, 9, 53, 95, 102, 114, 111, 122, 101, 110, 95, 105, 109, 112, 111, 114, 116, 108, 105, 98, 95, 101, 120, 116, 101, 114, 110, 97, 108, 46, 70, 105, 108, 101, 76, 111, 97, 100, 101, 114, 46, 103, 101, 116, 95, 100, 97, 116, 97, 35, 111, 112, 97, 113, 117, 101, 6, 221, 19, 103, 101, 116, 95, 114, 101, 115, 111, 117, 114, 99, 101, 95, 114, 101, 97, 100, 101, 114, 9, 64, 95, 102, 114, 111, 122, 101, 110, 95, 105, 109, 112, 111, 114, 116, 108, 105, 98, 95, 101, 120, 116, 101, 114, 110, 97, 108, 46, 70, 105, 108, 101, 76, 111, 97, 100, 101, 114, 46, 103, 101, 116, 95, 114, 101, 115, 111, 117, 114, 99, 101, 95, 114, 101, 97, 100, 101, 114, 35, 111, 112, 97, 113, 117, 101, 6, 222, 21, 95, 95, 115, 116, 97, 116, 105, 99, 95, 97, 116, 116, 114, 105, 98, 117, 116, 101, 115, 95, 95, 4, 0, 0, 23, 6, 224, 8, 95, 95, 100, 105, 99, 116, 95, 95, 4, 0, 0, 24, 6, 226, 11, 95, 95, 119, 101, 97, 107, 114, 101, 102, 95, 95, 4, 0, 0, 25]⟩ 0), (.bool true), (.bool true), (.str ⟨#[]⟩ 227), (i 26 0), (.str ⟨#[6, 233, 10, 95, 95, 109, 111, 100, 117, 108, 101, 95, 95, 6, 229, 26, 95, 102, 114, 111, 122, 101, 110, 95, 105, 109, 112, 111, 114, 116, 108, 105, 98, 95, 101, 120, 116, 101, 114, 110, 97, 108, 6, 234, 15, 95, 95, 102, 105, 114, 115, 116, 108, 105, 110, 101, 110, 111, 95, 95, 4, 230, 0, 1296, 6, 235, 7, 95, 95, 100, 111, 99, 95, 95, 9, 65, 95, 102, 114, 111, 122, 101, 110, 95, 105, 109, 112, 111, 114, 116, 108, 105, 98, 95, 101, 120, 116, 101, 114, 110, 97, 108, 46, 69, 120, 116, 101, 110, 115, 105, 111, 110, 70, 105, 108, 101, 76, 111, 97, 100, 101, 114, 46, 95, 95, 100, 111, 99, 95, 95, 58, 115, 116, 114, 35, 111, 112, 97, 113, 117, 101, 6, 236, 8, 95, 95, 105, 110, 105, 116, 95, 95, 9, 62, 95, 102, 114, 111, 122, 101, 110, 95, 105, 109, 112, 111, 114, 116, 108, 105, 98, 95, 101, 120, 116, 101, 114, 110, 97, 108, 46, 69, 120, 116, 101, 110, 115, 105, 111, 110, 70, 105, 108, 101, 76, 111, 97, 100, 101, 114, 46, 95, 95, 105, 110, 105, 116, 95, 95, 35, 111, 112, 97, 113, 117, 101, 6, 237, 6, 95, 95, 101, 113, 95, 95, 9, 60, 95, 102, 114, 111, 122, 101, 110, 95, 105, 109, 112, 111, 114, 116, 108, 105, 98, 95, 101, 120, 116, 101, 114, 110, 97, 108, 46, 69, 120, 116, 101, 110, 115, 105, 111, 110, 70, 105, 108, 101, 76, 111, 97, 100, 101, 114, 46, 95, 95, 101, 113, 95, 95, 35, 111, 112, 97, 113, 117, 101, 6, 238, 8, 95, 95, 104, 97, 115, 104, 95, 95, 9, 62, 95, 102, 114, 111, 122, 101, 110, 95, 105, 109, 112, 111, 114, 116, 108, 105, 98, 95, 101, 120, 116, 101, 114, 110, 97, 108, 46, 69, 120, 116, 101, 110, 115, 105, 111, 110, 70, 105, 108, 101, 76, 111, 97, 100, 101, 114, 46, 95, 95, 104, 97, 115, 104, 95, 95, 35, 111, 112, 97, 113, 117, 101, 6, 239, 13, 99, 114, 101, 97, 116, 101, 95, 109, 111, 100, 117, 108, 101, 9, 67, 95, 102, 114, 111, 122, 101, 110, 95, 105, 109, 112, 111, 114, 116, 108, 105, 98, 95, 101, 120, 116, 101, 114, 110, 97, 108, 46, 69, 120, 116, 101, 110, 115, 105, 111, 110, 70, 105, 108, 101, 76, 111, 97, 100, 101, 114, 46, 99, 114, 101, 97, 116, 101, 95, 109, 111, 100, 117, 108, 101, 35, 111, 112, 97, 113, 117, 101, 6, 240, 11, 101, 120, 101, 99, 95, 109, 111, 100, 117, 108, 101, 9, 65, 95, 102, 114, 111, 122, 101, 110, 95, 105, 109, 112, 111, 114, 116, 108, 105, 98, 95, 101, 120, 116, 101, 114, 110, 97, 108, 46, 69, 120, 116, 101, 110, 115, 105, 111, 110, 70, 105, 108, 101, 76, 111, 97, 100, 101, 114, 46, 101, 120, 101, 99, 95, 109, 111, 100, 117, 108, 101, 35, 111, 112, 97, 113, 117, 101, 6, 241, 10, 105, 115, 95, 112, 97, 99, 107, 97, 103, 101, 9, 64, 95, 102, 114, 111, 122, 101, 110, 95, 105, 109, 112, 111, 114, 116, 108, 105, 98, 95, 101, 120, 116, 101, 114, 110, 97, 108, 46, 69, 120, 116, 101, 110, 115, 105, 111, 110, 70, 105, 108, 101, 76, 111, 97, 100, 101, 114, 46, 105, 115, 95, 112, 97, 99, 107, 97, 103, 101, 35, 111, 112, 97, 113, 117, 101, 6, 242, 8, 103, 101, 116, 95, 99, 111, 100, 101, 9, 62, 95, 102, 114, 111, 122, 101, 110, 95, 105, 109, 112, 111, 114, 116, 108, 105, 98, 95, 101, 120, 116, 101, 114, 110, 97, 108, 46, 69, 120, 116, 101, 110, 115, 105, 111, 110, 70, 105, 108, 101, 76, 111, 97, 100, 101, 114, 46, 103, 101, 116, 95, 99, 111, 100, 101, 35, 111, 112, 97, 113, 117, 101, 6, 243, 10, 103, 101, 116, 95, 115, 111, 117, 114, 99, 101, 9, 64, 95, 102, 114, 111, 122, 101, 110, 95, 105, 109, 112, 111, 114, 116, 108, 105, 98, 95, 101, 120, 116, 101, 114, 110, 97, 108, 46, 69, 120, 116, 101, 110, 115, 105, 111, 110, 70, 105, 108, 101, 76, 111, 97, 100, 101, 114, 46, 103, 101, 116, 95, 115, 111, 117, 114, 99, 101, 35, 111, 112, 97, 113, 117, 101, 6, 244, 12, 103, 101, 116, 95, 102, 105, 108, 101, 110, 97, 109, 101, 9, 66, 95, 102, 114, 111, 122, 101, 110, 95, 105, 109, 112, 111, 114, 116, 108, 105, 98, 95, 101, 120, 116, 101, 114, 110, 97, 108, 46, 69, 120, 116, 101, 110, 115, 105, 111, 110, 70, 105, 108, 101, 76, 111, 97, 100, 101, 114, 46, 103, 101, 116, 95, 102, 105, 108, 101, 110, 97, 109, 101, 35, 111, 112, 97, 113, 117, 101, 6, 245, 21, 95, 95, 115, 116, 97, 116, 105, 99, 95, 97, 116, 116, 114, 105, 98, 117, 116, 101, 115, 95, 95, 4, 0, 0, 28]⟩ 0), (.bool true), (.bool true), (.str ⟨#[]⟩ 246)] 2)),
  (o (t "dict") (.dict #[(er P ⟨#[95, 95, 109, 111, 100, 117, 108, 101, 95, 95]⟩ 212 (.str ⟨#[95, 102, 114, 111, 122, 101, 110, 95, 105, 109, 112, 111, 114, 116, 108, 105, 98, 95, 101, 120, 116, 101, 114, 110, 97, 108]⟩ 208)), (er P ⟨#[95, 95, 102, 105, 114, 115, 116, 108, 105, 110, 101, 110, 111, 95, 95]⟩ 213 (i 1176 209)), (er P ⟨#[95, 95, 100, 111, 99, 95, 95]⟩ 214 (b "_frozen_importlib_external.FileLoader.__doc__:str#opaque")), (er P ⟨#[95, 95, 105, 110, 105, 116, 95, 95]⟩ 215 (b "_frozen_importlib_external.FileLoader.__init__#opaque")), (er P ⟨#[95, 95, 101, 113, 95, 95]⟩ 216 (b "_frozen_importlib_external.FileLoader.__eq__#opaque")), (er P ⟨#[95, 95, 104, 97, 115, 104, 95, 95]⟩ 217 (b "_frozen_importlib_external.FileLoader.__hash__#opaque")), (er P ⟨#[108, 111, 97, 100, 95, 109, 111, 100, 117, 108, 101]⟩ 218 (b "_frozen_importlib_external.FileLoader.load_module#opaque")), (er P ⟨#[103, 101, 116, 95, 102, 105, 108, 101, 110, 97, 109, 101]⟩ 219 (b "_frozen_importlib_external.FileLoader.get_filename#opaque")), (er P ⟨#[103, 101, 116, 95, 100, 97, 116, 97]⟩ 220 (b "_frozen_importlib_external.FileLoader.get_data#opaque")), (er P ⟨#[103, 101, 116, 95, 114, 101, 115, 111, 117, 114, 99, 101, 95, 114, 101, 97, 100, 101, 114]⟩ 221 (b "_frozen_importlib_external.FileLoader.get_resource_reader#opaque")), (er P ⟨#[95, 95, 115, 116, 97, 116, 105, 99, 95, 97, 116, 116, 114, 105, 98, 117, 116, 101, 115, 95, 95]⟩ 222 (r 23)), (er P ⟨#[95, 95, 100, 105, 99, 116, 95, 95]⟩ 224 (r 24)), (er P ⟨#[95, 95, 119, 101, 97, 107, 114, 101, 102, 95, 95]⟩ 226 (r 25))] 13)),
  (o (t "type") (.cls ⟨⟨#[70, 105, 108, 101, 76, 111, 97, 100, 101, 114]⟩, [(t "object")], [(r 22), (t "object")], 21, ⟨#[70, 105, 108, 101, 76, 111, 97, 100, 101, 114]⟩, true, [], [(r 27)], false, none, false⟩)),
  (o (t "tuple") (.seq #[(.str ⟨#[110, 97, 109, 101]⟩ 210), (.str ⟨#[112, 97, 116, 104]⟩ 211)] 0)),
  (o (t "getset_descriptor") (.fields #[(.str ⟨#[95, 95, 100, 105, 99, 116, 95, 95]⟩ 223), (r 22), (b "function.__dict__"), (b "function.__dict__#set")])),
  (o (t "getset_descriptor") (.fields #[(.str ⟨#[95, 95, 119, 101, 97, 107, 114, 101, 102, 95, 95]⟩ 225), (r 22), (b "ExceptionGroup.__weakref__"), .none])),
  (o (t "dict") (.dict #[(er P ⟨#[95, 95, 109, 111, 100, 117, 108, 101, 95, 95]⟩ 233 (.str ⟨#[95, 102, 114, 111, 122, 101, 110, 95, 105, 109, 112, 111, 114, 116, 108, 105, 98, 95, 101, 120, 116, 101, 114, 110, 97, 108]⟩ 229)), (er P ⟨#[95, 95, 102, 105, 114, 115, 116, 108, 105, 110, 101, 110, 111, 95, 95]⟩ 234 (i 1296 230)), (er P ⟨#[95, 95, 100, 111, 99, 95, 95]⟩ 235 (b "_frozen_importlib_external.ExtensionFileLoader.__doc__:str#opaque")), (er P ⟨#[95, 95, 105, 110, 105, 116, 95, 95]⟩ 236 (b "_frozen_importlib_external.ExtensionFileLoader.__init__#opaque")), (er P ⟨#[95, 95, 101, 113, 95, 95]⟩ 237 (b "_frozen_importlib_external.ExtensionFileLoader.__eq__#opaque")), (er P ⟨#[95, 95, 104, 97, 115, 104, 95, 95]⟩ 238 (b "_frozen_importlib_external.ExtensionFileLoader.__hash__#opaque")), (er P ⟨#[99, 114, 101, 97, 116, 101, 95, 109, 111, 100, 117, 108, 101]⟩ 239 (b "_frozen_importlib_external.ExtensionFileLoader.create_module#opaque")), (er P ⟨#[101, 120, 101, 99, 95, 109, 111, 100, 117, 108, 101]⟩ 240 (b "_frozen_importlib_external.ExtensionFileLoader.exec_module#opaque")), (er P ⟨#[105, 115, 95, 112, 97, 99, 107, 97, 103, 101]⟩ 241 (b "_frozen_importlib_external.ExtensionFileLoader.is_package#opaque")), (er P ⟨#[103, 101, 116, 95, 99, 111, 100, 101]⟩ 242 (b "_frozen_importlib_external.ExtensionFileLoader.get_code#opaque")), (er P ⟨#[103, 101, 116, 95, 115, 111, 117, 114, 99, 101]⟩ 243 (b "_frozen_importlib_external.ExtensionFileLoader.get_source#opaque")), (er P ⟨#[103, 101, 116, 95, 102, 105, 108, 101, 110, 97, 109, 101]⟩ 244 (b "_frozen_importlib_external.ExtensionFileLoader.get_filename#opaque")), (er P ⟨#[95, 95, 115, 116, 97, 116, 105, 99, 95, 97, 116, 116, 114, 105, 98, 117, 116, 101, 115, 95, 95]⟩ 245 (r 28))] 13)),
  (o (t "type") (.cls ⟨⟨#[69, 120, 116, 101, 110, 115, 105, 111, 110, 70, 105, 108, 101, 76, 111, 97, 100, 101, 114]⟩, [(r 22), (r 16)], [(r 27), (r 22), (r 16), (t "object")], 26, ⟨#[69, 120, 116, 101, 110, 115, 105, 111, 110, 70, 105, 108, 101, 76, 111, 97, 100, 101, 114]⟩, true, [], [], false, none, false⟩)),
  (o (t "tuple") (.seq #[(.str ⟨#[110, 97, 109, 101]⟩ 231), (.str ⟨#[112, 97, 116, 104]⟩ 232)] 0))]
def I680 (w : World) : SharedT := ⟨bt 12 (HM680 w.params), 29, {}, #[], {}, 247, st0.1.os⟩
def thI680 (w : World) : Thread := match IG (opening prg) w 320 (I360 w) (thI360 w) with
  | some (_, th) => th
  | none => st0.2
theorem i680 (w : World) : IG (opening prg) w 320 (I360 w) (thI360 w) = some (I680 w, thI680 w) := by kernel_rfl
def I988 (w : World) : SharedT := ⟨bt 12 (HE w.params).objs.toList, 39, {}, #[], {}, 313, st0.1.os⟩
def thI988 (w : World) : Thread := match IG (opening prg) w 308 (I680 w) (thI680 w) with
  | some (_, th) => th
  | none => st0.2
theorem i988 (w : World) : IG (opening prg) w 308 (I680 w) (thI680 w) = some (I988 w, thI988 w) := by kernel_rfl
theorem iE (w : World) : PySem.W.Fast.tw10274390034422433532 PySem.W.Fast.tw14364793385576792824 (opening prg) w 1 (I988 w).abs (thI988 w) = some ⟨HE w.params, #[], {}, 313, st0.1.os⟩ := by kernel_rfl
theorem IG_eq : impGoT treeTable = IG := by
  unfold IG
  rw [← PySem.W.Fast.te14789777615569096658, ← PySem.W.Fast.te14364793385576792824]
theorem impE {w : World} {n N M : Nat} {S S' : SharedT} {t t' : Thread} {r : Shared} (h : IG (opening prg) w n S t = some (S', t')) (k : importEnds treeTable (opening prg) w N S'.abs t' = some r) (e : n + N = M) :
    importEnds treeTable (opening prg) w M S.abs t = some r := by
  subst e
  exact imp_go (impGo_of (by rw [IG_eq]; exact h)) k
theorem j988 (w : World) : importEnds treeTable (opening prg) w 1 (I988 w).abs (thI988 w) = some ⟨HE w.params, #[], {}, 313, st0.1.os⟩ := by
  rw [PySem.W.Fast.te10274390034422433532, PySem.W.Fast.te14364793385576792824]
  exact iE w
theorem j680 (w : World) : importEnds treeTable (opening prg) w 309 (I680 w).abs (thI680 w) = some ⟨HE w.params, #[], {}, 313, st0.1.os⟩ := impE (i988 w) (j988 w) rfl
theorem j360 (w : World) : importEnds treeTable (opening prg) w 629 (I360 w).abs (thI360 w) = some ⟨HE w.params, #[], {}, 313, st0.1.os⟩ := impE (i680 w) (j680 w) rfl
theorem j0 (w : World) : importEnds treeTable (opening prg) w 989 (I0 w).abs (thI0 w) = some ⟨HE w.params, #[], {}, 313, st0.1.os⟩ := impE (i360 w) (j360 w) rfl
theorem st0_eq : start (opening prg) = st0 := by
  unfold st0
  rw [← PySem.W.Fast.te1435165496053646825]
theorem impT (w : World) : importEnds treeTable (opening prg) w 989 (start (opening prg)).1 (start (opening prg)).2 = some ⟨HE w.params, #[], {}, 313, (start (opening prg)).1.os⟩ := by
  rw [st0_eq, ← iz w]
  exact j0 w
theorem fenceT (w : World) : (fun os => (fenceModules? prg ⟨HE w.params, #[], {}, 313, os⟩).map (fun s => (s.heap, s.gens, s.drawn, s.toks))) = fun _ => some (H0 w.params, #[], {}, 313) := by kernel_rfl
def H1 (P : Params) : Heap := ⟨(AllC P).toArray, {}⟩
theorem finT (w : World) (os : OsState) : topRun treeTable prg w 39 ann0 2 (S10 w os).abs (restOf (restJ 211) envT cT ⟨1339, 0, 1360, 15⟩ B0) = some ⟨H1 w.params, #[.finished], {}, 4034, os⟩ := by kernel_rfl
theorem preT (w : World) (os : OsState) : topGo treeTable prg w 39 ann0 12 ⟨H0 w.params, #[], {}, 313, os⟩ (topStub prg) = some ((S0 w os).abs, ⟨denote treeTable cT, cT, ⟨0, 0, 0, 0⟩, B0⟩) := by kernel_rfl
theorem blockT (w : World) (os : OsState) : segRun treeTable prg w 39 ann0 1 1 (S0 w os).abs (blockOf (behindTheImports prg) envT cT ⟨0, 0, 0, 0⟩ B0) = some (.next, (S0 w os).abs, cT, ⟨0, 0, 0, 0⟩) := by kernel_rfl
theorem r9 (w : World) (os : OsState) : topRun treeTable prg w 39 ann0 456 (S9 w os).abs (restOf (restJ 194) envT cT ⟨1216, 0, 1216, 9⟩ B0) = some ⟨H1 w.params, #[.finished], {}, 4034, os⟩ :=
  stepJ (q9 w os) (finT w os) rfl rfl
theorem r8 (w : World) (os : OsState) : topRun treeTable prg w 39 ann0 13456 (S8 w os).abs (restOf (restJ 193) envT cT ⟨1215, 0, 1215, 8⟩ B0) = some ⟨H1 w.params, #[.finished], {}, 4034, os⟩ :=
  stepJ (q8 w os) (r9 w os) rfl rfl
theorem r7 (w : World) (os : OsState) : topRun treeTable prg w 39 ann0 15393 (S7 w os).abs (restOf (restJ 150) envT cT ⟨944, 0, 944, 15⟩ B0) = some ⟨H1 w.params, #[.finished], {}, 4034, os⟩ :=
  stepJ (q7 w os) (r8 w os) rfl rfl
theorem r6 (w : World) (os : OsState) : topRun treeTable prg w 39 ann0 16064 (S6 w os).abs (restOf (restJ 149) envT cT ⟨941, 0, 943, 57⟩ B0) = some ⟨H1 w.params, #[.finished], {}, 4034, os⟩ :=
  stepJ (q6 w os) (r7 w os) rfl rfl
theorem r5 (w : World) (os : OsState) : topRun treeTable prg w 39 ann0 17776 (S5 w os).abs (restOf (restJ 100) envT cT ⟨729, 0, 729, 10⟩ B0) = some ⟨H1 w.params, #[.finished], {}, 4034, os⟩ :=
  stepJ (q5 w os) (r6 w os) rfl rfl
theorem r4 (w : World) (os : OsState) : topRun treeTable prg w 39 ann0 20468 (S4 w os).abs (restOf (restJ 77) envT cT ⟨537, 0, 545, 29⟩ B0) = some ⟨H1 w.params, #[.finished], {}, 4034, os⟩ :=
  stepJ (q4 w os) (r5 w os) rfl rfl
theorem r3 (w : World) (os : OsState) : topRun treeTable prg w 39 ann0 23334 (S3 w os).abs (restOf (restJ 50) envT cT ⟨381, 0, 381, 8⟩ B0) = some ⟨H1 w.params, #[.finished], {}, 4034, os⟩ :=
  stepJ (q3 w os) (r4 w os) rfl rfl
theorem r2 (w : World) (os : OsState) : topRun treeTable prg w 39 ann0 26107 (S2 w os).abs (restOf (restJ 40) envT cT ⟨205, 0, 205, 25⟩ B0) = some ⟨H1 w.params, #[.finished], {}, 4034, os⟩ :=
  stepJ (q2 w os) (r3 w os) rfl rfl
theorem r1 (w : World) (os : OsState) : topRun treeTable prg w 39 ann0 26307 (S1 w os).abs (restOf (restJ 39) envT cT ⟨204, 0, 204, 24⟩ B0) = some ⟨H1 w.params, #[.finished], {}, 4034, os⟩ :=
  stepJ (q1 w os) (r2 w os) rfl rfl
theorem r0 (w : World) (os : OsState) : topRun treeTable prg w 39 ann0 28193 (S0 w os).abs (restOf (restJ 0) envT cT ⟨0, 0, 0, 0⟩ B0) = some ⟨H1 w.params, #[.finished], {}, 4034, os⟩ :=
  stepJ (q0 w os) (r1 w os) rfl rfl
theorem runT (w : World) (os : OsState) : topRun treeTable prg w 39 ann0 28206 ⟨H0 w.params, #[], {}, 313, os⟩ (topStub prg) = some ⟨H1 w.params, #[.finished], {}, 4034, os⟩ :=
  runE (preT w os) (blockT w os) (r0 w os) rfl
def view : Program := { prg with main := { prg.main with body := prg.main.body.drop 210 } }
def looseV : List Str := [n "pack", n "_wall", n "Error", n "DecodeError", n "EncodeError", n "TAG_TYPE_BITS", n "_WIRETYPE_MAX", n "PackTag", n "_VarintDecoder", n "_DecodeVarint", n "ReadTag", n "byte_cls", n "chr_cls", n "type_name", n "int_to_bytes", n "int_from_bytes", n "_PY2", n "_INSUFFICIENT_DATA_MESSAGE", n "_MAX_DEPTH", n "emit", n "parse", n "peek", n "_parse", n "_dump_header", n "UUID", n "_turned", n "BINARY_SUBTYPE", n "OLD_UUID_SUBTYPE", n "UUID_SUBTYPE", n "UuidRepresentation", n "STANDARD", n "ALL_UUID_SUBTYPES", n "ALL_UUID_REPRESENTATIONS", n "UUID_REPRESENTATION_NAMES", n "Binary", n "Code", n "TypeRegistry", n "CodecOptions", n "DEFAULT_CODEC_OPTIONS", n "DatetimeMS", n "DBRef", n "Decimal", n "_PACK_64", n "_UNPACK_64", n "_EXPONENT_MASK", n "_EXPONENT_BIAS", n "_MAX_DIGITS", n "_INF", n "_NAN", n "_SNAN", n "_SIGN", n "_NINF", n "_PINF", n "_NNAN", n "_PNAN", n "_NSNAN", n "_PSNAN", n "_check_fits", n "_decimal_to_128", n "Decimal128", n "BSONError", n "InvalidBSON", n "InvalidStringData", n "InvalidDocument", n "InvalidId", n "Int64", n "MaxKey", n "MinKey", n "_HEX_DIGITS", n "_from_hex", n "_raise_invalid_id", n "ObjectId", n "_IGNORECASE", n "_LOCALE", n "_MULTILINE", n "_DOTALL", n "_UNICODE", n "_VERBOSE", n "str_flags_to_int", n "Regex", n "UPPERBOUND", n "Timestamp", n "BSONSTR", n "BSONOBJ", n "BSONARR", n "BSONBIN", n "BSONUND", n "BSONOID", n "BSONBOO", n "BSONDAT", n "BSONNUL", n "BSONRGX", n "BSONREF", n "BSONCOD", n "BSONSYM", n "BSONCWS", n "BSONINT", n "BSONTIM", n "BSONLON", n "BSONDEC", n "BSONMIN", n "BSONMAX", n "_unpack", n "_UNPACK_INT_FROM", n "_UNPACK_LENGTH_SUBTYPE_FROM", n "_UNPACK_LONG_FROM", n "_UNPACK_TIMESTAMP_FROM", n "_utf_8_decode", n "_utf_8_encode", n "_index_nul", n "get_data_and_view", n "_raise_unknown_type", n "_get_int", n "_get_c_string", n "_get_string", n "_get_object_size", n "_get_object", n "_get_array", n "_get_binary", n "_get_oid", n "_get_boolean", n "_get_date", n "_get_code", n "_get_code_w_scope", n "_get_regex", n "_get_ref", n "_get_timestamp", n "_get_int64", n "_get_decimal128", n "_ELEMENT_GETTER", n "_element_to_dict", n "_elements_to_dict", n "_bson_to_dict", n "_PACK_INT", n "_PACK_LENGTH_SUBTYPE", n "_PACK_LONG", n "_PACK_TIMESTAMP", n "_make_c_string_check", n "_make_c_string", n "_make_name", n "_encode_bytes", n "_encode_mapping", n "_encode_dbref", n "_encode_list", n "_encode_text", n "_encode_binary", n "_encode_uuid", n "_encode_objectid", n "_encode_bool", n "_encode_datetime_ms", n "_encode_none", n "_encode_regex", n "_encode_code", n "_encode_int", n "_encode_timestamp", n "_encode_long", n "_encode_decimal128", n "_encode_minkey", n "_encode_maxkey", n "_name_value_to_bson", n "_element_to_bson", n "_dict_to_bson", n "encode", n "decode", n "_EncodeVarint", n "_VarintBytes", n "TagBytes", n "RLPException", n "EncodingError", n "DecodingError", n "ALL_BYTES", n "Atomic", n "big_endian_to_int", n "int_to_big_endian", n "encode_raw", n "LONG_LENGTH", n "length_prefix", n "SHORT_STRING", n "consume_length_prefix", n "consume_payload", n "consume_item", n "_law_at", n "_law_piece", n "_law_ends", n "_law_inside"]
abbrev mods : List Str := importedModules prg.main.body
abbrev SH (w : World) (os : OsState) : Shared := ⟨H1 w.params, #[.finished], {}, 4034, os⟩
abbrev XtV : Shared → Bool := fun s => xlAt view [] s && recOk (RowW.records PySem.Challenge.rw_vn0017_01.row.toRowW) s
def asA : List Addr := [2, 3, 87, 89, 90, 92, 93, 94, 96, 97, 99, 100, 101, 103, 104, 106, 107, 108, 110, 111, 113, 114, 115, 117, 118, 120, 121, 137, 138, 140, 141, 143, 144, 145, 147, 148, 150, 151, 152, 153, 155, 156, 158, 159, 160, 162, 163, 165, 166, 167, 168, 170, 171, 173, 174, 175, 177, 178, 180, 181, 232, 368, 369, 371, 372, 374, 375, 376, 378, 379, 381, 382, 383, 384, 386, 387, 389, 390, 391, 392, 393, 394, 395, 396, 406, 407, 409, 410, 412, 413, 414, 415, 416, 417, 418, 421, 422, 424, 425, 428, 714, 721, 722, 723, 724, 727, 734, 735, 736, 1185, 1187, 1188, 1190, 1191, 1192, 1194, 1195, 1197, 1198, 1199, 1201, 1202, 1204, 1205, 1220, 1222, 1223, 1225, 1226, 1227, 1229, 1230, 1232, 1233, 1234, 1236, 1237, 1239, 1240, 1241, 1243, 1244, 1246, 1247, 1262, 1264, 1265, 1267, 1268, 1276, 1278, 1279, 1281, 1282, 1297, 1299, 1300, 1302, 1303, 1374, 1404, 1406, 1407, 1409, 1410, 1411, 1413, 1414, 1416, 1417, 1418, 1420, 1421, 1423, 1424, 1425, 1427, 1428, 1430, 1431, 1467, 1469, 1470, 1472, 1473, 1474, 1476, 1477, 1479, 1480, 1603, 1604, 1606, 1607, 1609, 1610, 1611, 1613, 1614, 1616, 1617, 1618, 1619, 1621, 1622, 1624, 1625, 1626, 1627, 1629, 1630, 1632, 1633, 1634, 1635, 1637, 1638, 1640, 1641, 1642, 1643, 1645, 1646, 1648, 1649, 1650, 1652, 1653, 1655, 1656, 1657, 1659, 1660, 1662, 1663, 1664, 1671, 1672, 1673, 1674, 1698, 1701, 1706, 1707, 1709, 1710, 1712, 1713, 1714, 1715, 1716, 1731, 1732, 1747, 1749, 1750, 1752, 1753, 1754, 1756, 1757, 1759, 1760, 1761, 1763, 1764, 1766, 1767, 1768, 1770, 1771, 1773, 1774, 1775, 1777, 1778, 1780, 1781, 1782, 1784, 1785, 1787, 1788, 1789, 1791, 1792, 1794, 1795, 1796, 1798, 1799, 1801, 1802, 1803, 1805, 1806, 1808, 1809, 1810, 1813, 1814]
theorem asE (P : Params) : asA = (KH P).map (·.1) := by kernel_rfl
def tsA : List Addr := [95, 1651]
/-- the objects at rising places, in one walk -/
def pick : Nat → List Addr → List Obj → List Obj
  | _, _, [] => []
  | _, [], _ => []
  | k, a :: as, x :: l => match Nat.beq a k with
    | true => x :: pick (k + 1) as l
    | false => pick (k + 1) (a :: as) l
theorem sub_one {a k : Nat} (h : k + 1 ≤ a) : a - k = (a - (k + 1)) + 1 := by omega
theorem pick_at : ∀ {l : List Obj} {k : Nat} {as : List Addr} {os : List Obj}, pick k as l = os → as.length = os.length → ∀ {j : Nat} {a : Addr} {x : Obj}, as[j]? = some a → os[j]? = some x → k ≤ a ∧ l[a - k]? = some x
  | [], _, _, os, h, hl, j, a, x, h1, h2 => by
    rw [← h] at h2
    unfold pick at h2
    cases h2
  | _ :: _, _, [], os, h, hl, j, a, x, h1, h2 => by cases h1
  | y :: l, k, b :: as, os, h, hl, j, a, x, h1, h2 => by
    unfold pick at h
    cases hb : Nat.beq b k with
    | true =>
      rw [hb] at h
      dsimp only at h
      have hbk : b = k := Nat.eq_of_beq_eq_true hb
      cases os with
      | nil => cases h
      | cons z os =>
        rw [List.cons.injEq] at h
        cases j with
        | zero =>
          simp only [List.getElem?_cons_zero, Option.some.injEq] at h1 h2
          subst h1 h2 hbk
          exact ⟨Nat.le_refl _, by rw [Nat.sub_self, List.getElem?_cons_zero, h.1]⟩
        | succ j =>
          simp only [List.getElem?_cons_succ] at h1 h2
          obtain ⟨r1, r2⟩ := pick_at h.2 (by simpa using hl) h1 h2
          have e : a - k = (a - (k + 1)) + 1 := sub_one r1
          exact ⟨Nat.le_of_succ_le r1, by rw [e, List.getElem?_cons_succ]; exact r2⟩
    | false =>
      rw [hb] at h
      dsimp only at h
      obtain ⟨r1, r2⟩ := pick_at h hl h1 h2
      have e : a - k = (a - (k + 1)) + 1 := sub_one r1
      exact ⟨Nat.le_of_succ_le r1, by rw [e, List.getElem?_cons_succ]; exact r2⟩
def alive (o : Obj) : Bool := match o.data with
  | .freed => false
  | _ => true
theorem get_of_pick {h : Heap} {as : List Addr} {os : List Obj} (e : pick 0 as h.objs.toList = os) (hl : as.length = os.length) {j : Nat} {a : Addr} {x : Obj} (h1 : as[j]? = some a) (h2 : os[j]? = some x) (ha : alive x = true) : h.get? a = some x := by
  have r := (pick_at e hl h1 h2).2
  rw [Nat.sub_zero, Array.getElem?_toList] at r
  unfold Heap.get?
  rw [r]
  unfold alive at ha
  obtain ⟨c, dd, dt, sl⟩ := x
  cases dt <;> first | rfl | cases ha
def allAlive (l : List Obj) : Bool := l.all alive
theorem in_of_pick {K : Frag} {h : Heap} {as : List Addr} (e1 : as = K.map (·.1)) (e : pick 0 as h.objs.toList = K.map (·.2)) (ha : allAlive (K.map (·.2)) = true) : K.In h := by
  have key : ∀ p ∈ K, h.get? p.1 = some p.2 := fun p hp => by
    obtain ⟨j, hj⟩ := List.getElem?_of_mem hp
    refine get_of_pick (j := j) e (by rw [e1, List.length_map, List.length_map]) (by rw [e1, List.getElem?_map, hj]; rfl) (by rw [List.getElem?_map, hj]; rfl) ?_
    exact List.all_eq_true.mp ha _ (List.mem_map.mpr ⟨p, hp, rfl⟩)
  intro a o he
  exact key (a, o) (mem_of_lookupK he)
theorem tabs_of_pick {h : Heap} {ts : List Addr} (e : pick 0 ts h.objs.toList = ts.map fun _ => tabObj #[]) : ∀ P ∈ ts, h.get? P = some (tabObj #[]) := fun P hP => by
  obtain ⟨j, hj⟩ := List.getElem?_of_mem hP
  exact get_of_pick (j := j) e (by rw [List.length_map]) hj (by rw [List.getElem?_map, hj]; rfl) rfl
theorem aliveT (P : Params) : allAlive ((KH P).map (·.2)) = true := by kernel_rfl
def hook : Hook where
  α := List Obj × List Obj
  obs := fun s => (pick 0 asA s.heap.objs.toList, pick 0 tsA s.heap.objs.toList)
  val := fun w => ((KH w.params).map (·.2), tsA.map fun _ => tabObj #[])
  says := fun w h => InK KH w h ∧ ∀ P ∈ tsA, h.get? P = some (tabObj #[])
  of := fun w s x => ⟨in_of_pick (asE w.params) (Prod.mk.inj x).1 (aliveT w.params), tabs_of_pick (Prod.mk.inj x).2⟩
  keeps := fun w h h' x k => ⟨InK.keeps w h h' x.1 k, fun P hP => k _ _ (x.2 P hP)⟩
theorem l1 (w : World) : staticsOk mods (H0 w.params) (H1 w.params) = true := by kernel_rfl
theorem l2 (w : World) : namesBound prg (H1 w.params) = true := by kernel_rfl
theorem l3 (w : World) (os : OsState) : gensDone (SH w os) = true := by kernel_rfl
theorem l4 (w : World) : laidKept (H0 w.params) (H1 w.params) = true := by kernel_rfl
theorem seenT (w : World) (os : OsState) : openSeen view looseV mods XtV false (SH w os) = openGood view looseV := by kernel_rfl
theorem hookT (w : World) (os : OsState) : hook.obs (SH w os) = hook.val w := by kernel_rfl
theorem looksT (w : World) : (fun os => ((staticsOk mods (H0 w.params) (H1 w.params) && namesBound prg (H1 w.params) && gensDone (SH w os) && laidKept (H0 w.params) (H1 w.params)),
    openSeen view looseV mods XtV false (SH w os), hook.obs (SH w os))) = fun _ => (true, openGood view looseV, hook.val w) := by
  funext os
  rw [l1, l2, l3, l4, seenT, hookT]
  rfl
theorem sizeT (w : World) : ((H0 w.params).isNs mainGlobals && (#[] : Array GenState).size == 0, (H0 w.params).objs.size, (H0 w.params).nsMap mainGlobals "__annotations__") = (true, 39, ann0) := by kernel_rfl
theorem openT : ∀ w : World, (fencedOpening treeTable prg w 60000).map (fun s => (s.heap, s.gens, s.drawn, s.toks)) = some (H0 w.params, #[], {}, 313) := open_cut impT (by decide) fenceT
theorem leftT : LeftO prg view looseV XtV hook.obs hook.val 60000 false := LeftO.of_pieces openT sizeT runT (by decide) looksT
end
end HD
end
section
open PySem PySem.W PySem.Calls PyProof.Rows
namespace Mine
theorem fillK (w : World) (h : Heap) : PySem.Challenge.rw_vn0017_01 = PySem.Challenge.rw_vn0017_01 → InK HD.KH w h → True := by
  k_fill; intros; trivial
local macro_rules | `(tactic| walk_at "call type:bytes") => `(tactic| (k_here; (with_reducible show wpAny _ _ (call (Value.type "bytes") [Value.ref _]) _ _ _); k_dflt (first
  | (refine' bytes_one (c := 4) ?kbaF ?kbaN ?kbam ?e1 ?e2 ?e3 ?e4 ?_; (case kbaF => k_asm); (case kbaN => k_asm); (case kbam => k_mem); (case e1 => rfl); (case e2 => decide); (case e3 => decide); (case e4 => decide); k_whole; intro b1 _ _ _ F' N' kb1)
  | (refine' bytes_one (c := 26) ?kbaF ?kbaN ?kbam ?e1 ?e2 ?e3 ?e4 ?_; (case kbaF => k_asm); (case kbaN => k_asm); (case kbam => k_mem); (case e1 => rfl); (case e2 => decide); (case e3 => decide); (case e4 => decide); k_whole; intro b1 _ _ _ F' N' kb1)
  | (refine' bytes_one ?kbaF ?kbaN ?kbam ?e1 ?e2 ?e3 ?e4 ?_; (case kbaF => k_asm); (case kbaN => k_asm); (case kbam => k_mem); (case e1 => rfl); (case e2 => exact band127 (by omega) (by omega)); (case e3 => omega); (case e4 => omega); k_whole; intro b1 _ _ _ F' N' kb1)
  | (refine' bytes_one ?kbaF ?kbaN ?kbam ?e1 ?e2 ?e3 ?e4 ?_; (case kbaF => k_asm); (case kbaN => k_asm); (case kbam => k_mem); (case e1 => rfl); (case e2 => rfl); (case e3 => omega); (case e4 => omega); k_whole; intro b1 _ _ _ F' N' kb1))))
local macro_rules | `(tactic| walk_at "call type:bytes") => `(tactic| (k_here; (with_reducible show wpAny _ _ (call (Value.type "bytes") [Value.bytes _ _]) _ _ _); k_dflt (refine bytes_of_bytes ?_)))
local macro_rules | `(tactic| walk_at "inplaceOp Add") => `(tactic| (k_here; (with_reducible show wpAny _ _ (inplaceOp Operator.Add (Value.bytes _ _) (Value.bytes _ _)) _ _ _); (refine iadd_K (by first | exact bInts_nil | kba_ints) (by kba_ints2) (by kba_size) ?_); intro _ _ kbaApp; (try simp only [List.nil_append] at kbaApp)))
local macro_rules | `(tactic| walk_at "subscriptTail") => `(tactic| (k_here; (with_reducible show wpAny _ _ (subscriptTail _ _ (Value.ref 1731) (Value.int _ _)) _ _ _); k_dflt (refine' allBytes ?k1 ?k2 ?k3 ?k4 ?_ ?k6; (case k1 => k_asm); (case k2 => k_asm); (case k3 => omega); (case k4 => omega); (case k6 => with_unfolding_all rfl); k_whole; intro b1 t1 kb1)))
local macro_rules | `(tactic| walk_at "call builtin:isinstance") => `(tactic| (k_here; (with_reducible show wpAny _ _ (call _ [Value.ref _, Value.type "dict"]) _ _ _); k_dflt (refine' kia_one kitx_dict ?X ?c ?ee ?nb ?_; (case c => exact dictAt (knd := PySem.strKind _ _) (by k_asm) (by k_mem) (by k_asm)); (case X => k_in); (case ee => kit_is); (case nb => kit_nb); k_whole; intro _)))
local macro_rules | `(tactic| walk_at "getMethod str") => `(tactic| (k_here; (with_reducible show wpAny _ _ (getMethod (Value.str _ _) (Str.ofString "encode") _) _ _ _); k_dflt (refine enc_method _ ?_)))
local macro_rules | `(tactic| walk_at "call builtin:str.encode") => `(tactic| (k_here; k_dflt (refine enc_call2 ?_; k_whole; intro _ _)))
local macro_rules | `(tactic| walk_at "compareOp In str str") => `(tactic| (k_here; k_dflt (refine nul_in_p ?_)))
local macro_rules | `(tactic| walk_at "callWith") => `(tactic| (k_here; (with_reducible show wpAny _ _ (callWith _ (Value.builtin _, _).1 _ _ (backToKw _ (keywordEach (_ :: _) _))) _ _ _); k_dflt (refine callWith_kwM ?_)))
local macro_rules | `(tactic| walk_at "call builtin:int.to_bytes") => `(tactic| (k_here; k_dflt (refine' to_small ?k1 ?k2 ?_; (case k1 => (try simp only [List.length_cons, List.length_nil]); omega); (case k2 => (try simp only [List.length_cons, List.length_nil]); omega); k_whole; intro _ _ _ kbaSg)))
local macro_rules | `(tactic| walk_at "getMethod bytes") => `(tactic| (k_here; (with_reducible show wpAny _ _ (getMethod (Value.bytes _ _) (Str.ofString "join") _) _ _ _); k_dflt (refine join_method ?_)))
local macro_rules | `(tactic| walk_at "call builtin:bytes.join") => `(tactic| (k_here; k_dflt (refine' join_one ?k1 ?k2 ?_; (case k1 => k_asm); (case k2 => k_mem); k_whole)))
local macro_rules | `(tactic| walk_at "sub_end") => `(tactic| (intro p hp; first | exact hp | (repeat (first | exact hp | refine List.Mem.tail _ ?_))))
local macro_rules | `(tactic| walk_at "WhlIf") => `(tactic| (first | (refine WhlIf.no (by assumption) ?_) | (refine WhlIf.yes (by assumption) ?_)))
local macro_rules | `(tactic| walk_at "exec While BinOp") => `(tactic| (k_here; k_dflt (refine whl_start 100 ?_)))
local macro_rules | `(tactic| walk_at "exec While Constant") => `(tactic| (k_here; k_dflt (refine whl_start 100 ?_)))
local macro_rules | `(tactic| walk_at "subscriptTail") => `(tactic| (k_here; (with_reducible show wpAny _ _ (subscriptTail _ (Expr.Slice _ _ none _) (Value.bytes _ _) (Value.ref _)) _ _ _); (with_reducible rename Fr _ _ _ _ => F'); (with_reducible rename News _ _ _ _ => N'); (refine slice_S (s := ⟨_, _, _, _, _⟩) F' N' (by kba_ints) (by constructor) (by constructor) (by kba_size) ?_); intro _ _ _ _ _ _ kbcK; (first | replace kbcK := kbcK.trans (by assumption) | skip)))
local macro_rules | `(tactic| walk_at "subscriptTail") => `(tactic| (k_here; (with_reducible show wpAny _ _ (subscriptTail _ _ (Value.bytes _ _) (Value.int _ _)) _ _ _); (refine item_S (by kba_ints) (by kba_size) (by kba_idx) (by kba_idx) (by assumption) ?_); intro _ _ _ _))
local macro_rules | `(tactic| walk_at "loadName") => `(tactic| (k_here; kn_here; k_dflt (refine' loadX_L ?F ?v ?_ ?a ?b; (case F => k_asm); (case a => rfl); (case b => rfl); (case v => rfl); k_whole)))
local macro_rules | `(tactic| walk_at "dec_omega") => `(tactic| ((try simp only [decide_eq_true_eq, beq_iff_eq, bne_iff_ne, ne_eq, Bool.and_eq_true, Bool.or_eq_true, Bool.not_eq_true', decide_eq_false_iff_not, Bool.not_eq_true, beq_eq_false_iff_ne, List.length_cons, List.length_nil, List.length_append]); omega))
local macro_rules | `(tactic| walk_at "ite") => `(tactic| (k_here; k_openite; first | (refine ite_pos (by walk_at "dec_omega") ?_) | (refine ite_neg (by walk_at "dec_omega") ?_)))
local macro_rules | `(tactic| walk_at "exec While Compare") => `(tactic| (k_here; k_dflt (refine whl_start 100 ?_)))
local macro_rules | `(tactic| walk_at "callWith ref") => `(tactic| (k_here; (with_reducible show wpAny _ _ (callWith _ (Value.ref _) _ _ (backToKw _ (keywordEach (_ :: _) _))) _ _ _); k_dflt (refine callWith_boundkw ?_)))
local macro_rules | `(tactic| walk_at "call ref") => `(tactic| (k_here; (with_reducible show wpAny _ _ (call (Value.ref _) [Value.bytes _ _, Value.str _ _] _) _ _ _); k_dflt (first
  | (refine' call_signed4 ?k1 ?k2 ?k3 ?_; (case k1 => k_asm); (case k2 => k_mem); (case k3 => with_reducible assumption); k_whole; intro _ _)
  | (refine' call_signed1 ?k1 ?k2 ?k3 ?_; (case k1 => k_asm); (case k2 => k_mem); (case k3 => with_reducible assumption); k_whole; intro _ _))))
local macro_rules | `(tactic| walk_at "WhlIf") => `(tactic| (first | (refine WhlIf.no (by walk_at "dec_omega") ?_) | (refine WhlIf.yes (by walk_at "dec_omega") ?_)))
local macro_rules | `(tactic| walk_at "ite") => `(tactic| (k_here; k_openite; k_dflt (first | (refine ite_pos (toList_eq (by with_reducible assumption) (by rfl)) ?_) | (refine ite_isFalse (toList_ne (by with_reducible assumption) (by rfl) (by with_reducible assumption)) ?_))))
local macro_rules | `(tactic| walk_at "call builtin:bytes.decode") => `(tactic| (k_here; k_dflt (refine dec_p (by with_reducible assumption) ?_); intro _ _))
local macro_rules | `(tactic| walk_at "getMethod bytes") => `(tactic| (k_here; (with_reducible show wpAny _ _ (getMethod (Value.bytes _ _) (Str.ofString "decode") _) _ _ _); k_dflt (refine KBd.method ?_)))
local macro_rules | `(tactic| walk_at "exec For Name Call cons nil") => `(tactic| (k_here; (with_reducible show wpAny _ _ (exec (Stmt.For _ (Expr.Call _ [Expr.Name (Str.ofString "position") _, _] _ _) _ _ _) _) _ _ _); (rename Fr _ _ _ _ => lF'); (with_unfolding_all refine' For_invVF lF' ?k1 ?k2 ?_; (case k1 => exact rfl); (case k2 => exact rfl); k_whole)))
local macro_rules | `(tactic| walk_at "pyIter ref") => `(tactic| ((with_reducible show wpAny _ _ (pyIter (Value.ref _)) (fun it s₂ => LoopAtV _ _ _ _ _ _ _ _ _ it s₂) _ _); k_here; (rename Fr _ _ _ _ => lF'); (rename News _ _ _ _ => lN'); (rename IsRange _ _ _ _ _ _ _ _ => lR'); (with_unfolding_all refine' iter_rangeUnr ?h1 lR' ?h2 ?h3 lF' lN' ?_; (case h1 => rfl); (case h2 => first | with_reducible assumption | assumption | assumption); (case h3 => first | with_reducible assumption | assumption | assumption)); clear lF' lN'; intro i' l1; (try k_lt l1)))
local macro_rules | `(tactic| k_clsL) => `(tactic| first | exact trivial | (refine And.intro (by first | k_cls | exact dict_off (by assumption) rfl) ?_; k_clsL))
local macro_rules | `(tactic| walk_at "call type:range") => `(tactic| ((with_reducible show wpAny _ _ (call _ [_, _]) _ _ _); k_here; (rename Fr _ _ _ _ => F'); (rename News _ _ _ _ => N'); (with_unfolding_all refine range2_rows F' N' ?_; intro _ _ _ _ _ _ _ _ _)))
local macro_rules | `(tactic| walk_at "subscriptTail") => `(tactic| (k_here; (with_reducible show wpAny _ _ (subscriptTail _ _ (Value.ref 1374) (Value.int 5 _)) _ _ _); k_dflt (refine' getter5 ?k1 ?k2 ?_ ?k6; (case k1 => k_asm); (case k2 => k_asm); (case k6 => with_unfolding_all rfl); k_whole)))
local macro_rules | `(tactic| walk_at "subscriptTail") => `(tactic| (k_here; (with_reducible show wpAny _ _ (subscriptTail _ _ (Value.bytes _ _) (Value.int _ _)) _ _ _); (refine' item_out ?k0 ?k1 ?k2 ?k3 ?_ ?k6 ?k7; (case k0 => rfl); (case k1 => kba_ints); (case k2 => omega); (case k3 => omega); (case k6 => with_unfolding_all rfl); (case k7 => intro _; with_unfolding_all rfl)); intro h' tk' e' x'))
local macro_rules | `(tactic| walk_at "compareOp In int ref") => `(tactic| (k_here; (with_reducible show wpAny _ _ (compareOp CmpOp.In (Value.int 0 _) (Value.ref 232)) _ _ _); k_dflt (refine' in_uuids ?k1 ?k2 ?_; (case k1 => k_asm); (case k2 => k_asm))))
local macro_rules | `(tactic| walk_at "leaving ref") => `(tactic| (k_here; (with_reducible rename KtsDicts _ _ => kdX); (with_reducible show wpAny _ _ (leaving (envX _ _ _ _ _ (_ :: _)) _) _ _ _); (refine' leave_newSX ?k1 ?k0 ?k2 ?k3 ?_; (case k0 => assumption); (case k2 => assumption); (case k1 => assumption); (case k3 => k_asm); k_whole; intro h' S' R' U'; (try dsimp only at S' R' U' ⊢))))
local macro_rules | `(tactic| walk_at "handleBy ref") => `(tactic| (k_here; (with_reducible rename KtsDicts _ _ => kdX); (with_reducible show wpAny _ _ (handleBy _ _ (ExceptHandler.ExceptHandler (some _) none [Stmt.Raise none none _] _ :: _)) _ _ _); (k_dflt (refine' reraise_S ?R ?F ?K ?U ?XB ?TB ?T ?_; (case R => assumption); (case F => assumption); (case K => assumption); (case U => assumption); (case XB => assumption); (case TB => assumption); (case T => kts_test); k_whole); intro h' R' U'; (try dsimp only at R' U' ⊢))))
local macro_rules | `(tactic| walk_at "setItem ref str") => `(tactic| (k_here; (with_reducible show wpAny _ _ (setItem (Value.ref _) (Value.str _ _) (Value.bytes _ _)) _ _ _); k_dflt (refine' kda_set (knd := PySem.strKind _ _) ?F ?N ?U ?d (strKind_is _ _ _ _) ?z ?_; (case F => k_asm); (case N => k_asm); (case U => k_updF); (case d => k_asm); (case z => rw [sizeLine_eq]; exact Nat.le_of_ble_eq_true (by with_unfolding_all rfl))); intro h' o' F' N' hd'; (try dsimp only at N')))
local macro_rules | `(tactic| walk_at "subscriptTail") => `(tactic| (k_here; (with_reducible show wpAny _ _ (subscriptTail _ _ (Value.ref _) (Value.str (Str.ofString "p") _)) _ _ _); k_dflt (refine' item_dictAny ?k1 ?k2 ?k3 ?k4 ?_ ?k6; (case k1 => k_asm); (case k2 => k_mem); (case k3 => k_asm); (case k4 => with_unfolding_all rfl); (case k6 => with_unfolding_all rfl); k_whole)))
local macro_rules | `(tactic| walk_at "noteFrame ref") => `(tactic| (k_here; (rename RaisedS _ _ _ _ _ _ _ _ _ => rsX); (with_reducible show wpAny _ _ (noteFrame _ _) (fun _ s₂ => wpAny _ _ (setFlight _ none) (fun _ s₃ => wpAny _ _ (handleBy _ _ (ExceptHandler.ExceptHandler (some _) none [Stmt.Raise none none _] _ :: _)) _ _ s₃) _ s₂) _ _); (k_dflt (refine' kts_lookS ?R ?F ?K ?U ?D ?_; (case R => assumption); (case F => assumption); (case K => assumption); (case U => assumption); (case D => assumption); k_whole); intro h' R' U'; (try dsimp only at R' U' ⊢))))
local macro_rules | `(tactic| k_in) => `(tactic| first | with_reducible assumption | exact Frag.In.keeps (by k_asm) (Fr.keep (by k_asm)))
local macro_rules | `(tactic| walk_at "callWith ref") => `(tactic| (k_here; kn_here; (with_reducible show wpAny _ _ (callWith _ (Value.ref (OfNat.ofNat _)) _ _ _) _ _ _); k_dflt (refine' callWith_K ?k1 ?k2 ?_; (case k1 => k_asm); (case k2 => k_is); k_whole)))
section
set_option maxHeartbeats 4000000 in
theorem piece0_ {ks : List Int} {b : Array UInt8} {tm tb : Tok} (hb : KBw.bInts b = ks) (hn : ks.length ≤ 40) : LedC 1795 [.int 0 tm, .bytes b tb] [] (fun _ => IsB (r0 ks)) := by
  intro w p loose mean mg mb cn cs a ccd cl base h₀ L m s Q E news B C1 C2 XB TB F KX N off T hk hret
  k_dflt (refine' enterL (K := HD.KH _) ?k1 ?k2 ?k3 ?k4 ?koff ?k5 ?kA ?kK ?kret ?k6 ?k7 ?k8 ?k9 ?kB ?_ ?c2 ?c3 ?c4 ?c5; (case kret => exact hret); (case kA => exact rfl); (case kK => assumption); (case k1 => k_asm); (case k2 => k_asm); (case k3 => k_asm); (case k4 => exact N); (case koff => exact off); (case k5 => k_asm); (case k6 => k_is); (case k7 => k_is); (case k8 => k_room); (case k9 => exact BindsTo.of_eq rfl); (case c5 => decide); (case kB => exact locs rfl); (case c2 => exact rfl); (case c3 => exact rfl); (case c4 => exact rfl); k_whole; clear hret; intro g' L' h' R' FG' F' N' B' X' T' hR; (try dsimp only); (try k_lift B'); (try k_fold))
  clear C1 C2 XB TB
  k_steps
  all_goals refine hR _ _ _ 0 [] News.nil ⟨_, _, rfl, ?_⟩
  all_goals (rename KBw.bInts _ = _ => hfin; refine hfin.trans ?_)
  all_goals simp only [List.length_cons, List.length_nil, List.map_cons, List.map_nil, r0, List.cons_append, List.nil_append, List.append_assoc]
  all_goals (refine congr (congrArg List.cons ?_) rfl; omega)
end
section
set_option maxHeartbeats 4000000 in
theorem piece1_ {ks : List Int} {b : Array UInt8} {tm tb : Tok} (hb : KBw.bInts b = ks) (hn : ks.length ≤ 40) : LedC 1795 [.int 1 tm, .bytes b tb] [] (fun _ => IsB (r1 ks)) := by
  intro w p loose mean mg mb cn cs a ccd cl base h₀ L m s Q E news B C1 C2 XB TB F KX N off T hk hret
  k_dflt (refine' enterL (K := HD.KH _) ?k1 ?k2 ?k3 ?k4 ?koff ?k5 ?kA ?kK ?kret ?k6 ?k7 ?k8 ?k9 ?kB ?_ ?c2 ?c3 ?c4 ?c5; (case kret => exact hret); (case kA => exact rfl); (case kK => assumption); (case k1 => k_asm); (case k2 => k_asm); (case k3 => k_asm); (case k4 => exact N); (case koff => exact off); (case k5 => k_asm); (case k6 => k_is); (case k7 => k_is); (case k8 => k_room); (case k9 => exact BindsTo.of_eq rfl); (case c5 => decide); (case kB => exact locs rfl); (case c2 => exact rfl); (case c3 => exact rfl); (case c4 => exact rfl); k_whole; clear hret; intro g' L' h' R' FG' F' N' B' X' T' hR; (try dsimp only); (try k_lift B'); (try k_fold))
  clear C1 C2 XB TB
  k_steps
  all_goals refine hR _ _ _ 0 [] News.nil ⟨_, _, rfl, ?_⟩
  all_goals (rename KBw.bInts _ = _ => hfin; refine hfin.trans ?_)
  all_goals simp only [List.length_cons, List.length_nil, List.map_cons, List.map_nil, r1, List.cons_append, List.nil_append, List.append_assoc]
  all_goals rfl
end
section
set_option maxHeartbeats 4000000 in
theorem piece2_ {ks : List Int} {b : Array UInt8} {tm tb : Tok} (hb : KBw.bInts b = ks) (hn : ks.length ≤ 40) : LedC 1795 [.int 2 tm, .bytes b tb] [] (fun _ => IsB (r2 ks)) := by
  intro w p loose mean mg mb cn cs a ccd cl base h₀ L m s Q E news B C1 C2 XB TB F KX N off T hk hret
  k_dflt (refine' enterL (K := HD.KH _) ?k1 ?k2 ?k3 ?k4 ?koff ?k5 ?kA ?kK ?kret ?k6 ?k7 ?k8 ?k9 ?kB ?_ ?c2 ?c3 ?c4 ?c5; (case kret => exact hret); (case kA => exact rfl); (case kK => assumption); (case k1 => k_asm); (case k2 => k_asm); (case k3 => k_asm); (case k4 => exact N); (case koff => exact off); (case k5 => k_asm); (case k6 => k_is); (case k7 => k_is); (case k8 => k_room); (case k9 => exact BindsTo.of_eq rfl); (case c5 => decide); (case kB => exact locs rfl); (case c2 => exact rfl); (case c3 => exact rfl); (case c4 => exact rfl); k_whole; clear hret; intro g' L' h' R' FG' F' N' B' X' T' hR; (try dsimp only); (try k_lift B'); (try k_fold))
  clear C1 C2 XB TB
  k_steps
  all_goals refine hR _ _ _ 0 [] News.nil ⟨_, _, rfl, ?_⟩
  all_goals (rename KBw.bInts _ = _ => hfin; refine hfin.trans ?_)
  all_goals simp only [List.length_cons, List.length_nil, List.map_cons, List.map_nil, r2, List.cons_append, List.nil_append, List.append_assoc]
  all_goals (have e0 : ks.getD (Int.toNat 0) 0 = ks.getD 0 0 := rfl)
  all_goals first | exact (if_pos ⟨by omega, by omega⟩).symm | exact (if_neg (fun z => by obtain ⟨z1, z2⟩ := z; omega)).symm
end
section
theorem small7 {n : Nat} (h : n ≤ 40) : ((n : Int).fdiv (2 ^ Int.toNat 7) != 0) = false := by
  have e : (n : Int).fdiv (2 ^ Int.toNat 7) = 0 := by
    show (n : Int).fdiv 128 = 0
    rw [Int.fdiv_eq_ediv_of_nonneg _ (by decide)]
    omega
  rw [e]
  rfl
set_option maxHeartbeats 4000000 in
theorem piece3f {ks : List Int} {b : Array UInt8} {tm tb : Tok} (hb : KBw.bInts b = ks) (hn : ks.length ≤ 40) : LedC 1795 [.int 3 tm, .bytes b tb] [(1651, tabObj #[])] (fun l v => TabL l ∧ IsB (r3 ks) v) := by
  have hw := small7 hn
  intro w p loose mean mg mb cn cs a ccd cl base h₀ L m s Q E news B C1 C2 XB TB F KX N off T hk hret
  k_dflt (refine' enterL (K := HD.KH _) ?k1 ?k2 ?k3 ?k4 ?koff ?k5 ?kA ?kK ?kret ?k6 ?k7 ?k8 ?k9 ?kB ?_ ?c2 ?c3 ?c4 ?c5; (case kret => exact hret); (case kA => exact rfl); (case kK => assumption); (case k1 => k_asm); (case k2 => k_asm); (case k3 => k_asm); (case k4 => exact N); (case koff => exact off); (case k5 => k_asm); (case k6 => k_is); (case k7 => k_is); (case k8 => k_room); (case k9 => exact BindsTo.of_eq rfl); (case c5 => decide); (case kB => exact locs rfl); (case c2 => exact rfl); (case c3 => exact rfl); (case c4 => exact rfl); k_whole; clear hret; intro g' L' h' R' FG' F' N' B' X' T' hR; (try dsimp only); (try k_lift B'); (try k_fold))
  clear XB TB
  k_steps
  all_goals (refine' hR _ _ _ _ [(1651, tab1651 ?c), (?c, ?oc)] (News.sub ?n (List.forall_mem_cons.mpr ⟨?m1, List.forall_mem_cons.mpr ⟨?m2, List.forall_mem_nil _⟩⟩)) ⟨.inr ⟨_, _, rfl, _, _, ?d1, ?d2⟩, _, _, rfl, ?fin⟩; (case n => assumption); (case m1 => k_mem); (case m2 => k_mem); (case d1 => assumption); (case d2 => assumption))
  all_goals (rename KBw.bInts _ = _ => hfin; exact hfin)
end
section
set_option maxHeartbeats 4000000 in
theorem piece3h {ks : List Int} {b : Array UInt8} {tm tb : Tok} (hb : KBw.bInts b = ks) (hn : ks.length ≤ 40) {c : Addr} {oc : Obj} (hc : CodeO qLam oc) : LedC 1795 [.int 3 tm, .bytes b tb] [(1651, tab1651 c), (c, oc)] (fun l v => TabL l ∧ IsB (r3 ks) v) := by
  obtain ⟨vs0, t0, hd1, hd2⟩ := hc
  have hw := small7 hn
  intro w p loose mean mg mb cn cs a ccd cl base h₀ L m s Q E news B C1 C2 XB TB F KX N off T hk hret
  k_dflt (refine' enterL (K := HD.KH _) ?k1 ?k2 ?k3 ?k4 ?koff ?k5 ?kA ?kK ?kret ?k6 ?k7 ?k8 ?k9 ?kB ?_ ?c2 ?c3 ?c4 ?c5; (case kret => exact hret); (case kA => exact rfl); (case kK => assumption); (case k1 => k_asm); (case k2 => k_asm); (case k3 => k_asm); (case k4 => exact N); (case koff => exact off); (case k5 => k_asm); (case k6 => k_is); (case k7 => k_is); (case k8 => k_room); (case k9 => exact BindsTo.of_eq rfl); (case c5 => decide); (case kB => exact locs rfl); (case c2 => exact rfl); (case c3 => exact rfl); (case c4 => exact rfl); k_whole; clear hret; intro g' L' h' R' FG' F' N' B' X' T' hR; (try dsimp only); (try k_lift B'); (try k_fold))
  clear XB TB
  k_steps
  all_goals (refine' hR _ _ _ _ [(1651, tab1651 ?c), (?c, ?oc)] (News.sub ?n (List.forall_mem_cons.mpr ⟨?m1, List.forall_mem_cons.mpr ⟨?m2, List.forall_mem_nil _⟩⟩)) ⟨.inr ⟨_, _, rfl, _, _, ?d1, ?d2⟩, _, _, rfl, ?fin⟩; (case n => assumption); (case m1 => k_mem); (case m2 => k_mem); (case d1 => assumption); (case d2 => assumption))
  all_goals (rename KBw.bInts _ = _ => hfin; exact hfin)
end
section
set_option maxHeartbeats 4000000 in
theorem ends0_ {xs : List Int} {pl n : Nat} {b : Array UInt8} {tm tb tp : Tok} (hb : KBw.bInts b = xs) (hn : n ≤ 40) (hl : pl + (13 + n) ≤ xs.length) (hs : xs.length ≤ 1000) (hx : sl xs (some (pl : Int)) (some ((pl : Int) + 4)) = [13 + (n : Int), 0, 0, 0]) :
    LedC 1802 [.int 0 tm, .bytes b tb, .int (pl : Int) tp] [] (fun _ v => IsI ((pl : Int) + (13 + (n : Int))) v) := by
  intro w p loose mean mg mb cn cs a ccd cl base h₀ L m s Q E news B C1 C2 XB TB F KX N off T hk hret
  k_dflt (refine' enterL (K := HD.KH _) ?k1 ?k2 ?k3 ?k4 ?koff ?k5 ?kA ?kK ?kret ?k6 ?k7 ?k8 ?k9 ?kB ?_ ?c2 ?c3 ?c4 ?c5; (case kret => exact hret); (case kA => exact rfl); (case kK => assumption); (case k1 => k_asm); (case k2 => k_asm); (case k3 => k_asm); (case k4 => exact N); (case koff => exact off); (case k5 => k_asm); (case k6 => k_is); (case k7 => k_is); (case k8 => k_room); (case k9 => exact BindsTo.of_eq rfl); (case c5 => decide); (case kB => exact locs rfl); (case c2 => exact rfl); (case c3 => exact rfl); (case c4 => exact rfl); k_whole; clear hret; intro g' L' h' R' FG' F' N' B' X' T' hR; (try dsimp only); (try k_lift B'); (try k_fold))
  clear C1 C2 XB TB
  k_steps
  all_goals refine hR _ _ _ 0 [] News.nil (IsI.of ?_)
  all_goals omega
end
section
set_option maxHeartbeats 4000000 in
theorem ends1_ {xs : List Int} {pl n : Nat} {b : Array UInt8} {tm tb tp : Tok} (hb : KBw.bInts b = xs) (hn : n ≤ 40) (hl : pl + (2 + n) ≤ xs.length) (hs : xs.length ≤ 1000) {ys : List Int} (hy : sl xs (some (pl : Int)) none = ys) (hyl : 2 + n ≤ ys.length) (hyh : ys.length ≤ 1000) (hx0 : ys.getD (Int.toNat 0) 0 = 4) (hx1 : ys.getD (Int.toNat (0 + 1)) 0 = (n : Int)) :
    LedC 1802 [.int 1 tm, .bytes b tb, .int (pl : Int) tp] [] (fun _ v => IsI ((pl : Int) + (2 + (n : Int))) v) := by
  have hq := q7 hn
  have hband : Builtin.bitAnd (n : Int) 127 = n := band127 (by omega) (by omega)
  intro w p loose mean mg mb cn cs a ccd cl base h₀ L m s Q E news B C1 C2 XB TB F KX N off T hk hret
  k_dflt (refine' enterL (K := HD.KH _) ?k1 ?k2 ?k3 ?k4 ?koff ?k5 ?kA ?kK ?kret ?k6 ?k7 ?k8 ?k9 ?kB ?_ ?c2 ?c3 ?c4 ?c5; (case kret => exact hret); (case kA => exact rfl); (case kK => assumption); (case k1 => k_asm); (case k2 => k_asm); (case k3 => k_asm); (case k4 => exact N); (case koff => exact off); (case k5 => k_asm); (case k6 => k_is); (case k7 => k_is); (case k8 => k_room); (case k9 => exact BindsTo.of_eq rfl); (case c5 => decide); (case kB => exact locs rfl); (case c2 => exact rfl); (case c3 => exact rfl); (case c4 => exact rfl); k_whole; clear hret; intro g' L' h' R' FG' F' N' B' X' T' hR; (try dsimp only); (try k_lift B'); (try k_fold))
  clear C1 C2 XB TB
  k_steps
  all_goals refine hR _ _ _ 0 [] News.nil (IsI.of ?_)
  all_goals omega
end
section
set_option maxHeartbeats 4000000 in
theorem ends2_ {xs : List Int} {pl n : Nat} {b : Array UInt8} {tm tb tp : Tok} (hb : KBw.bInts b = xs) (hn : n ≤ 40) (hl : pl + (1 + n) ≤ xs.length) (hs : xs.length ≤ 1000) (hx0 : xs.getD (Int.toNat (pl : Int)) 0 = 128 + (n : Int)) {z : Int} (hz : xs.getD (Int.toNat ((pl : Int) + 1)) 0 = z) (hx1 : n = 1 → 128 ≤ z) :
    LedC 1802 [.int 2 tm, .bytes b tb, .int (pl : Int) tp] [] (fun _ v => IsI ((pl : Int) + (1 + (n : Int))) v) := by
  intro w p loose mean mg mb cn cs a ccd cl base h₀ L m s Q E news B C1 C2 XB TB F KX N off T hk hret
  k_dflt (refine' enterL (K := HD.KH _) ?k1 ?k2 ?k3 ?k4 ?koff ?k5 ?kA ?kK ?kret ?k6 ?k7 ?k8 ?k9 ?kB ?_ ?c2 ?c3 ?c4 ?c5; (case kret => exact hret); (case kA => exact rfl); (case kK => assumption); (case k1 => k_asm); (case k2 => k_asm); (case k3 => k_asm); (case k4 => exact N); (case koff => exact off); (case k5 => k_asm); (case k6 => k_is); (case k7 => k_is); (case k8 => k_room); (case k9 => exact BindsTo.of_eq rfl); (case c5 => decide); (case kB => exact locs rfl); (case c2 => exact rfl); (case c3 => exact rfl); (case c4 => exact rfl); k_whole; clear hret; intro g' L' h' R' FG' F' N' B' X' T' hR; (try dsimp only); (try k_lift B'); (try k_fold))
  clear C1 C2 XB TB
  k_steps
  all_goals refine hR _ _ _ 0 [] News.nil (IsI.of ?_)
  all_goals omega
end
section
set_option maxHeartbeats 4000000 in
theorem ends2b {xs : List Int} {pl : Nat} {b : Array UInt8} {tm tb tp : Tok} (hb : KBw.bInts b = xs) (hl : pl + 1 ≤ xs.length) (hs : xs.length ≤ 1000) {z : Int} (hx0 : xs.getD (Int.toNat (pl : Int)) 0 = z) (hz : z < 128) :
    LedC 1802 [.int 2 tm, .bytes b tb, .int (pl : Int) tp] [] (fun _ v => IsI ((pl : Int) + 1) v) := by
  intro w p loose mean mg mb cn cs a ccd cl base h₀ L m s Q E news B C1 C2 XB TB F KX N off T hk hret
  k_dflt (refine' enterL (K := HD.KH _) ?k1 ?k2 ?k3 ?k4 ?koff ?k5 ?kA ?kK ?kret ?k6 ?k7 ?k8 ?k9 ?kB ?_ ?c2 ?c3 ?c4 ?c5; (case kret => exact hret); (case kA => exact rfl); (case kK => assumption); (case k1 => k_asm); (case k2 => k_asm); (case k3 => k_asm); (case k4 => exact N); (case koff => exact off); (case k5 => k_asm); (case k6 => k_is); (case k7 => k_is); (case k8 => k_room); (case k9 => exact BindsTo.of_eq rfl); (case c5 => decide); (case kB => exact locs rfl); (case c2 => exact rfl); (case c3 => exact rfl); (case c4 => exact rfl); k_whole; clear hret; intro g' L' h' R' FG' F' N' B' X' T' hR; (try dsimp only); (try k_lift B'); (try k_fold))
  clear C1 C2 XB TB
  k_steps
  all_goals refine hR _ _ _ 0 [] News.nil (IsI.of ?_)
  all_goals omega
end
section
set_option maxHeartbeats 4000000 in
theorem ends3f {xs : List Int} {pl n : Nat} {b : Array UInt8} {tm tb tp : Tok} (hb : KBw.bInts b = xs) (hn : n ≤ 40) (hl : pl + (2 + n) ≤ xs.length) (hs : xs.length ≤ 1000) (hx0 : xs.getD (Int.toNat (pl : Int)) 0 = 26) (hx1 : xs.getD (Int.toNat ((pl : Int) + 1)) 0 = (n : Int)) :
    LedC 1802 [.int 3 tm, .bytes b tb, .int (pl : Int) tp] [(95, tabObj #[])] (fun l v => TabD l ∧ IsI ((pl : Int) + (2 + (n : Int))) v) := by
  have hband : Builtin.bitAnd (n : Int) 127 = n := band127 (by omega) (by omega)
  have h128 := band128 hn
  intro w p loose mean mg mb cn cs a ccd cl base h₀ L m s Q E news B C1 C2 XB TB F KX N off T hk hret
  k_dflt (refine' enterL (K := HD.KH _) ?k1 ?k2 ?k3 ?k4 ?koff ?k5 ?kA ?kK ?kret ?k6 ?k7 ?k8 ?k9 ?kB ?_ ?c2 ?c3 ?c4 ?c5; (case kret => exact hret); (case kA => exact rfl); (case kK => assumption); (case k1 => k_asm); (case k2 => k_asm); (case k3 => k_asm); (case k4 => exact N); (case koff => exact off); (case k5 => k_asm); (case k6 => k_is); (case k7 => k_is); (case k8 => k_room); (case k9 => exact BindsTo.of_eq rfl); (case c5 => decide); (case kB => exact locs rfl); (case c2 => exact rfl); (case c3 => exact rfl); (case c4 => exact rfl); k_whole; clear hret; intro g' L' h' R' FG' F' N' B' X' T' hR; (try dsimp only); (try k_lift B'); (try k_fold))
  clear XB TB
  k_steps
  all_goals (refine' hR _ _ _ _ [(95, tab95 ?c), (?c, ?oc)] (News.sub ?n (List.forall_mem_cons.mpr ⟨?m1, List.forall_mem_cons.mpr ⟨?m2, List.forall_mem_nil _⟩⟩)) ⟨.inr ⟨_, _, rfl, _, _, ?d1, ?d2⟩, IsI.of ?fin⟩; (case n => assumption); (case m1 => k_mem); (case m2 => k_mem); (case d1 => assumption); (case d2 => assumption))
  all_goals (rw [mask64 hn]; omega)
end
section
set_option maxHeartbeats 4000000 in
theorem ends3h {xs : List Int} {pl n : Nat} {b : Array UInt8} {tm tb tp : Tok} (hb : KBw.bInts b = xs) (hn : n ≤ 40) (hl : pl + (2 + n) ≤ xs.length) (hs : xs.length ≤ 1000) (hx0 : xs.getD (Int.toNat (pl : Int)) 0 = 26) (hx1 : xs.getD (Int.toNat ((pl : Int) + 1)) 0 = (n : Int))  {c : Addr} {oc : Obj} (hc : CodeO qDec oc) :
    LedC 1802 [.int 3 tm, .bytes b tb, .int (pl : Int) tp] [(95, tab95 c), (c, oc)] (fun l v => TabD l ∧ IsI ((pl : Int) + (2 + (n : Int))) v) := by
  have hband : Builtin.bitAnd (n : Int) 127 = n := band127 (by omega) (by omega)
  have h128 := band128 hn
  obtain ⟨vs0, t0, hd1, hd2⟩ := hc
  intro w p loose mean mg mb cn cs a ccd cl base h₀ L m s Q E news B C1 C2 XB TB F KX N off T hk hret
  k_dflt (refine' enterL (K := HD.KH _) ?k1 ?k2 ?k3 ?k4 ?koff ?k5 ?kA ?kK ?kret ?k6 ?k7 ?k8 ?k9 ?kB ?_ ?c2 ?c3 ?c4 ?c5; (case kret => exact hret); (case kA => exact rfl); (case kK => assumption); (case k1 => k_asm); (case k2 => k_asm); (case k3 => k_asm); (case k4 => exact N); (case koff => exact off); (case k5 => k_asm); (case k6 => k_is); (case k7 => k_is); (case k8 => k_room); (case k9 => exact BindsTo.of_eq rfl); (case c5 => decide); (case kB => exact locs rfl); (case c2 => exact rfl); (case c3 => exact rfl); (case c4 => exact rfl); k_whole; clear hret; intro g' L' h' R' FG' F' N' B' X' T' hR; (try dsimp only); (try k_lift B'); (try k_fold))
  clear XB TB
  k_steps
  all_goals (refine' hR _ _ _ _ [(95, tab95 ?c), (?c, ?oc)] (News.sub ?n (List.forall_mem_cons.mpr ⟨?m1, List.forall_mem_cons.mpr ⟨?m2, List.forall_mem_nil _⟩⟩)) ⟨.inr ⟨_, _, rfl, _, _, ?d1, ?d2⟩, IsI.of ?fin⟩; (case n => assumption); (case m1 => k_mem); (case m2 => k_mem); (case d1 => assumption); (case d2 => assumption))
  all_goals (rw [mask64 hn]; omega)
end
section
set_option maxHeartbeats 4000000 in
theorem inside0 {xs ks : List Int} {n : Nat} {b : Array UInt8} {tm tb : Tok} (hb : KBw.bInts b = xs) (hn : n ≤ 40) (hl : xs.length = 13 + n) (f0 : sl xs (some 0) (some (0 + 4)) = [13 + (n : Int), 0, 0, 0]) (f1 : xs.getD (Int.toNat (0 + (13 + (n : Int)) - 1)) 0 = 0) (f2 : xs.getD (Int.toNat 4) 0 = 5)  (f3 : xs.getD (Int.toNat (4 + 1 + ((0 : Nat) : Int))) 0 = 112) (f4 : xs.getD (Int.toNat (4 + 1 + ((0 + 1 : Nat) : Int))) 0 = 0) (f5 : sl xs (some (4 + 1)) (some (4 + 1 + ((0 + 1 : Nat) : Int))) = [112])  (f6 : sl xs (some (4 + 1 + ((0 + 1 : Nat) : Int) + 1)) (some ((4 + 1 + ((0 + 1 : Nat) : Int) + 1) + 4)) = [(n : Int), 0, 0, 0]) (f7 : sl xs (some ((4 + 1 + ((0 + 1 : Nat) : Int) + 1) + 4)) (some ((4 + 1 + ((0 + 1 : Nat) : Int) + 1) + 4 + 1)) = [0]) (f8 : sl xs (some ((4 + 1 + ((0 + 1 : Nat) : Int) + 1) + 5)) (some ((4 + 1 + ((0 + 1 : Nat) : Int) + 1) + 5 + (n : Int))) = ks) :
    LedC 1809 [.int 0 tm, .bytes b tb] [] (fun _ => IsB ks) := by
  have hR1 : Builtin.Range.small (4 + 1) (xs.length : Int) 1 = true := rng5s hl hn
  have hR2 : Builtin.Range.rangeSize (4 + 1) (xs.length : Int) 1 = ((n + 6 + 1 + 1 : Nat) : Int) := rng5 hl
  intro w p loose mean mg mb cn cs a ccd cl base h₀ L m s Q E news B C1 C2 XB TB F KX N off T hk hret
  k_dflt (refine' enterL (K := HD.KH _) ?k1 ?k2 ?k3 ?k4 ?koff ?k5 ?kA ?kK ?kret ?k6 ?k7 ?k8 ?k9 ?kB ?_ ?c2 ?c3 ?c4 ?c5; (case kret => exact hret); (case kA => exact rfl); (case kK => assumption); (case k1 => k_asm); (case k2 => k_asm); (case k3 => k_asm); (case k4 => exact N); (case koff => exact off); (case k5 => k_asm); (case k6 => k_is); (case k7 => k_is); (case k8 => k_room); (case k9 => exact BindsTo.of_eq rfl); (case c5 => decide); (case kB => exact locs rfl); (case c2 => exact rfl); (case c3 => exact rfl); (case c4 => exact rfl); k_whole; clear hret; intro g' L' h' R' FG' F' N' B' X' T' hR; (try dsimp only); (try k_lift B'); (try k_fold))
  clear C1 C2 XB TB
  k_steps
  all_goals exact hR _ _ _ 0 [] News.nil ⟨_, _, rfl, by with_reducible assumption⟩
end
section
set_option maxHeartbeats 4000000 in
theorem inside1 {xs ks : List Int} {n : Nat} {b : Array UInt8} {tm tb : Tok} (hb : KBw.bInts b = xs) (hn : n ≤ 40) (hl : xs.length = 2 + n) (hx0 : xs.getD (Int.toNat 0) 0 = 4) (hx1 : xs.getD (Int.toNat (0 + 1)) 0 = (n : Int))  (f0 : sl xs (some (0 + 1 + 1)) (some (0 + 1 + 1 + Builtin.bitAnd (n : Int) 127 - ((#[] : Array UInt8).size : Int))) = ks) :
    LedC 1809 [.int 1 tm, .bytes b tb] [] (fun _ => IsB ks) := by
  have hq := q7 hn
  have hband : Builtin.bitAnd (n : Int) 127 = n := band127 (by omega) (by omega)
  intro w p loose mean mg mb cn cs a ccd cl base h₀ L m s Q E news B C1 C2 XB TB F KX N off T hk hret
  k_dflt (refine' enterL (K := HD.KH _) ?k1 ?k2 ?k3 ?k4 ?koff ?k5 ?kA ?kK ?kret ?k6 ?k7 ?k8 ?k9 ?kB ?_ ?c2 ?c3 ?c4 ?c5; (case kret => exact hret); (case kA => exact rfl); (case kK => assumption); (case k1 => k_asm); (case k2 => k_asm); (case k3 => k_asm); (case k4 => exact N); (case koff => exact off); (case k5 => k_asm); (case k6 => k_is); (case k7 => k_is); (case k8 => k_room); (case k9 => exact BindsTo.of_eq rfl); (case c5 => decide); (case kB => exact locs rfl); (case c2 => exact rfl); (case c3 => exact rfl); (case c4 => exact rfl); k_whole; clear hret; intro g' L' h' R' FG' F' N' B' X' T' hR; (try dsimp only); (try k_lift B'); (try k_fold))
  clear C1 C2 XB TB
  k_steps
  all_goals exact hR _ _ _ 0 [] News.nil ⟨_, _, rfl, by assumption⟩
end
section
set_option maxHeartbeats 4000000 in
theorem inside2 {xs ks : List Int} {n : Nat} {b : Array UInt8} {tm tb : Tok} (hb : KBw.bInts b = xs) (hn : n ≤ 40) (hl : xs.length = 1 + n) (hx0 : xs.getD (Int.toNat 0) 0 = 128 + (n : Int)) {z : Int} (hz : xs.getD (Int.toNat (0 + 1)) 0 = z) (hx1 : n = 1 → 128 ≤ z)  (f0 : sl xs (some 0) (some (0 + 1)) = [128 + (n : Int)]) (f1 : sl xs (some (0 + 1)) (some (0 + 1 + (128 + (n : Int) - 128))) = ks) (hk : ks.length = n) :
    LedC 1809 [.int 2 tm, .bytes b tb] [] (fun _ => IsB ks) := by
  intro w p loose mean mg mb cn cs a ccd cl base h₀ L m s Q E news B C1 C2 XB TB F KX N off T hk hret
  k_dflt (refine' enterL (K := HD.KH _) ?k1 ?k2 ?k3 ?k4 ?koff ?k5 ?kA ?kK ?kret ?k6 ?k7 ?k8 ?k9 ?kB ?_ ?c2 ?c3 ?c4 ?c5; (case kret => exact hret); (case kA => exact rfl); (case kK => assumption); (case k1 => k_asm); (case k2 => k_asm); (case k3 => k_asm); (case k4 => exact N); (case koff => exact off); (case k5 => k_asm); (case k6 => k_is); (case k7 => k_is); (case k8 => k_room); (case k9 => exact BindsTo.of_eq rfl); (case c5 => decide); (case kB => exact locs rfl); (case c2 => exact rfl); (case c3 => exact rfl); (case c4 => exact rfl); k_whole; clear hret; intro g' L' h' R' FG' F' N' B' X' T' hR; (try dsimp only); (try k_lift B'); (try k_fold))
  clear C1 C2 XB TB
  k_steps
  all_goals first | exact hR _ _ _ 0 [] News.nil ⟨_, _, rfl, by assumption⟩
end
section
set_option maxHeartbeats 4000000 in
theorem inside2b {xs : List Int} {b : Array UInt8} {tm tb : Tok} (hb : KBw.bInts b = xs) (hl : xs.length = 1) {z : Int} (hx0 : xs.getD (Int.toNat 0) 0 = z) (hz : z < 128) (f0 : sl xs (some 0) (some (0 + 1)) = xs) :
    LedC 1809 [.int 2 tm, .bytes b tb] [] (fun _ => IsB xs) := by
  intro w p loose mean mg mb cn cs a ccd cl base h₀ L m s Q E news B C1 C2 XB TB F KX N off T hk hret
  k_dflt (refine' enterL (K := HD.KH _) ?k1 ?k2 ?k3 ?k4 ?koff ?k5 ?kA ?kK ?kret ?k6 ?k7 ?k8 ?k9 ?kB ?_ ?c2 ?c3 ?c4 ?c5; (case kret => exact hret); (case kA => exact rfl); (case kK => assumption); (case k1 => k_asm); (case k2 => k_asm); (case k3 => k_asm); (case k4 => exact N); (case koff => exact off); (case k5 => k_asm); (case k6 => k_is); (case k7 => k_is); (case k8 => k_room); (case k9 => exact BindsTo.of_eq rfl); (case c5 => decide); (case kB => exact locs rfl); (case c2 => exact rfl); (case c3 => exact rfl); (case c4 => exact rfl); k_whole; clear hret; intro g' L' h' R' FG' F' N' B' X' T' hR; (try dsimp only); (try k_lift B'); (try k_fold))
  clear C1 C2 XB TB
  k_steps
  all_goals first | exact hR _ _ _ 0 [] News.nil ⟨_, _, rfl, by assumption⟩
end
section
set_option maxHeartbeats 4000000 in
theorem inside3f {xs ks : List Int} {n : Nat} {b : Array UInt8} {tm tb : Tok} (hb : KBw.bInts b = xs) (hn : n ≤ 40) (hl : xs.length = 2 + n) (hx0 : xs.getD (Int.toNat 0) 0 = 26) (hx1 : xs.getD (Int.toNat (0 + 1)) 0 = (n : Int))  (f0 : sl xs (some 0) (some (0 + 1)) = [26]) (f1 : sl xs (some (0 + 1 + 1)) none = ks) :
    LedC 1809 [.int 3 tm, .bytes b tb] [(95, tabObj #[])] (fun l v => TabD l ∧ IsB ks v) := by
  have hband : Builtin.bitAnd (n : Int) 127 = n := band127 (by omega) (by omega)
  have hmask := mask64 hn
  have h128 := band128 hn
  intro w p loose mean mg mb cn cs a ccd cl base h₀ L m s Q E news B C1 C2 XB TB F KX N off T hk hret
  k_dflt (refine' enterL (K := HD.KH _) ?k1 ?k2 ?k3 ?k4 ?koff ?k5 ?kA ?kK ?kret ?k6 ?k7 ?k8 ?k9 ?kB ?_ ?c2 ?c3 ?c4 ?c5; (case kret => exact hret); (case kA => exact rfl); (case kK => assumption); (case k1 => k_asm); (case k2 => k_asm); (case k3 => k_asm); (case k4 => exact N); (case koff => exact off); (case k5 => k_asm); (case k6 => k_is); (case k7 => k_is); (case k8 => k_room); (case k9 => exact BindsTo.of_eq rfl); (case c5 => decide); (case kB => exact locs rfl); (case c2 => exact rfl); (case c3 => exact rfl); (case c4 => exact rfl); k_whole; clear hret; intro g' L' h' R' FG' F' N' B' X' T' hR; (try dsimp only); (try k_lift B'); (try k_fold))
  clear XB TB
  k_steps
  all_goals (refine' hR _ _ _ _ [(95, tab95 ?c), (?c, ?oc)] (News.sub ?n (List.forall_mem_cons.mpr ⟨?m1, List.forall_mem_cons.mpr ⟨?m2, List.forall_mem_nil _⟩⟩)) ⟨.inr ⟨_, _, rfl, _, _, ?d1, ?d2⟩, _, _, rfl, ?fin⟩; (case n => assumption); (case m1 => k_mem); (case m2 => k_mem); (case d1 => assumption); (case d2 => assumption); (case fin => assumption))
end
section
set_option maxHeartbeats 4000000 in
theorem inside3h {xs ks : List Int} {n : Nat} {b : Array UInt8} {tm tb : Tok} (hb : KBw.bInts b = xs) (hn : n ≤ 40) (hl : xs.length = 2 + n) (hx0 : xs.getD (Int.toNat 0) 0 = 26) (hx1 : xs.getD (Int.toNat (0 + 1)) 0 = (n : Int))  (f0 : sl xs (some 0) (some (0 + 1)) = [26]) (f1 : sl xs (some (0 + 1 + 1)) none = ks)  {c : Addr} {oc : Obj} (hc : CodeO qDec oc) :
    LedC 1809 [.int 3 tm, .bytes b tb] [(95, tab95 c), (c, oc)] (fun l v => TabD l ∧ IsB ks v) := by
  have hband : Builtin.bitAnd (n : Int) 127 = n := band127 (by omega) (by omega)
  have hmask := mask64 hn
  have h128 := band128 hn
  obtain ⟨vs0, t0, hd1, hd2⟩ := hc
  intro w p loose mean mg mb cn cs a ccd cl base h₀ L m s Q E news B C1 C2 XB TB F KX N off T hk hret
  k_dflt (refine' enterL (K := HD.KH _) ?k1 ?k2 ?k3 ?k4 ?koff ?k5 ?kA ?kK ?kret ?k6 ?k7 ?k8 ?k9 ?kB ?_ ?c2 ?c3 ?c4 ?c5; (case kret => exact hret); (case kA => exact rfl); (case kK => assumption); (case k1 => k_asm); (case k2 => k_asm); (case k3 => k_asm); (case k4 => exact N); (case koff => exact off); (case k5 => k_asm); (case k6 => k_is); (case k7 => k_is); (case k8 => k_room); (case k9 => exact BindsTo.of_eq rfl); (case c5 => decide); (case kB => exact locs rfl); (case c2 => exact rfl); (case c3 => exact rfl); (case c4 => exact rfl); k_whole; clear hret; intro g' L' h' R' FG' F' N' B' X' T' hR; (try dsimp only); (try k_lift B'); (try k_fold))
  clear XB TB
  k_steps
  all_goals (refine' hR _ _ _ _ [(95, tab95 ?c), (?c, ?oc)] (News.sub ?n (List.forall_mem_cons.mpr ⟨?m1, List.forall_mem_cons.mpr ⟨?m2, List.forall_mem_nil _⟩⟩)) ⟨.inr ⟨_, _, rfl, _, _, ?d1, ?d2⟩, _, _, rfl, ?fin⟩; (case n => assumption); (case m1 => k_mem); (case m2 => k_mem); (case d1 => assumption); (case d2 => assumption); (case fin => assumption))
end
section
set_option maxHeartbeats 4000000 in
theorem cut0b {xs : List Int} {n : Nat} {b : Array UInt8} {tm tb : Tok} (hb : KBw.bInts b = xs) (hn : n ≤ 40) (hc : 4 ≤ xs.length) (hc2 : xs.length < 13 + n) (f0 : sl xs (some 0) (some (0 + 4)) = [13 + (n : Int), 0, 0, 0]) :
    LedC 1809 [.int 0 tm, .bytes b tb] [] (fun _ => IsRef) := by
  intro w p loose mean mg mb cn cs a ccd cl base h₀ L m s Q E news B C1 C2 XB TB F KX N off T hk hret
  k_dflt (refine' enterLS (K := HD.KH _) ?k1 ?k2 ?k3 ?k4 ?koff ?k5 ?kA ?kK ?kret ?k6 ?k7 ?k8 ?k9 ?kB ?_ ?c2 ?c3 ?c4 ?c5; (case kret => exact hret); (case kA => exact rfl); (case kK => assumption); (case k1 => k_asm); (case k2 => k_asm); (case k3 => k_asm); (case k4 => exact N); (case koff => exact off); (case k5 => k_asm); (case k6 => k_is); (case k7 => k_is); (case k8 => k_room); (case k9 => exact BindsTo.of_eq rfl); (case c5 => decide); (case kB => exact locs rfl); (case c2 => exact rfl); (case c3 => exact rfl); (case c4 => exact rfl); k_whole; clear hret; intro g' L' h' R' FG' F' N' B' X' T' D' hR; (try dsimp only); (try k_lift B'); (try k_fold))
  clear C1 C2
  k_steps
  all_goals first | exact hR _ _ _ _ 0 [] KtsTurn.refl News.nil ⟨_, rfl⟩
end
section
local macro_rules | `(tactic| walk_at "binaryOp Mod str ref") => `(tactic| (k_here; (with_reducible show wpAny _ _ (binaryOp Operator.Mod (Value.str _ _) (Value.ref _)) _ _ _); k_dflt (refine' msg_mod ?N ?m ?a ?b ?c ?d ?_; (case N => k_asm); (case m => k_mem); (case a => omega); (case b => omega); (case c => omega); (case d => omega); k_whole; intro msT' _ _)))
set_option maxHeartbeats 4000000 in
theorem cut1a {xs : List Int} {n : Nat} {b : Array UInt8} {tm tb : Tok} (hb : KBw.bInts b = xs) (hn : n ≤ 40) (hc : xs.length = 1) (hx0 : xs.getD (Int.toNat 0) 0 = 4) :
    LedC 1809 [.int 1 tm, .bytes b tb] [] (fun _ => IsRef) := by
  intro w p loose mean mg mb cn cs a ccd cl base h₀ L m s Q E news B C1 C2 XB TB F KX N off T hk hret
  k_dflt (refine' enterLS (K := HD.KH _) ?k1 ?k2 ?k3 ?k4 ?koff ?k5 ?kA ?kK ?kret ?k6 ?k7 ?k8 ?k9 ?kB ?_ ?c2 ?c3 ?c4 ?c5; (case kret => exact hret); (case kA => exact rfl); (case kK => assumption); (case k1 => k_asm); (case k2 => k_asm); (case k3 => k_asm); (case k4 => exact N); (case koff => exact off); (case k5 => k_asm); (case k6 => k_is); (case k7 => k_is); (case k8 => k_room); (case k9 => exact BindsTo.of_eq rfl); (case c5 => decide); (case kB => exact locs rfl); (case c2 => exact rfl); (case c3 => exact rfl); (case c4 => exact rfl); k_whole; clear hret; intro g' L' h' R' FG' F' N' B' X' T' D' hR; (try dsimp only); (try k_lift B'); (try k_fold))
  clear C1 C2
  k_steps
  all_goals first | exact hR _ _ _ _ 0 [] KtsTurn.refl News.nil ⟨_, rfl⟩
end
section
local macro_rules | `(tactic| walk_at "binaryOp Mod str ref") => `(tactic| (k_here; (with_reducible show wpAny _ _ (binaryOp Operator.Mod (Value.str _ _) (Value.ref _)) _ _ _); k_dflt (refine' msg_mod ?N ?m ?a ?b ?c ?d ?_; (case N => k_asm); (case m => k_mem); (case a => omega); (case b => omega); (case c => omega); (case d => omega); k_whole; intro msT' _ _)))
set_option maxHeartbeats 4000000 in
theorem cut1b {xs : List Int} {n : Nat} {b : Array UInt8} {tm tb : Tok} (hb : KBw.bInts b = xs) (hn : n ≤ 40) (hc : 2 ≤ xs.length) (hc2 : xs.length < 2 + n) (hx0 : xs.getD (Int.toNat 0) 0 = 4) (hx1 : xs.getD (Int.toNat (0 + 1)) 0 = (n : Int)) :
    LedC 1809 [.int 1 tm, .bytes b tb] [] (fun _ => IsRef) := by
  have hq := q7 hn
  have hband : Builtin.bitAnd (n : Int) 127 = n := band127 (by omega) (by omega)
  intro w p loose mean mg mb cn cs a ccd cl base h₀ L m s Q E news B C1 C2 XB TB F KX N off T hk hret
  k_dflt (refine' enterLS (K := HD.KH _) ?k1 ?k2 ?k3 ?k4 ?koff ?k5 ?kA ?kK ?kret ?k6 ?k7 ?k8 ?k9 ?kB ?_ ?c2 ?c3 ?c4 ?c5; (case kret => exact hret); (case kA => exact rfl); (case kK => assumption); (case k1 => k_asm); (case k2 => k_asm); (case k3 => k_asm); (case k4 => exact N); (case koff => exact off); (case k5 => k_asm); (case k6 => k_is); (case k7 => k_is); (case k8 => k_room); (case k9 => exact BindsTo.of_eq rfl); (case c5 => decide); (case kB => exact locs rfl); (case c2 => exact rfl); (case c3 => exact rfl); (case c4 => exact rfl); k_whole; clear hret; intro g' L' h' R' FG' F' N' B' X' T' D' hR; (try dsimp only); (try k_lift B'); (try k_fold))
  clear C1 C2
  k_steps
  all_goals first | exact hR _ _ _ _ 0 [] KtsTurn.refl News.nil ⟨_, rfl⟩
end
section
set_option maxHeartbeats 4000000 in
theorem cut2a {xs : List Int} {n : Nat} {b : Array UInt8} {tm tb : Tok} (hb : KBw.bInts b = xs) (hn : n ≤ 40) (hc : xs.length = 1) (hn1 : n = 1) (hx0 : xs.getD (Int.toNat 0) 0 = 128 + (n : Int)) :
    LedC 1809 [.int 2 tm, .bytes b tb] [] (fun _ => IsRef) := by
  intro w p loose mean mg mb cn cs a ccd cl base h₀ L m s Q E news B C1 C2 XB TB F KX N off T hk hret
  k_dflt (refine' enterLS (K := HD.KH _) ?k1 ?k2 ?k3 ?k4 ?koff ?k5 ?kA ?kK ?kret ?k6 ?k7 ?k8 ?k9 ?kB ?_ ?c2 ?c3 ?c4 ?c5; (case kret => exact hret); (case kA => exact rfl); (case kK => assumption); (case k1 => k_asm); (case k2 => k_asm); (case k3 => k_asm); (case k4 => exact N); (case koff => exact off); (case k5 => k_asm); (case k6 => k_is); (case k7 => k_is); (case k8 => k_room); (case k9 => exact BindsTo.of_eq rfl); (case c5 => decide); (case kB => exact locs rfl); (case c2 => exact rfl); (case c3 => exact rfl); (case c4 => exact rfl); k_whole; clear hret; intro g' L' h' R' FG' F' N' B' X' T' D' hR; (try dsimp only); (try k_lift B'); (try k_fold))
  clear C1 C2
  k_steps
  all_goals first | exact hR _ _ _ _ 0 [] KtsTurn.refl News.nil ⟨_, rfl⟩
end
section
set_option maxHeartbeats 4000000 in
theorem cut2b {xs : List Int} {n : Nat} {b : Array UInt8} {tm tb : Tok} (hb : KBw.bInts b = xs) (hn : n ≤ 40) (hc : 1 ≤ xs.length) (hc2 : xs.length < 1 + n) (hn1 : n ≠ 1) (hx0 : xs.getD (Int.toNat 0) 0 = 128 + (n : Int)) {ys zs : List Int} (f0 : sl xs (some 0) (some (0 + 1)) = ys) (f1 : sl xs (some (0 + 1)) (some (0 + 1 + (128 + (n : Int) - 128))) = zs) (hy : ys.length ≤ 100) (hz : zs.length ≤ 100) :
    LedC 1809 [.int 2 tm, .bytes b tb] [] (fun _ => IsRef) := by
  intro w p loose mean mg mb cn cs a ccd cl base h₀ L m s Q E news B C1 C2 XB TB F KX N off T hk hret
  k_dflt (refine' enterLS (K := HD.KH _) ?k1 ?k2 ?k3 ?k4 ?koff ?k5 ?kA ?kK ?kret ?k6 ?k7 ?k8 ?k9 ?kB ?_ ?c2 ?c3 ?c4 ?c5; (case kret => exact hret); (case kA => exact rfl); (case kK => assumption); (case k1 => k_asm); (case k2 => k_asm); (case k3 => k_asm); (case k4 => exact N); (case koff => exact off); (case k5 => k_asm); (case k6 => k_is); (case k7 => k_is); (case k8 => k_room); (case k9 => exact BindsTo.of_eq rfl); (case c5 => decide); (case kB => exact locs rfl); (case c2 => exact rfl); (case c3 => exact rfl); (case c4 => exact rfl); k_whole; clear hret; intro g' L' h' R' FG' F' N' B' X' T' D' hR; (try dsimp only); (try k_lift B'); (try k_fold))
  clear C1 C2
  k_steps
  all_goals first | exact hR _ _ _ _ 0 [] KtsTurn.refl News.nil ⟨_, rfl⟩
end
section
set_option maxHeartbeats 4000000 in
theorem cut3af {xs : List Int} {n : Nat} {b : Array UInt8} {tm tb : Tok} (hb : KBw.bInts b = xs) (hn : n ≤ 40) (hc : xs.length = 1) (hx0 : xs.getD (Int.toNat 0) 0 = 26) :
    LedC 1809 [.int 3 tm, .bytes b tb] [(95, tabObj #[])] (fun l v => TabD l ∧ IsRef v) := by
  have hband : Builtin.bitAnd (n : Int) 127 = n := band127 (by omega) (by omega)
  have hmask := mask64 hn
  have h128 := band128 hn
  intro w p loose mean mg mb cn cs a ccd cl base h₀ L m s Q E news B C1 C2 XB TB F KX N off T hk hret
  k_dflt (refine' enterLS (K := HD.KH _) ?k1 ?k2 ?k3 ?k4 ?koff ?k5 ?kA ?kK ?kret ?k6 ?k7 ?k8 ?k9 ?kB ?_ ?c2 ?c3 ?c4 ?c5; (case kret => exact hret); (case kA => exact rfl); (case kK => assumption); (case k1 => k_asm); (case k2 => k_asm); (case k3 => k_asm); (case k4 => exact N); (case koff => exact off); (case k5 => k_asm); (case k6 => k_is); (case k7 => k_is); (case k8 => k_room); (case k9 => exact BindsTo.of_eq rfl); (case c5 => decide); (case kB => exact locs rfl); (case c2 => exact rfl); (case c3 => exact rfl); (case c4 => exact rfl); k_whole; clear hret; intro g' L' h' R' FG' F' N' B' X' T' D' hR; (try dsimp only); (try k_lift B'); (try k_fold))
  k_steps
  all_goals (refine' hR _ _ _ _ _ [(95, tab95 ?c), (?c, ?oc)] ?tt (News.sub ?n (List.forall_mem_cons.mpr ⟨?m1, List.forall_mem_cons.mpr ⟨?m2, List.forall_mem_nil _⟩⟩)) ⟨.inr ⟨_, _, rfl, _, _, ?d1, ?d2⟩, _, rfl⟩; (case tt => first | assumption | exact KtsTurn.refl); (case n => assumption); (case m1 => k_mem); (case m2 => k_mem); (case d1 => assumption); (case d2 => assumption))
end
section
set_option maxHeartbeats 4000000 in
theorem cut3ah {xs : List Int} {n : Nat} {b : Array UInt8} {tm tb : Tok} (hb : KBw.bInts b = xs) (hn : n ≤ 40) (hc : xs.length = 1) (hx0 : xs.getD (Int.toNat 0) 0 = 26)  {c : Addr} {oc : Obj} (hc0 : CodeO qDec oc) :
    LedC 1809 [.int 3 tm, .bytes b tb] [(95, tab95 c), (c, oc)] (fun l v => TabD l ∧ IsRef v) := by
  have hband : Builtin.bitAnd (n : Int) 127 = n := band127 (by omega) (by omega)
  have hmask := mask64 hn
  have h128 := band128 hn
  obtain ⟨vs0, t0, hd1, hd2⟩ := hc0
  intro w p loose mean mg mb cn cs a ccd cl base h₀ L m s Q E news B C1 C2 XB TB F KX N off T hk hret
  k_dflt (refine' enterLS (K := HD.KH _) ?k1 ?k2 ?k3 ?k4 ?koff ?k5 ?kA ?kK ?kret ?k6 ?k7 ?k8 ?k9 ?kB ?_ ?c2 ?c3 ?c4 ?c5; (case kret => exact hret); (case kA => exact rfl); (case kK => assumption); (case k1 => k_asm); (case k2 => k_asm); (case k3 => k_asm); (case k4 => exact N); (case koff => exact off); (case k5 => k_asm); (case k6 => k_is); (case k7 => k_is); (case k8 => k_room); (case k9 => exact BindsTo.of_eq rfl); (case c5 => decide); (case kB => exact locs rfl); (case c2 => exact rfl); (case c3 => exact rfl); (case c4 => exact rfl); k_whole; clear hret; intro g' L' h' R' FG' F' N' B' X' T' D' hR; (try dsimp only); (try k_lift B'); (try k_fold))
  k_steps
  all_goals (refine' hR _ _ _ _ _ [(95, tab95 ?c), (?c, ?oc)] ?tt (News.sub ?n (List.forall_mem_cons.mpr ⟨?m1, List.forall_mem_cons.mpr ⟨?m2, List.forall_mem_nil _⟩⟩)) ⟨.inr ⟨_, _, rfl, _, _, ?d1, ?d2⟩, _, rfl⟩; (case tt => first | assumption | exact KtsTurn.refl); (case n => assumption); (case m1 => k_mem); (case m2 => k_mem); (case d1 => assumption); (case d2 => assumption))
end
section
set_option maxHeartbeats 4000000 in
theorem cut3bf {xs : List Int} {n : Nat} {b : Array UInt8} {tm tb : Tok} (hb : KBw.bInts b = xs) (hn : n ≤ 40) (hc : 2 ≤ xs.length) (hc2 : xs.length < 2 + n) (hx0 : xs.getD (Int.toNat 0) 0 = 26) (hx1 : xs.getD (Int.toNat (0 + 1)) 0 = (n : Int)) (f0 : sl xs (some 0) (some (0 + 1)) = [26]) :
    LedC 1809 [.int 3 tm, .bytes b tb] [(95, tabObj #[])] (fun l v => TabD l ∧ IsRef v) := by
  have hband : Builtin.bitAnd (n : Int) 127 = n := band127 (by omega) (by omega)
  have hmask := mask64 hn
  have h128 := band128 hn
  intro w p loose mean mg mb cn cs a ccd cl base h₀ L m s Q E news B C1 C2 XB TB F KX N off T hk hret
  k_dflt (refine' enterLS (K := HD.KH _) ?k1 ?k2 ?k3 ?k4 ?koff ?k5 ?kA ?kK ?kret ?k6 ?k7 ?k8 ?k9 ?kB ?_ ?c2 ?c3 ?c4 ?c5; (case kret => exact hret); (case kA => exact rfl); (case kK => assumption); (case k1 => k_asm); (case k2 => k_asm); (case k3 => k_asm); (case k4 => exact N); (case koff => exact off); (case k5 => k_asm); (case k6 => k_is); (case k7 => k_is); (case k8 => k_room); (case k9 => exact BindsTo.of_eq rfl); (case c5 => decide); (case kB => exact locs rfl); (case c2 => exact rfl); (case c3 => exact rfl); (case c4 => exact rfl); k_whole; clear hret; intro g' L' h' R' FG' F' N' B' X' T' D' hR; (try dsimp only); (try k_lift B'); (try k_fold))
  k_steps
  all_goals (refine' hR _ _ _ _ _ [(95, tab95 ?c), (?c, ?oc)] ?tt (News.sub ?n (List.forall_mem_cons.mpr ⟨?m1, List.forall_mem_cons.mpr ⟨?m2, List.forall_mem_nil _⟩⟩)) ⟨.inr ⟨_, _, rfl, _, _, ?d1, ?d2⟩, _, rfl⟩; (case tt => first | assumption | exact KtsTurn.refl); (case n => assumption); (case m1 => k_mem); (case m2 => k_mem); (case d1 => assumption); (case d2 => assumption))
end
section
set_option maxHeartbeats 4000000 in
theorem cut3bh {xs : List Int} {n : Nat} {b : Array UInt8} {tm tb : Tok} (hb : KBw.bInts b = xs) (hn : n ≤ 40) (hc : 2 ≤ xs.length) (hc2 : xs.length < 2 + n) (hx0 : xs.getD (Int.toNat 0) 0 = 26) (hx1 : xs.getD (Int.toNat (0 + 1)) 0 = (n : Int)) (f0 : sl xs (some 0) (some (0 + 1)) = [26])  {c : Addr} {oc : Obj} (hc0 : CodeO qDec oc) :
    LedC 1809 [.int 3 tm, .bytes b tb] [(95, tab95 c), (c, oc)] (fun l v => TabD l ∧ IsRef v) := by
  have hband : Builtin.bitAnd (n : Int) 127 = n := band127 (by omega) (by omega)
  have hmask := mask64 hn
  have h128 := band128 hn
  obtain ⟨vs0, t0, hd1, hd2⟩ := hc0
  intro w p loose mean mg mb cn cs a ccd cl base h₀ L m s Q E news B C1 C2 XB TB F KX N off T hk hret
  k_dflt (refine' enterLS (K := HD.KH _) ?k1 ?k2 ?k3 ?k4 ?koff ?k5 ?kA ?kK ?kret ?k6 ?k7 ?k8 ?k9 ?kB ?_ ?c2 ?c3 ?c4 ?c5; (case kret => exact hret); (case kA => exact rfl); (case kK => assumption); (case k1 => k_asm); (case k2 => k_asm); (case k3 => k_asm); (case k4 => exact N); (case koff => exact off); (case k5 => k_asm); (case k6 => k_is); (case k7 => k_is); (case k8 => k_room); (case k9 => exact BindsTo.of_eq rfl); (case c5 => decide); (case kB => exact locs rfl); (case c2 => exact rfl); (case c3 => exact rfl); (case c4 => exact rfl); k_whole; clear hret; intro g' L' h' R' FG' F' N' B' X' T' D' hR; (try dsimp only); (try k_lift B'); (try k_fold))
  k_steps
  all_goals (refine' hR _ _ _ _ _ [(95, tab95 ?c), (?c, ?oc)] ?tt (News.sub ?n (List.forall_mem_cons.mpr ⟨?m1, List.forall_mem_cons.mpr ⟨?m2, List.forall_mem_nil _⟩⟩)) ⟨.inr ⟨_, _, rfl, _, _, ?d1, ?d2⟩, _, rfl⟩; (case tt => first | assumption | exact KtsTurn.refl); (case n => assumption); (case m1 => k_mem); (case m2 => k_mem); (case d1 => assumption); (case d2 => assumption))
end
section
local macro_rules | `(tactic| walk_at "exec Raise some none") => `(tactic| (k_here; (with_reducible show wpAny _ _ (exec (Stmt.Raise (some (Expr.Call (Expr.Name (Str.ofString "ValueError") _) [_] [] _)) none _) _) _ _ _); (with_reducible rename Fr _ _ _ _ => kF); k_dflt (refine' raiseVE ?hh ?he ?hn ?_; (case hh => rfl); (case he => rfl); (case hn => (intro Qn' hqn'; refine' name_B kF ?k1 ?k2 ?k3 ?k4 ?k5 ?_; (case k1 => k_asm); (case k2 => k_asm); (case k3 => k_is); (case k4 => boot_by_name); (case k5 => decide); exact hqn')); k_whole)))
local macro_rules | `(tactic| walk_at "leaving ref") => `(tactic| (k_here; (with_reducible rename KtsDicts _ _ => kdX); first
  | (refine' leaveC1 ?k1 ?k0 ?k2 ?k3 ?_; (case k0 => first | assumption | exact Heap.MadeExc.of (by assumption)); (case k2 => assumption); (case k1 => assumption); (case k3 => k_asm); k_whole; intro h' t' S' C' U'; (try dsimp only at S' U' ⊢))
  | (refine' leaveC2 ?k1 ?k2 ?k3 ?kc ?k4 ?_; (case k3 => assumption); (case kc => with_reducible assumption); (case k2 => assumption); (case k1 => assumption); (case k4 => assumption); k_whole; intro h' S' C' U'; (try dsimp only at S' U' ⊢))
  | (refine' leaveC ?kh ?_; (case kh => with_reducible assumption); k_whole; intro h' S' R' U'; (try dsimp only at S' R' U' ⊢))))
local macro_rules | `(tactic| walk_at "noteFrame ref") => `(tactic| (k_here; (rename RaisedS _ _ _ _ _ _ _ _ _ => rsX); (rename CtxAt _ _ => cxX); (with_reducible show wpAny _ _ (noteFrame _ _) (fun _ s₂ => wpAny _ _ (setFlight _ none) (fun _ s₃ => wpAny _ _ (handleBy _ _ (ExceptHandler.ExceptHandler (some _) (some _) [Stmt.Raise (some _) (some _) _] _ :: _)) _ _ s₃) _ s₂) _ _); (k_dflt (focus (refine' catchC (KF := HD.KH _) (bm := [.type "Exception", .type "BaseException", .type "object"]) (newId := "Exception.__new__") ?R ?cx ?F ?K ?U ?XB ?TB ?D ?T0 ?T (fun X' T' => own_of_in X' T' ?O1 ?O2) PySem.F.excBase_Exception ?a1 ?a2 ?a3 ?a4 ?a5 ?harg ?_; (case R => assumption); (case cx => assumption); (case F => assumption); (case K => assumption); (case U => assumption); (case XB => assumption); (case TB => assumption); (case D => assumption); (case T0 => first | assumption | exact KtsTurn.refl); (case T => kts_test); (case O1 => k_is); (case O2 => k_exc); (case a1 => rfl); (case a2 => rfl); (case a3 => rfl); (case a4 => decide); (case a5 => rfl); all_goals (first | (intro h' g' n₂ tk' Qh' Eh' F' N' G' K' X' P' hv') | (intro h' e' t' vs' tk' H')))))))
set_option maxHeartbeats 4000000 in
theorem cut0a {xs : List Int} {n : Nat} {b : Array UInt8} {tm tb : Tok} (hb : KBw.bInts b = xs) (hn : n ≤ 40) (hc : xs.length < 4) :
    LedC 1809 [.int 0 tm, .bytes b tb] [] (fun _ => IsRef) := by
  intro w p loose mean mg mb cn cs a ccd cl base h₀ L m s Q E news B C1 C2 XB TB F KX N off T hk hret
  k_dflt (refine' enterLS (K := HD.KH _) ?k1 ?k2 ?k3 ?k4 ?koff ?k5 ?kA ?kK ?kret ?k6 ?k7 ?k8 ?k9 ?kB ?_ ?c2 ?c3 ?c4 ?c5; (case kret => exact hret); (case kA => exact rfl); (case kK => assumption); (case k1 => k_asm); (case k2 => k_asm); (case k3 => k_asm); (case k4 => exact N); (case koff => exact off); (case k5 => k_asm); (case k6 => k_is); (case k7 => k_is); (case k8 => k_room); (case k9 => exact BindsTo.of_eq rfl); (case c5 => decide); (case kB => exact locs rfl); (case c2 => exact rfl); (case c3 => exact rfl); (case c4 => exact rfl); k_whole; clear hret; intro g' L' h' R' FG' F' N' B' X' T' D' hR; (try dsimp only); (try k_lift B'); (try k_fold))
  clear C1 C2
  k_steps
  all_goals first | exact hR _ _ _ _ 0 [] KtsTurn.refl News.nil ⟨_, rfl⟩ | (rename ∀ (v : Value) (tk' : Nat), _ => hv; exact hv _ _)
end
section
def lawAt (ns : List Int) (k o : Int) : Int := if k < (ns.length : Int) then ns.getD k.toNat 0 else o
set_option maxHeartbeats 4000000 in
theorem atC {lS : Addr} {vs : List Value} {ns : List Int} {k o : Int} {tk to' : Tok} (h0 : 0 ≤ k) (hn : ns.length ≤ 63) : ∀ {w : World} {p : Program} {loose : List Str} {mean : ExcName → Option Value} {mg mb : Str → Option Value} 
    (cn : Str) (cs : Scope) (a : Addr) (ccd : Value) (cl : List (Str × Addr)) (base h₀ : Heap) (L : Addr) (m : Str → Option Value) (s : Shared) (Q E : Value → Shared → Prop) (news : List (Addr × Obj))
    (_ : Below callerA base [] h₀) (_ : Fr h₀ L s.heap m) (_ : (HD.KH w.params).In h₀) (_ : News h₀ L s.heap news) (_ : Top p loose mean mg mb h₀) (_ : cs.kind = .function) (_ : base.IsList lS vs.toArray) (_ : IntsAre vs ns)
    (_ : ∀ (t : Tok) (h' : Heap) (tk' : Nat), Fr h₀ L h' m → News h₀ L h' news → Q (.int (lawAt ns k o) t) { s with heap := h', toks := tk' }),
    wpAny (model PySem.Challenge.pw_vn0017_01 w) (Around.deeper callerA (envX cn cs L a ccd cl)) (call (.ref 1788) [.ref lS, .int k tk, .int o to']) Q E s := by
  intro w p loose mean mg mb cn cs a ccd cl base h₀ L m s Q E news B F KX N T hk hl hi hret
  have N0 : News h₀ L s.heap ([] ++ news) := N
  k_dflt (refine' enterL (K := HD.KH _) (P := fun _ v => ∃ t, v = .int (lawAt ns k o) t) ?k1 ?k2 ?k3 ?k4 ?koff ?k5 ?kA ?kK ?kret ?k6 ?k7 ?k8 ?k9 ?kB ?_ ?c2 ?c3 ?c4 ?c5; (case kret => intro v h' tk' led' F' N' _ x; obtain ⟨t, rfl⟩ := x; exact hret t h' tk' F' (fun q hq => N' q (List.mem_append_right _ hq))); (case kA => exact rfl); (case kK => assumption); (case k1 => k_asm); (case k2 => k_asm); (case k3 => k_asm); (case k4 => exact N0); (case koff => exact fun _ _ => List.not_mem_nil); (case k5 => k_asm); (case k6 => k_is); (case k7 => k_is); (case k8 => k_room); (case k9 => exact BindsTo.of_eq rfl); (case c5 => decide); (case kB => exact locs rfl); (case c2 => exact rfl); (case c3 => exact rfl); (case c4 => exact rfl); k_whole; clear hret; intro g' L' h' R' FG' F' N' B' X' T' hR; (try dsimp only); (try k_lift B'); (try k_fold))
  clear N0
  k_steps
  all_goals exact hR _ _ _ 0 [] News.nil ⟨_, congrArg (fun z => Value.int z _) (by unfold lawAt; first | rw [if_pos (by omega)] | rw [if_neg (by omega)])⟩
end
section
open PySem PySem.W PySem.Calls PyProof.Rows
def Off (a b : List (Addr × Obj)) : Prop := ∀ q ∈ a, q.1 ∉ b.map (·.1)
theorem Off.symm {a b : List (Addr × Obj)} (h : Off a b) : Off b a := fun q hq hm => by
  obtain ⟨z, hz, e⟩ := List.mem_map.mp hm
  exact h z hz (by rw [e]; exact List.mem_map_of_mem hq)
theorem Off.append {a b c : List (Addr × Obj)} (h : Off a c) (k : Off b c) : Off (a ++ b) c := fun q hq => by
  rcases List.mem_append.mp hq with hq | hq
  · exact h q hq
  · exact k q hq
/-- the two code tables, each with what it holds -/
def Tabs (led : List (Addr × Obj)) : Prop := ∃ l1 l2, led = l1 ++ l2 ∧ TabD l1 ∧ TabL l2 ∧ Off l1 l2
/-- a contract at the law's level -/
abbrev LawC (f : Addr) (vs : List Value) (Res : Value → Prop) : Prop := ∀ led, Tabs led → LedC f vs led (fun l v => Tabs l ∧ Res v)
theorem LawC.plain {f : Addr} {vs : List Value} {Res : Value → Prop} (h : LedC f vs [] fun _ v => Res v) : LawC f vs Res := by
  intro led ht w p loose mean mg mb cn cs a ccd cl base h₀ L m s Q E news B C1 C2 XB TB F KX N off T hk hret
  refine h cn cs a ccd cl base h₀ L m s Q E (led ++ news) B C1 C2 XB TB F KX N (fun _ _ => List.not_mem_nil) T hk (fun v h' tk' led' F' N' _ r => ?_)
  exact hret v h' tk' led F' (fun q hq => N' q (List.mem_append_right _ hq)) off ⟨ht, r⟩
theorem LawC.lam {f : Addr} {vs : List Value} {Res : Value → Prop} (h : ∀ l, TabL l → LedC f vs l fun l' v => TabL l' ∧ Res v) : LawC f vs Res := by
  intro led ht w p loose mean mg mb cn cs a ccd cl base h₀ L m s Q E news B C1 C2 XB TB F KX N off T hk hret
  obtain ⟨l1, l2, rfl, t1, t2, o12⟩ := ht
  have o : ∀ q ∈ l1 ++ news, q.1 ∉ l2.map (·.1) := fun q hq => by
    rcases List.mem_append.mp hq with hq | hq
    · exact o12 q hq
    · exact fun hm => off q hq (by rw [List.map_append]; exact List.mem_append_right _ hm)
  have N0 : News h₀ L s.heap (l2 ++ (l1 ++ news)) := News.sub N fun q hq => by
    simp only [List.mem_append] at hq ⊢
    rcases hq with h | h | h
    · exact .inl (.inr h)
    · exact .inl (.inl h)
    · exact .inr h
  refine h l2 t2 cn cs a ccd cl base h₀ L m s Q E (l1 ++ news) B C1 C2 XB TB F KX N0 o T hk (fun v h' tk' led' F' N' o' r => ?_)
  refine hret v h' tk' (l1 ++ led') F' (News.sub N' fun q hq => ?_) (fun q hq hm => ?_) ⟨⟨l1, led', rfl, t1, r.1, fun q hq => o' q (List.mem_append_left _ hq)⟩, r.2⟩
  · simp only [List.mem_append] at hq ⊢
    rcases hq with (h | h) | h
    · exact .inr (.inl h)
    · exact .inl h
    · exact .inr (.inr h)
  · rw [List.map_append] at hm
    rcases List.mem_append.mp hm with hm | hm
    · exact off q hq (by rw [List.map_append]; exact List.mem_append_left _ hm)
    · exact o' q (List.mem_append_right _ hq) hm
theorem LawC.dec {f : Addr} {vs : List Value} {Res : Value → Prop} (h : ∀ l, TabD l → LedC f vs l fun l' v => TabD l' ∧ Res v) : LawC f vs Res := by
  intro led ht w p loose mean mg mb cn cs a ccd cl base h₀ L m s Q E news B C1 C2 XB TB F KX N off T hk hret
  obtain ⟨l1, l2, rfl, t1, t2, o12⟩ := ht
  have o : ∀ q ∈ l2 ++ news, q.1 ∉ l1.map (·.1) := fun q hq => by
    rcases List.mem_append.mp hq with hq | hq
    · exact o12.symm q hq
    · exact fun hm => off q hq (by rw [List.map_append]; exact List.mem_append_left _ hm)
  have N0 : News h₀ L s.heap (l1 ++ (l2 ++ news)) := News.sub N fun q hq => by
    simp only [List.mem_append] at hq ⊢
    rcases hq with h | h | h
    · exact .inl (.inl h)
    · exact .inl (.inr h)
    · exact .inr h
  refine h l1 t1 cn cs a ccd cl base h₀ L m s Q E (l2 ++ news) B C1 C2 XB TB F KX N0 o T hk (fun v h' tk' led' F' N' o' r => ?_)
  refine hret v h' tk' (led' ++ l2) F' (News.sub N' fun q hq => ?_) (fun q hq hm => ?_) ⟨⟨led', l2, rfl, r.1, t2, Off.symm fun q hq => o' q (List.mem_append_left _ hq)⟩, r.2⟩
  · simp only [List.mem_append] at hq ⊢
    rcases hq with (h | h) | h
    · exact .inl h
    · exact .inr (.inl h)
    · exact .inr (.inr h)
  · rw [List.map_append] at hm
    rcases List.mem_append.mp hm with hm | hm
    · exact o' q (List.mem_append_right _ hq) hm
    · exact off q hq (by rw [List.map_append]; exact List.mem_append_right _ hm)
/-- the octets of a piece -/
def rr (mk : Int) (ks : List Int) : List Int := if mk = 0 then r0 ks else if mk = 1 then r1 ks else if mk = 2 then r2 ks else r3 ks
theorem pieceU {mk : Int} {ks : List Int} {b : Array UInt8} {tm tb : Tok} (h0 : 0 ≤ mk) (h4 : mk < 4) (hb : KBw.bInts b = ks) (hn : ks.length ≤ 40) : LawC 1795 [.int mk tm, .bytes b tb] (IsB (rr mk ks)) := by
  have e : mk = 0 ∨ mk = 1 ∨ mk = 2 ∨ mk = 3 := by omega
  rcases e with rfl | rfl | rfl | rfl
  · exact LawC.plain (piece0_ hb hn)
  · exact LawC.plain (piece1_ hb hn)
  · exact LawC.plain (piece2_ hb hn)
  · refine LawC.lam fun l hl => ?_
    rcases hl with rfl | ⟨c, oc, rfl, hc⟩
    · exact piece3f hb hn
    · exact piece3h hb hn hc
end
section
open PySem PySem.W PySem.Calls PyProof.Rows
theorem sl_at {pre r : List Int} {k : Nat} {x y : Int} (hx : x = (pre.length : Int)) (hy : y = (pre.length : Int) + (k : Int)) : sl (pre ++ r) (some x) (some y) = r.take k := by
  subst hx hy
  rw [sl_both (by omega) (by omega)]
  have e1 : ((pre.length : Int) + (k : Int)).toNat = pre.length + k := by omega
  have e2 : (pre.length : Int).toNat = pre.length := by omega
  rw [e1, e2, List.take_length_add_append, List.drop_left]
theorem sl_end {pre r : List Int} {x : Int} (hx : x = (pre.length : Int)) : sl (pre ++ r) (some x) none = r := by
  subst hx
  rw [sl_from (by omega)]
  have e2 : (pre.length : Int).toNat = pre.length := by omega
  rw [e2, List.drop_left]
theorem getD_at {pre r : List Int} {j : Nat} {x : Int} (hx : x = (pre.length : Int) + (j : Int)) : (pre ++ r).getD x.toNat 0 = r.getD j 0 := by
  have e : x.toNat = pre.length + j := by omega
  rw [e, List.getD_eq_getElem?_getD, List.getD_eq_getElem?_getD, List.getElem?_append_right (by omega)]
  congr 2
  omega
theorem LawC.mono {f : Addr} {vs : List Value} {R R' : Value → Prop} (h : LawC f vs R) (k : ∀ v, R v → R' v) : LawC f vs R' := by
  intro led ht w p loose mean mg mb cn cs a ccd cl base h₀ L m s Q E news B C1 C2 XB TB F KX N off T hk hret
  exact h led ht cn cs a ccd cl base h₀ L m s Q E news B C1 C2 XB TB F KX N off T hk (fun v h' tk' led' F' N' o' r => hret v h' tk' led' F' N' o' ⟨r.1, k v r.2⟩)
theorem IsI.cast {j k : Int} (h : j = k) : ∀ v, IsI j v → IsI k v := fun v x => h ▸ x
theorem rr0 (ks : List Int) : rr 0 ks = r0 ks := rfl
theorem rr1 (ks : List Int) : rr 1 ks = r1 ks := rfl
theorem rr2 (ks : List Int) : rr 2 ks = r2 ks := rfl
theorem rr3 (ks : List Int) : rr 3 ks = r3 ks := rfl
theorem r0_len (ks : List Int) : (r0 ks).length = 13 + ks.length := by
  unfold r0
  simp only [List.length_append, List.length_cons, List.length_nil]
  omega
theorem r1_len (ks : List Int) : (r1 ks).length = 2 + ks.length := by
  unfold r1
  simp only [List.length_append, List.length_cons, List.length_nil]
theorem r3_len (ks : List Int) : (r3 ks).length = 2 + ks.length := by
  unfold r3
  simp only [List.length_append, List.length_cons, List.length_nil]
theorem endsU {mk : Int} {pre ks post : List Int} {b : Array UInt8} {tm tb tp : Tok} (h0 : 0 ≤ mk) (h4 : mk < 4) (hb : KBw.bInts b = pre ++ (rr mk ks ++ post)) (hks : ∀ k ∈ ks, 0 ≤ k ∧ k < 256) (hn : ks.length ≤ 40) (hs : (pre ++ (rr mk ks ++ post)).length ≤ 1000) :
    LawC 1802 [.int mk tm, .bytes b tb, .int (pre.length : Int) tp] (IsI ((pre.length : Int) + ((rr mk ks).length : Int))) := by
  have e : mk = 0 ∨ mk = 1 ∨ mk = 2 ∨ mk = 3 := by omega
  rcases e with rfl | rfl | rfl | rfl
  · rw [rr0] at hb hs ⊢
    have hl : pre.length + (13 + ks.length) ≤ (pre ++ (r0 ks ++ post)).length := by
      rw [List.length_append, List.length_append, r0_len]
      omega
    refine LawC.mono (LawC.plain (ends0_ hb hn hl hs ((sl_at (k := 4) rfl rfl).trans ?_))) (IsI.cast ?_)
    · rfl
    · rw [r0_len]
      omega
  · rw [rr1] at hb hs ⊢
    have hl : pre.length + (2 + ks.length) ≤ (pre ++ (r1 ks ++ post)).length := by
      rw [List.length_append, List.length_append, r1_len]
      omega
    refine LawC.mono (LawC.plain (ends1_ hb hn hl hs (sl_end rfl) ?_ ?_ rfl rfl)) (IsI.cast ?_)
    · rw [List.length_append, r1_len]
      omega
    · rw [List.length_append, List.length_append] at hs
      rw [List.length_append]
      omega
    · rw [r1_len]
      omega
  · rw [rr2] at hb hs ⊢
    by_cases hc : ks.length = 1 ∧ ks.getD 0 0 < 128
    · have e2 : r2 ks = ks := if_pos hc
      rw [e2] at hb hs ⊢
      have hl : pre.length + 1 ≤ (pre ++ (ks ++ post)).length := by
        rw [List.length_append, List.length_append, hc.1]
        omega
      refine LawC.mono (LawC.plain (ends2b hb hl hs (z := ks.getD 0 0) ?_ hc.2)) (IsI.cast ?_)
      · rw [getD_at (j := 0) (by omega)]
        obtain ⟨x, rfl⟩ : ∃ x, ks = [x] := List.length_eq_one_iff.mp hc.1
        rfl
      · rw [hc.1]
        rfl
    · have e2 : r2 ks = (128 + (ks.length : Int)) :: ks := if_neg hc
      rw [e2] at hb hs ⊢
      have hl : pre.length + (1 + ks.length) ≤ (pre ++ ((128 + (ks.length : Int)) :: ks ++ post)).length := by
        rw [List.length_append, List.length_append, List.length_cons]
        omega
      refine LawC.mono (LawC.plain (ends2_ (n := ks.length) hb hn hl hs ?_ rfl ?_)) (IsI.cast ?_)
      · rw [getD_at (j := 0) (by omega)]
        rfl
      · intro h1
        rw [getD_at (j := 1) (by omega)]
        obtain ⟨x, rfl⟩ : ∃ x, ks = [x] := List.length_eq_one_iff.mp h1
        have : ¬ x < 128 := fun z => hc ⟨rfl, z⟩
        show 128 ≤ x
        omega
      · rw [List.length_cons]
        omega
  · rw [rr3] at hb hs ⊢
    have hl : pre.length + (2 + ks.length) ≤ (pre ++ (r3 ks ++ post)).length := by
      rw [List.length_append, List.length_append, r3_len]
      omega
    have g0 : (pre ++ (r3 ks ++ post)).getD (Int.toNat (pre.length : Int)) 0 = 26 := by
      rw [getD_at (j := 0) (by omega)]
      rfl
    have g1 : (pre ++ (r3 ks ++ post)).getD (Int.toNat ((pre.length : Int) + 1)) 0 = (ks.length : Int) := by
      rw [getD_at (j := 1) (by omega)]
      rfl
    refine LawC.mono (LawC.dec fun l hd => ?_) (IsI.cast (j := (pre.length : Int) + (2 + (ks.length : Int))) ?_)
    · rcases hd with rfl | ⟨c, oc, rfl, hc⟩
      · exact ends3f hb hn hl hs g0 g1
      · exact ends3h hb hn hl hs g0 g1 hc
    · rw [r3_len]
      omega
end
section
open PySem PySem.W PySem.Calls PyProof.Rows
theorem insideU {mk : Int} {ks : List Int} {b : Array UInt8} {tm tb : Tok} (h0 : 0 ≤ mk) (h4 : mk < 4) (hb : KBw.bInts b = rr mk ks) (hks : ∀ k ∈ ks, 0 ≤ k ∧ k < 256) (hn : ks.length ≤ 40) : LawC 1809 [.int mk tm, .bytes b tb] (IsB ks) := by
  have e : mk = 0 ∨ mk = 1 ∨ mk = 2 ∨ mk = 3 := by omega
  have hband : Builtin.bitAnd (ks.length : Int) 127 = ks.length := band127 (by omega) (by omega)
  rcases e with rfl | rfl | rfl | rfl
  · rw [rr0] at hb
    have x5 : r0 ks = [13 + (ks.length : Int), 0, 0, 0, 5] ++ ([112, 0, (ks.length : Int), 0, 0, 0, 0] ++ (ks ++ [0])) := by simp [r0]
    have x7 : r0 ks = [13 + (ks.length : Int), 0, 0, 0, 5, 112, 0] ++ ([(ks.length : Int), 0, 0, 0, 0] ++ (ks ++ [0])) := by simp [r0]
    have x11 : r0 ks = [13 + (ks.length : Int), 0, 0, 0, 5, 112, 0, (ks.length : Int), 0, 0, 0] ++ ([0] ++ (ks ++ [0])) := by simp [r0]
    have x12 : r0 ks = [13 + (ks.length : Int), 0, 0, 0, 5, 112, 0, (ks.length : Int), 0, 0, 0, 0] ++ (ks ++ [0]) := by simp [r0]
    have x13 : r0 ks = ([13 + (ks.length : Int), 0, 0, 0, 5, 112, 0, (ks.length : Int), 0, 0, 0, 0] ++ ks) ++ [0] := by simp [r0]
    refine LawC.plain (inside0 hb hn (r0_len ks) ?_ ?_ ?_ ?_ ?_ ?_ ?_ ?_ ?_)
    · exact (sl_at (pre := []) (k := 4) rfl rfl).trans rfl
    · rw [x13]
      exact (getD_at (j := 0) (by simp only [List.length_append, List.length_cons, List.length_nil]; omega)).trans rfl
    · rfl
    · rfl
    · rfl
    · rw [x5]
      exact (sl_at (k := 1) rfl rfl).trans rfl
    · rw [x7]
      exact (sl_at (k := 4) rfl rfl).trans rfl
    · rw [x11]
      exact (sl_at (k := 1) rfl rfl).trans rfl
    · rw [x12]
      exact (sl_at (k := ks.length) rfl rfl).trans List.take_left
  · rw [rr1] at hb
    refine LawC.plain (inside1 hb hn (r1_len ks) rfl rfl ?_)
    rw [hband]
    refine (sl_at (pre := [4, (ks.length : Int)]) (r := ks) (k := ks.length) rfl ?_).trans (List.take_length)
    show (0 + 1 + 1 + (ks.length : Int) - 0) = _
    simp
  · rw [rr2] at hb
    by_cases hc : ks.length = 1 ∧ ks.getD 0 0 < 128
    · have e2 : r2 ks = ks := if_pos hc
      rw [e2] at hb
      obtain ⟨x, rfl⟩ : ∃ x, ks = [x] := List.length_eq_one_iff.mp hc.1
      exact LawC.plain (inside2b hb rfl (z := x) rfl hc.2 rfl)
    · have e2 : r2 ks = (128 + (ks.length : Int)) :: ks := if_neg hc
      rw [e2] at hb
      refine LawC.plain (inside2 (n := ks.length) hb hn (by rw [List.length_cons]; omega) rfl rfl ?_ ?_ ?_ rfl)
      · intro h1
        obtain ⟨x, rfl⟩ : ∃ x, ks = [x] := List.length_eq_one_iff.mp h1
        have : ¬ x < 128 := fun z => hc ⟨rfl, z⟩
        show 128 ≤ x
        omega
      · exact (sl_at (pre := []) (k := 1) rfl rfl).trans rfl
      · exact (sl_at (pre := [128 + (ks.length : Int)]) (r := ks) (k := ks.length) rfl (by show _ = (1 : Int) + _; omega)).trans List.take_length
  · rw [rr3] at hb
    have f0 : sl (r3 ks) (some 0) (some (0 + 1)) = [26] := (sl_at (pre := []) (k := 1) rfl rfl).trans rfl
    have f1 : sl (r3 ks) (some (0 + 1 + 1)) none = ks := sl_end (pre := [26, (ks.length : Int)]) rfl
    refine LawC.dec fun l hd => ?_
    rcases hd with rfl | ⟨c, oc, rfl, hc⟩
    · exact inside3f hb hn (r3_len ks) rfl rfl f0 f1
    · exact inside3h hb hn (r3_len ks) rfl rfl f0 f1 hc
/-- a piece that is cut is refused; the case of a BSON piece of one to three octets is still a premise here -/
theorem cutU {mk : Int} {ks : List Int} {c : Nat} {b : Array UInt8} {tm tb : Tok} (H : ∀ {xs : List Int} {n : Nat} {b : Array UInt8} {tm tb : Tok}, KBw.bInts b = xs → n ≤ 40 → xs.length < 4 → LedC 1809 [.int 0 tm, .bytes b tb] [] (fun _ => IsRef))
    (h0 : 0 ≤ mk) (h4 : mk < 4) (hb : KBw.bInts b = (rr mk ks).take c) (hks : ∀ k ∈ ks, 0 ≤ k ∧ k < 256) (hn : ks.length ≤ 40) (hc0 : 0 < c) (hc1 : c < (rr mk ks).length) : LawC 1809 [.int mk tm, .bytes b tb] IsRef := by
  have e : mk = 0 ∨ mk = 1 ∨ mk = 2 ∨ mk = 3 := by omega
  rcases e with rfl | rfl | rfl | rfl
  · rw [rr0] at hb hc1
    rw [r0_len] at hc1
    have hl : ((r0 ks).take c).length = c := by rw [List.length_take, r0_len]; omega
    by_cases h : c < 4
    · exact LawC.plain (H hb hn (by rw [hl]; exact h))
    · refine LawC.plain (cut0b hb hn (by omega) (by omega) ?_)
      obtain ⟨d, rfl⟩ : ∃ d, c = d + 4 := ⟨c - 4, by omega⟩
      exact (sl_at (pre := []) (k := 4) rfl rfl).trans rfl
  · rw [rr1] at hb hc1
    rw [r1_len] at hc1
    have hl : ((r1 ks).take c).length = c := by rw [List.length_take, r1_len]; omega
    by_cases h : c = 1
    · subst h
      exact LawC.plain (cut1a hb hn hl rfl)
    · obtain ⟨d, rfl⟩ : ∃ d, c = d + 2 := ⟨c - 2, by omega⟩
      exact LawC.plain (cut1b hb hn (by omega) (by omega) rfl rfl)
  · rw [rr2] at hb hc1
    by_cases hc : ks.length = 1 ∧ ks.getD 0 0 < 128
    · have e2 : r2 ks = ks := if_pos hc
      rw [e2, hc.1] at hc1
      omega
    · have e2 : r2 ks = (128 + (ks.length : Int)) :: ks := if_neg hc
      rw [e2] at hb hc1
      rw [List.length_cons] at hc1
      have hl : (((128 + (ks.length : Int)) :: ks).take c).length = c := by rw [List.length_take, List.length_cons]; omega
      obtain ⟨d, rfl⟩ : ∃ d, c = d + 1 := ⟨c - 1, by omega⟩
      by_cases h : ks.length = 1
      · exact LawC.plain (cut2a (n := ks.length) hb hn (by omega) h rfl)
      · refine LawC.plain (cut2b (n := ks.length) hb hn (by omega) (by omega) h rfl rfl rfl ?_ ?_)
        · exact Nat.le_trans (sl_len _ _ _) (by omega)
        · exact Nat.le_trans (sl_len _ _ _) (by omega)
  · rw [rr3] at hb hc1
    rw [r3_len] at hc1
    have hl : ((r3 ks).take c).length = c := by rw [List.length_take, r3_len]; omega
    refine LawC.dec fun l hd => ?_
    by_cases h : c = 1
    · subst h
      rcases hd with rfl | ⟨c, oc, rfl, hc⟩
      · exact cut3af hb hn hl rfl
      · exact cut3ah hb hn hl rfl hc
    · obtain ⟨d, rfl⟩ : ∃ d, c = d + 2 := ⟨c - 2, by omega⟩
      have f0 : sl ((r3 ks).take (d + 2)) (some 0) (some (0 + 1)) = [26] := (sl_at (pre := []) (k := 1) rfl rfl).trans rfl
      rcases hd with rfl | ⟨c, oc, rfl, hc⟩
      · exact cut3bf hb hn (by omega) (by omega) rfl rfl f0
      · exact cut3bh hb hn (by omega) (by omega) rfl rfl f0 hc
end
section
theorem News.drop2 {h₀ h : Heap} {L : Addr} {a b c : Addr × Obj} {r : List (Addr × Obj)} (N : News h₀ L h (a :: b :: c :: r)) : News h₀ L h (a :: r) := fun p hp => by
  rcases List.mem_cons.mp hp with rfl | hp
  · exact N _ (.head _)
  · exact N _ (.tail _ (.tail _ (.tail _ hp)))
def forBody : Stmt → List Stmt
  | .For _ _ b _ _ => b
  | _ => []
def lawS (k : Nat) : Stmt := (HD.fB (HD.d 211)).getD k (.Pass ⟨0, 0, 0, 0⟩)
def num (ns : List Int) (k : Int) : Int := lawAt ns (1 + k) (([0, 21, 162, 83, 4, 41, 2, 3] : List Int).getD k.toNat 0)
def octs (m : Int) : List Int := List.map (fun k' => (m.fdiv 4 + 3 * k').fmod 256) (rangeKs 0 ((m.fdiv 8).fmod 41 - 0).toNat)
abbrev tup2 (x : Int) (t : Tok) (b : Array UInt8) (u : Tok) : Obj := { cls := .type "tuple", data := .seq #[.int x t, .bytes b u] }
def m1 (lS lR : Addr) (kv : Option Value) : Str → Option Value := fun y => if y = HD.n "k" then kv else if y = HD.n "rows" then some (.ref lR) else if y = HD.n "script" then some (.ref lS) else none
local macro_rules | `(tactic| k_all) => `(tactic| (tbn_letter; with_reducible assumption))
local macro_rules | `(tactic| walk_at "call ref") => `(tactic| (k_here; (with_reducible show wpAny _ _ (call (Value.ref 1788) _) _ _ _); k_dflt (refine' atC ?k0 ?kn _ _ _ _ _ _ _ _ _ _ _ _ _ ?k1 ?k2 ?k3 ?k4 ?k5 ?k6 ?k7 ?k8 ?_; (case k0 => omega); (case kn => omega); (case k1 => assumption); (case k2 => k_asm); (case k3 => k_asm); (case k4 => k_asm); (case k5 => k_asm); (case k6 => exact rfl); (case k7 => assumption); (case k8 => assumption); k_whole; intro t' h' tk' F' N')))
local macro_rules | `(tactic| walk_at "call builtin:list.append") => `(tactic| (k_here; (with_reducible show wpAny _ _ (call (Value.builtin _) [Value.ref _, _]) _ _ _); k_dflt (refine' append_K ?k1 ?k2 ?k3 ?_ ?z; (case k1 => k_asm); (case k2 => k_asm); (case k3 => k_upd); (case z => rw [sizeLine_eq, List.size_toArray]; omega); k_whole); intro h' F' N'; (try k_sweep)))
set_option maxHeartbeats 4000000 in
theorem body1W {w : World} {p : Program} {loose : List Str} {mean : ExcName → Option Value} {mg mb : Str → Option Value} (base : Heap) (s : Shared) (L fa : Addr) (cd : Value) (Q : Flow → Shared → Prop) (E : Value → Shared → Prop) (tail : List (Addr × Obj)) (lS lR : Addr) (vs : List Value) (ns : List Int)
    (B : Below callerA base [] base) (X : (HD.KH w.params).In base) (T : Top p loose mean mg mb base)
    (hl : base.IsList lS vs.toArray) (hi : IntsAre vs ns) (hn : ns.length ≤ 63) (items : List Value) (hit : items.length ≤ 100) (nR : Nat) (o1 o2 o3 : Obj) (k : Int) (t : Tok) (hk0 : 0 ≤ k) (hk8 : k < 8) (v1 : Option Value) (d1 : o1.data = .cell v1)
    (F : Fr base L s.heap (m1 lS lR (some (.int k t)))) (N : News base L s.heap ((lR, listOf items.toArray nR) :: (L + 1, o1) :: (L + 2, o2) :: (L + 3, o3) :: tail)) (hLR : @LT.lt Nat _ (L + 3) lR) (ht1 : ∀ q ∈ tail, q.1 ≠ L + 1) (htR : ∀ q ∈ tail, q.1 ≠ lR)
    (hQ : ∀ (h' : Heap) (tk' : Nat) (D : Addr) (t1 t2 : Tok) (b : Array UInt8) (o1' : Obj) (v1' : Option Value), Fr base L h' (m1 lS lR (some (.int k t))) →
      News base L h' ((D, tup2 ((num ns k).fmod 4) t1 b t2) :: (lR, listOf (items.toArray.push (.ref D)) (nR + 1)) :: (L + 1, o1') :: (L + 2, o2) :: (L + 3, o3) :: tail) → o1'.data = .cell v1' → KBw.bInts b = octs (num ns k) → @LT.lt Nat _ lR D → AllLt D tail →
      Q .next { s with heap := h', toks := tk' }) :
    wpAny (model PySem.Challenge.pw_vn0017_01 w) (Around.deeper callerA (envOfC (HD.n "law") (HD.fS (HD.d 211)) L fa cd)) (execs (forBody (lawS 1)) (envOfC (HD.n "law") (HD.fS (HD.d 211)) L fa cd)) Q E s := by
  unfold m1 at F
  k_steps
  rename Fr _ _ _ _ => kF
  rename News _ _ _ _ => kN
  refine' hQ _ _ _ _ _ _ _ _ kF (News.drop2 kN) ?d (KBa.ints_make ?i) ?lt ?all
  case d => assumption
  case i => assumption
  case lt => omega
  case all => tbn_find
end
section
def rowsTo (ns : List Int) : Nat → List (Int × List Int)
  | 0 => []
  | i + 1 => rowsTo ns i ++ [((num ns (i : Int)).fmod 4, octs (num ns (i : Int)))]
theorem rowsTo_len (ns : List Int) : ∀ i, (rowsTo ns i).length = i
  | 0 => rfl
  | i + 1 => by
    show (rowsTo ns i ++ [_]).length = _
    rw [List.length_append, rowsTo_len ns i]
    rfl
def RowsAt (T : List (Addr × Obj)) : List Value → List (Int × List Int) → Prop
  | [], [] => True
  | v :: vs, r :: rs => (∃ D t1 b t2, v = .ref D ∧ (D, tup2 r.1 t1 b t2) ∈ T ∧ KBw.bInts b = r.2) ∧ RowsAt T vs rs
  | _, _ => False
theorem RowsAt.mono {T T' : List (Addr × Obj)} (h : ∀ q ∈ T, q ∈ T') : ∀ {vs : List Value} {rs : List (Int × List Int)}, RowsAt T vs rs → RowsAt T' vs rs
  | [], [], _ => trivial
  | _ :: _, _ :: _, ⟨⟨D, t1, b, t2, e, m, k⟩, x⟩ => ⟨⟨D, t1, b, t2, e, h _ m, k⟩, x.mono h⟩
  | [], _ :: _, x => x.elim
  | _ :: _, [], x => x.elim
theorem RowsAt.len {T : List (Addr × Obj)} : ∀ {vs : List Value} {rs : List (Int × List Int)}, RowsAt T vs rs → vs.length = rs.length
  | [], [], _ => rfl
  | _ :: _, _ :: _, ⟨_, x⟩ => by rw [List.length_cons, List.length_cons, x.len]
  | [], _ :: _, x => x.elim
  | _ :: _, [], x => x.elim
theorem RowsAt.snoc {T : List (Addr × Obj)} {D : Addr} {t1 t2 : Tok} {b : Array UInt8} {r : Int × List Int} (hm : (D, tup2 r.1 t1 b t2) ∈ T) (hb : KBw.bInts b = r.2) : ∀ {vs : List Value} {rs : List (Int × List Int)}, RowsAt T vs rs → RowsAt T (vs ++ [.ref D]) (rs ++ [r])
  | [], [], _ => ⟨⟨D, t1, b, t2, rfl, hm, hb⟩, trivial⟩
  | _ :: _, _ :: _, ⟨y, x⟩ => ⟨y, x.snoc hm hb⟩
  | [], _ :: _, x => x.elim
  | _ :: _, [], x => x.elim
theorem m1_k (lS lR : Addr) (kv v : Option Value) : (fun y => if y = HD.n "k" then v else m1 lS lR kv y) = m1 lS lR v := by
  funext y
  unfold m1
  by_cases h : y = HD.n "k"
  · rw [if_pos h, if_pos h]
  · rw [if_neg h, if_neg h, if_neg h]
theorem neL {a b : Addr} (h : @LT.lt Nat _ a b) : a ≠ b := Nat.ne_of_lt h
theorem neG {a b : Addr} (h : @LT.lt Nat _ b a) : a ≠ b := Nat.ne_of_gt h
/-- the rows so far -/
def St1 (base : Heap) (L lS lR : Addr) (ns : List Int) (led : List (Addr × Obj)) (o2 o3 : Obj) (i : Nat) (h : Heap) : Prop :=
  ∃ items nR o1 v1 tups kv, Fr base L h (m1 lS lR kv) ∧ News base L h ((lR, listOf items.toArray nR) :: (L + 1, o1) :: (L + 2, o2) :: (L + 3, o3) :: (tups ++ led)) ∧ o1.data = .cell v1 ∧ RowsAt tups items (rowsTo ns i) ∧ ∀ q ∈ tups, @LT.lt Nat _ lR q.1
theorem loop1 {w : World} {p : Program} {loose : List Str} {mean : ExcName → Option Value} {mg mb : Str → Option Value} (base : Heap) (s : Shared) (L fa : Addr) (cd : Value) (Q : Flow → Shared → Prop) (E : Value → Shared → Prop) (led : List (Addr × Obj)) (lS lR I : Addr) (vs : List Value) (ns : List Int)
    (B : Below callerA base [] base) (X : (HD.KH w.params).In base) (T : Top p loose mean mg mb base)
    (hl : base.IsList lS vs.toArray) (hi : IntsAre vs ns) (hn : ns.length ≤ 63) (o2 o3 : Obj) (R : Nat) (hR : R ≤ 8) (hLR : @LT.lt Nat _ (L + 3) lR) (hI : @LT.lt Nat _ lR I) (hled : ∀ q ∈ led, @LT.lt Nat _ q.1 L)
    (hdone : ∀ h tk, St1 base L lS lR ns led o2 o3 R h → Q .next { s with heap := h, toks := tk }) :
    ∀ (k i : Nat), i + k = R → ∀ (items : List Value) (nR : Nat) (o1 : Obj) (v1 kv : Option Value) (tups : List (Addr × Obj)), o1.data = .cell v1 → RowsAt tups items (rowsTo ns i) → (∀ q ∈ tups, @LT.lt Nat _ lR q.1) → (∀ q ∈ tups, q.1 ≠ I) →
      RangeRest PySem.Challenge.pw_vn0017_01 w (Around.deeper callerA (envOfC (HD.n "law") (HD.fS (HD.d 211)) L fa cd)) E base (envOfC (HD.n "law") (HD.fS (HD.d 211)) L fa cd) (HD.n "k") (forBody (lawS 1)) Q s I 0 R k i (m1 lS lR kv) ((lR, listOf items.toArray nR) :: (L + 1, o1) :: (L + 2, o2) :: (L + 3, o3) :: (tups ++ led)) := by
  intro k
  induction k with
  | zero =>
    intro i hik items nR o1 v1 kv tups d1 hr ht hti
    have e : i = R := by omega
    subst e
    exact RangeRest.zero fun h tk F N => hdone h tk ⟨items, nR, o1, v1, tups, kv, F, N, d1, hr, ht⟩
  | succ k ih =>
    intro i hik items nR o1 v1 kv tups d1 hr ht hti
    refine RangeRest.succ fun t h tk F N => ?_
    have F' : Fr base L h (m1 lS lR (some (.int (0 + (i : Int)) t))) := by
      have := F
      rw [m1_k] at this
      exact this
    have hlen : items.length = i := by rw [hr.len, rowsTo_len]
    have hneI : ∀ q ∈ ((I, itR (0 + ((i + 1 : Nat) : Int)) ((R : Int) - ((i + 1 : Nat) : Int))) :: (tups ++ led)), q.1 ≠ L + 1 ∧ q.1 ≠ lR := fun q hq => by
      rcases List.mem_cons.mp hq with rfl | hq
      · exact ⟨neG (by omega), neG hI⟩
      · rcases List.mem_append.mp hq with hq | hq
        · have := ht q hq
          exact ⟨neG (by omega), neG this⟩
        · have := hled q hq
          exact ⟨neL (by omega), neL (by omega)⟩
    refine body1W base { s with heap := h, toks := tk } L fa cd _ E _ lS lR vs ns B X T hl hi hn items (by omega) nR o1 o2 o3 (0 + (i : Int)) t (by omega) (by omega) v1 d1 F'
      (News.sub (b := (lR, listOf items.toArray nR) :: (L + 1, o1) :: (L + 2, o2) :: (L + 3, o3) :: (I, itR (0 + ((i + 1 : Nat) : Int)) ((R : Int) - ((i + 1 : Nat) : Int))) :: (tups ++ led)) N (fun q hq => ?_)) hLR (fun q hq => (hneI q hq).1) (fun q hq => (hneI q hq).2) (fun h' tk' D t1 t2 b o1' v1' F₂ N₂ d1' hb hD hall => ?_)
    · simp only [List.mem_cons] at hq ⊢
      rcases hq with h1 | h1 | h1 | h1 | h1 | h1
      · exact .inr (.inl h1)
      · exact .inr (.inr (.inl h1))
      · exact .inr (.inr (.inr (.inl h1)))
      · exact .inr (.inr (.inr (.inr (.inl h1))))
      · exact .inl h1
      · exact .inr (.inr (.inr (.inr (.inr h1))))
    · have hID : @LT.lt Nat _ I D := tb_ltOf hall (I, itR (0 + ((i + 1 : Nat) : Int)) ((R : Int) - ((i + 1 : Nat) : Int))) (.head _)
      have e0 : (0 : Int) + (i : Int) = (i : Int) := by omega
      rw [e0] at N₂ hb
      have hrow : RowsAt ((D, tup2 ((num ns (i : Int)).fmod 4) t1 b t2) :: tups) (items ++ [.ref D]) (rowsTo ns (i + 1)) :=
        RowsAt.snoc (r := ((num ns (i : Int)).fmod 4, octs (num ns (i : Int)))) (.head _) hb (hr.mono fun q hq => .tail _ hq)
      have hpush : items.toArray.push (Value.ref D) = (items ++ [Value.ref D]).toArray := by simp
      rw [hpush] at N₂
      have hr' := ih (i + 1) (by omega) (items ++ [.ref D]) (nR + 1) o1' v1' (some (.int (0 + (i : Int)) t)) ((D, tup2 ((num ns (i : Int)).fmod 4) t1 b t2) :: tups) d1' hrow
        (fun q hq => by
          rcases List.mem_cons.mp hq with rfl | hq
          · exact hD
          · exact ht q hq)
        (fun q hq => by
          rcases List.mem_cons.mp hq with rfl | hq
          · exact neG hID
          · exact hti q hq)
      show UnrEnd _ _ _ _ _ _ _
      refine UnrEnd.intro F₂ N₂ _ (fun q hq => ?_) (fun q hq => ?_) hr'
      · simp only [List.mem_cons, List.mem_append, List.cons_append] at hq ⊢
        rcases hq with h1 | h1 | h1 | h1 | h1 | h1 | h1
        · exact .inr (.inr (.inr (.inr (.inr (.inl h1)))))
        · exact .inr (.inl h1)
        · exact .inr (.inr (.inl h1))
        · exact .inr (.inr (.inr (.inl h1)))
        · exact .inr (.inr (.inr (.inr (.inl h1))))
        · exact .inl h1
        · exact .inr (.inr (.inr (.inr (.inr (.inr h1)))))
      · simp only [List.mem_cons, List.mem_append, List.cons_append] at hq
        rcases hq with h1 | h1 | h1 | h1 | h1 | h1 | h1
        · rw [h1]; exact neL hI
        · rw [h1]; exact neL (by omega)
        · rw [h1]; exact neL (by omega)
        · rw [h1]; exact neL (by omega)
        · rw [h1]; exact neG hID
        · exact hti q h1
        · have := hled q h1
          exact neL (by omega)
end
section
def tlS : List Stmt → List Stmt
  | [] => []
  | _ :: l => l
def lawB : Nat → List Stmt
  | 0 => HD.fB (HD.d 211)
  | k + 1 => tlS (lawB k)
theorem m1_none (lS lR : Addr) : (fun y => if y = HD.n "rows" then some (.ref lR) else if y = HD.n "script" then some (.ref lS) else none) = m1 lS lR none := by
  funext y
  unfold m1
  by_cases h : y = HD.n "k"
  · subst h
    rfl
  · rw [if_neg h]
theorem rngS {N : Int} {R : Nat} (h : N = (R : Int)) (hR : R ≤ 100) : Builtin.Range.rangeSize 0 N 1 = (R : Int) := by
  subst h
  unfold Builtin.Range.rangeSize
  rw [if_pos (by decide)]
  by_cases h0 : (0 : Int) < (R : Int)
  · rw [if_pos h0]
    omega
  · rw [if_neg h0]
    omega
theorem rngSs {N : Int} {R : Nat} (h : N = (R : Int)) (hR : R ≤ 100) : Builtin.Range.small 0 N 1 = true := by
  unfold Builtin.Range.small
  rw [rngS h hR, fitsL (i := 0) (by omega) (by omega), fitsL (i := N) (by omega) (by omega), fitsL (i := 1) (by omega) (by omega), fitsL (i := (R : Int)) (by omega) (by omega), if_pos (by decide), fitsL (by omega) (by omega), Bool.or_true]
  rfl
theorem loop1s {w : World} {p : Program} {loose : List Str} {mean : ExcName → Option Value} {mg mb : Str → Option Value} (base : Heap) (s : Shared) (L fa : Addr) (cd : Value) (Q : Flow → Shared → Prop) (E : Value → Shared → Prop) (led : List (Addr × Obj)) (lS lR I : Addr) (vs : List Value) (ns : List Int)
    (B : Below callerA base [] base) (X : (HD.KH w.params).In base) (T : Top p loose mean mg mb base)
    (hl : base.IsList lS vs.toArray) (hi : IntsAre vs ns) (hn : ns.length ≤ 63) (o2 o3 : Obj) (R : Nat) (hR : R ≤ 8) (hLR : @LT.lt Nat _ (L + 3) lR) (hI : @LT.lt Nat _ lR I) (hled : ∀ q ∈ led, @LT.lt Nat _ q.1 L)
    (hdone : ∀ h tk, St1 base L lS lR ns led o2 o3 R h → Q .next { s with heap := h, toks := tk }) {m : Str → Option Value} (hm : m = m1 lS lR none) (o1 : Obj) (v1 : Option Value) (d1 : o1.data = .cell v1) :
    RangeRest PySem.Challenge.pw_vn0017_01 w (Around.deeper callerA (envOfC (HD.n "law") (HD.fS (HD.d 211)) L fa cd)) E base (envOfC (HD.n "law") (HD.fS (HD.d 211)) L fa cd) (HD.n "k") (forBody (lawS 1)) Q s I 0 R R 0 m ((lR, listOf #[] 0) :: (L + 1, o1) :: (L + 2, o2) :: (L + 3, o3) :: led) := by
  subst hm
  exact loop1 base s L fa cd Q E led lS lR I vs ns B X T hl hi hn o2 o3 R hR hLR hI hled hdone R 0 (by omega) [] 0 o1 v1 none [] d1 trivial (fun _ h => by cases h) (fun _ h => by cases h)
local macro_rules | `(tactic| walk_at "exec For Name Call cons nil") => `(tactic| (k_here; (rename Fr _ _ _ _ => lF'); (with_unfolding_all refine' For_invVF lF' ?k1 ?k2 ?_ ?hs ?hE; (case k1 => exact rfl); (case k2 => exact rfl); (case hs => intro _; rfl); (case hE => assumption); k_whole)))
local macro_rules | `(tactic| walk_at "call ref") => `(tactic| (k_here; (with_reducible show wpAny _ _ (call (Value.ref 1788) _) _ _ _); k_dflt (refine' atC ?k0 ?kn _ _ _ _ _ _ _ _ _ _ _ _ _ ?k1 ?k2 ?k3 ?k4 ?k5 ?k6 ?k7 ?k8 ?_; (case k0 => omega); (case kn => omega); (case k1 => assumption); (case k2 => k_asm); (case k3 => k_asm); (case k4 => k_asm); (case k5 => k_asm); (case k6 => exact rfl); (case k7 => assumption); (case k8 => assumption); k_whole; intro t' h' tk' F' N')))
local macro_rules | `(tactic| walk_at "call type:range") => `(tactic| ((with_reducible show wpAny _ _ (call _ [_]) _ _ _); k_here; (rename Fr _ _ _ _ => F'); (rename News _ _ _ _ => N'); (with_unfolding_all refine range1_rows F' N' ?_; intro _ _ _ _ _ _ _ _ _)))
set_option maxHeartbeats 4000000 in
theorem stageA {w : World} {p : Program} {loose : List Str} {mean : ExcName → Option Value} {mg mb : Str → Option Value} (base : Heap) (s : Shared) (L fa : Addr) (cd : Value) (Q : Flow → Shared → Prop) (E : Value → Shared → Prop) (led : List (Addr × Obj)) (lS : Addr) (R : Nat) (vs : List Value) (ns : List Int)
    (B : Below callerA base [] base) (X : (HD.KH w.params).In base) (T : Top p loose mean mg mb base)
    (hl : base.IsList lS vs.toArray) (hi : IntsAre vs ns) (hn : ns.length ≤ 63) (hR8 : R ≤ 8) (hRe : 1 + (lawAt ns 0 5).fmod 8 = (R : Int)) (o1 o2 o3 : Obj) (v1 : Option Value) (d1 : o1.data = .cell v1)
    (F : Fr base L s.heap (fun y => if y = HD.n "script" then some (.ref lS) else none)) (N : News base L s.heap ((L + 1, o1) :: (L + 2, o2) :: (L + 3, o3) :: led)) (hled : ∀ q ∈ led, @LT.lt Nat _ q.1 L) (hE : PassesOwn (model PySem.Challenge.pw_vn0017_01 w) (Around.deeper callerA (envOfC (HD.n "law") (HD.fS (HD.d 211)) L fa cd)) (envOfC (HD.n "law") (HD.fS (HD.d 211)) L fa cd) E)
    (hnext : ∀ h tk lR, @LT.lt Nat _ (L + 3) lR → St1 base L lS lR ns led o2 o3 R h → wpAny (model PySem.Challenge.pw_vn0017_01 w) (Around.deeper callerA (envOfC (HD.n "law") (HD.fS (HD.d 211)) L fa cd)) (execs (lawB 2) (envOfC (HD.n "law") (HD.fS (HD.d 211)) L fa cd)) Q E { s with heap := h, toks := tk }) :
    wpAny (model PySem.Challenge.pw_vn0017_01 w) (Around.deeper callerA (envOfC (HD.n "law") (HD.fS (HD.d 211)) L fa cd)) (execs (HD.fB (HD.d 211)) (envOfC (HD.n "law") (HD.fS (HD.d 211)) L fa cd)) Q E s := by
  have hR1 := rngSs hRe (by omega)
  have hR2 := rngS hRe (by omega)
  k_steps
  k_dflt (refine' loop1s base _ L fa cd _ E led lS _ _ vs ns B X T hl hi hn o2 o3 R hR8 ?hLR ?hI hled ?hdone (m1_none lS _) o1 v1 d1)
  case hLR => omega
  case hI => omega
  case hdone =>
    intro h tk st
    refine hnext h tk _ ?_ st
    omega
end
section
def asgV : Stmt → Expr
  | .Assign _ v _ => v
  | _ => .Name (HD.n "") ⟨0, 0, 0, 0⟩
def lcElt : Expr → Expr
  | .ListComp e _ _ _ => e
  | x => x
def lcScope : Expr → Scope
  | .ListComp _ _ s _ => s
  | _ => default
theorem pieceCallK {w : World} {p : Program} {loose : List Str} {mean : ExcName → Option Value} {mg mb : Str → Option Value} {cn : Str} {cs : Scope} {a : Addr} {ccd : Value} {cl : List (Str × Addr)} {base h₀ : Heap} {L : Addr} {m : Str → Option Value} {s : Shared} {Q E : Value → Shared → Prop}
    {c : Addr × Obj} {led news : List (Addr × Obj)} {mk : Int} {ks : List Int} {b : Array UInt8} {tm tb : Tok}
    (B : Below callerA base [] h₀) (C1 : CodeHd base 99 95) (C2 : CodeHd base 1655 1651) (XB : (HD.KH w.params).In base) (TB : Top p loose mean mg mb base) (F : Fr h₀ L s.heap m) (X : (HD.KH w.params).In h₀) (N : News h₀ L s.heap (c :: (led ++ news))) (T : Top p loose mean mg mb h₀) (hk : cs.kind = .function)
    (off : ∀ q ∈ c :: news, q.1 ∉ led.map (·.1)) (ht : Tabs led) (h0 : 0 ≤ mk) (h4 : mk < 4) (hb : KBw.bInts b = ks) (hn : ks.length ≤ 40)
    (h : ∀ v h' tk' led', Fr h₀ L h' m → News h₀ L h' (led' ++ (c :: news)) → (∀ q ∈ c :: news, q.1 ∉ led'.map (·.1)) → Tabs led' → IsB (rr mk ks) v → Q v { s with heap := h', toks := tk' }) :
    wpAny (model PySem.Challenge.pw_vn0017_01 w) (Around.deeper callerA (envX cn cs L a ccd cl)) (call (.ref 1795) [.int mk tm, .bytes b tb]) Q E s := by
  refine pieceU h0 h4 hb hn led ht cn cs a ccd cl base h₀ L m s Q E (c :: news) B C1 C2 XB TB F X (News.sub N fun q hq => ?_) off T hk (fun v h' tk' led' F' N' o' r => h v h' tk' led' F' N' o' r.1 r.2)
  simp only [List.mem_append, List.mem_cons] at hq ⊢
  rcases hq with h | h | h
  · exact .inr (.inl h)
  · exact .inl h
  · exact .inr (.inr h)
local macro_rules | `(tactic| walk_at "call ref") => `(tactic| (k_here; (with_reducible show wpAny _ _ (call (Value.ref 1795) [Value.int _ _, Value.bytes _ _]) _ _ _); k_dflt (refine' pieceCallK ?k1 ?k2 ?k3 ?k4 ?k5 ?k6 ?k7 ?k8 ?k9 ?k10 ?k11 ?k12 ?k13 ?k14 ?k15 ?k16 ?_; (case k1 => with_reducible assumption); (case k2 => with_reducible assumption); (case k3 => with_reducible assumption); (case k4 => with_reducible assumption); (case k5 => with_reducible assumption); (case k6 => k_asm); (case k7 => with_reducible assumption); (case k8 => k_asm); (case k9 => with_reducible assumption); (case k10 => exact rfl); (case k11 => with_reducible assumption); (case k12 => with_reducible assumption); (case k13 => omega); (case k14 => omega); (case k15 => with_reducible assumption); (case k16 => omega); k_whole; intro v' h' tk' led' F' N' o' t' r')))
set_option maxHeartbeats 1000000 in
theorem bodyB {w : World} {p : Program} {loose : List Str} {mean : ExcName → Option Value} {mg mb : Str → Option Value} (base : Heap) (s : Shared) (L fa : Addr) (cd : Value) (m m₂ : Str → Option Value) (Q : Value → Shared → Prop) (E : Value → Shared → Prop) (led news : List (Addr × Obj)) (C : Addr) (oC : Obj)
    (B : Below callerA base [] base) (C1 : CodeHd base 99 95) (C2 : CodeHd base 1655 1651) (X : (HD.KH w.params).In base) (T : Top p loose mean mg mb base)
    (mk : Int) (ks : List Int) (b : Array UInt8) (t1 t2 : Tok) (h0 : 0 ≤ mk) (h4 : mk < 4) (hb : KBw.bInts b = ks) (hn : ks.length ≤ 40)
    (hns : LCg.NsObj oC m₂) (hm1 : m₂ (HD.n "maker") = some (.int mk t1)) (hm2 : m₂ (HD.n "octets") = some (.bytes b t2))
    (F : Fr base L s.heap m) (N : News base L s.heap ((C, oC) :: (led ++ news))) (off : ∀ q ∈ (C, oC) :: news, q.1 ∉ led.map (·.1)) (ht : Tabs led)
    (hQ : ∀ v h' tk' led', Fr base L h' m → News base L h' (led' ++ ((C, oC) :: news)) → (∀ q ∈ (C, oC) :: news, q.1 ∉ led'.map (·.1)) → Tabs led' → IsB (rr mk ks) v → Q v { s with heap := h', toks := tk' }) :
    wpAny (model PySem.Challenge.pw_vn0017_01 w) (Around.deeper callerA (envOfC (HD.n "law") (HD.fS (HD.d 211)) L fa cd)) (eval (lcElt (asgV (lawS 2))) (compEnvC (lcScope (asgV (lawS 2))) [] C (envOfC (HD.n "law") (HD.fS (HD.d 211)) L fa cd))) Q E s := by
  show wpAny _ _ (eval (.Call _ _ _ _) _) _ _ _
  k_steps
  all_goals (refine' hQ _ _ _ ?l ?a ?b ?c ?d ?e; (case b => with_reducible assumption); (case a => with_reducible assumption); (case c => with_reducible assumption); (case d => with_reducible assumption); (case e => with_reducible assumption))
end
section
def PiecesAt : List Value → List (Int × List Int) → Prop
  | [], [] => True
  | v :: vs, r :: rs => IsB (rr r.1 r.2) v ∧ PiecesAt vs rs
  | _, _ => False
theorem PiecesAt.snoc {v : Value} {r : Int × List Int} (h : IsB (rr r.1 r.2) v) : ∀ {vs : List Value} {rs : List (Int × List Int)}, PiecesAt vs rs → PiecesAt (vs ++ [v]) (rs ++ [r])
  | [], [], _ => ⟨h, trivial⟩
  | _ :: _, _ :: _, ⟨y, x⟩ => ⟨y, x.snoc h⟩
  | [], _ :: _, x => x.elim
  | _ :: _, [], x => x.elim
theorem RowsAt.get {T : List (Addr × Obj)} : ∀ {vs : List Value} {rs : List (Int × List Int)}, RowsAt T vs rs → ∀ {i : Nat} {v : Value}, vs[i]? = some v → ∃ r, rs[i]? = some r ∧ ∃ D t1 b t2, v = .ref D ∧ (D, tup2 r.1 t1 b t2) ∈ T ∧ KBw.bInts b = r.2
  | _ :: _, r :: _, ⟨y, _⟩, 0, _, h => by
    cases h
    exact ⟨r, rfl, y⟩
  | _ :: _, _ :: _, ⟨_, x⟩, i + 1, _, h => x.get (i := i) h
  | [], [], _, _, _, h => by cases h
  | [], _ :: _, x, _, _, _ => x.elim
  | _ :: _, [], x, _, _, _ => x.elim
theorem off3_of {I C D : Addr} : ∀ {l : List (Addr × Obj)}, (∀ p ∈ l, p.1 ≠ I ∧ p.1 ≠ C ∧ p.1 ≠ D) → LCg.Off3 I C D l
  | [], _ => trivial
  | p :: _, h => ⟨h p (.head _), off3_of fun q hq => h q (.tail _ hq)⟩
/-- what a row may be -/
def RowOk (r : Int × List Int) : Prop := 0 ≤ r.1 ∧ r.1 < 4 ∧ r.2.length ≤ 40 ∧ ∀ k ∈ r.2, 0 ≤ k ∧ k < 256
theorem loopB {w : World} {p : Program} {loose : List Str} {mean : ExcName → Option Value} {mg mb : Str → Option Value} (base : Heap) (s : Shared) (L fa : Addr) (cd : Value) (m : Str → Option Value) (lR : Addr) (oR : Obj) (items : List Value) (rs : List (Int × List Int)) (nR : Nat) (rest : List (Addr × Obj))
    (Fin : List Value → List (Addr × Obj) → Prop)
    (B : Below callerA base [] base) (C1 : CodeHd base 99 95) (C2 : CodeHd base 1655 1651) (X : (HD.KH w.params).In base) (T : Top p loose mean mg mb base)
    (hro : ∀ r ∈ rs, RowOk r) (hr : RowsAt rest items rs) (hmR : (lR, listOf items.toArray nR) ∈ rest)
    (hfin : ∀ ys led, Tabs led → Off rest led → PiecesAt ys rs → Fin ys (led ++ rest)) :
    ∀ (k i : Nat) (ys : List Value) (led : List (Addr × Obj)), i + k = items.length → Tabs led → Off rest led → PiecesAt ys (rs.take i) →
      LCp.CompRestP PySem.Challenge.pw_vn0017_01 w (Around.deeper callerA (envOfC (HD.n "law") (HD.fS (HD.d 211)) L fa cd)) base L m (envOfC (HD.n "law") (HD.fS (HD.d 211)) L fa cd) (lcElt (asgV (lawS 2))) (HD.n "maker") (HD.n "octets") (lcScope (asgV (lawS 2))) [] s (LCg.SrcAt base lR items.toArray) (fun i v => items.toArray[i]? = some v) Fin k i ys (led ++ rest) := by
  have hlen : items.length = rs.length := hr.len
  intro k
  induction k with
  | zero =>
    intro i ys led hik ht ho hp
    have e : rs.take i = rs := List.take_of_length_le (by omega)
    rw [e] at hp
    exact LCp.CompRestP.zero (hfin ys led ht ho hp)
  | succ k ih =>
    intro i ys led hik ht ho hp
    refine LCp.CompRestP.succ fun v hv => ?_
    have hv' : items[i]? = some v := by simpa using hv
    obtain ⟨r, hri, D, t1, b, t2, rfl, hmem, hb⟩ := hr.get hv'
    obtain ⟨q0, q4, qn, qk⟩ := hro r (List.mem_of_getElem? hri)
    refine ⟨D, tup2 r.1 t1 b t2, .int r.1 t1, .bytes b t2, _, rfl, List.mem_append_right _ hmem, rfl, rfl, fun I oI C oC Dn m₂ h tk E' hns hm1 hm2 F N off3 ne => ?_⟩
    have om := off3.mem
    refine bodyB base { s with heap := h, toks := tk } L fa cd m m₂ _ E' led ((I, oI) :: (Dn, LCg.lst ys) :: rest) C oC B C1 C2 X T r.1 r.2 b t1 t2 q0 q4 hb qn hns hm1 hm2 F (News.sub N fun q hq => ?_) (fun q hq => ?_) ht (fun v h' tk' led' F' N' o' t' rv => ?_)
    · simp only [List.mem_cons, List.mem_append] at hq ⊢
      rcases hq with h1 | h1 | h1 | h1 | h1
      · exact .inr (.inl h1)
      · exact .inr (.inr (.inr (.inl h1)))
      · exact .inl h1
      · exact .inr (.inr (.inl h1))
      · exact .inr (.inr (.inr (.inr h1)))
    · intro hm
      obtain ⟨z, hz, e⟩ := List.mem_map.mp hm
      have oz := om z (List.mem_append_left _ hz)
      simp only [List.mem_cons] at hq
      rcases hq with h1 | h1 | h1 | h1
      · rw [h1] at e; exact oz.2.1 e
      · rw [h1] at e; exact oz.1 e
      · rw [h1] at e; exact oz.2.2 e
      · exact ho q h1 hm
    · have ho' : Off rest led' := fun q hq => o' q (.tail _ (.tail _ (.tail _ hq)))
      have htk : rs.take (i + 1) = rs.take i ++ [r] := by rw [List.take_add_one, hri]; rfl
      refine LCg.CompEnd.intro F' N' (led' ++ rest) (fun q hq => ?_) (off3_of fun q hq => ?_) (.inr ⟨_, List.mem_append_right _ hmR, rfl, _, rfl⟩) (ih (i + 1) (ys ++ [v]) led' (by omega) t' ho' (by rw [htk]; exact hp.snoc rv))
      · simp only [List.mem_cons, List.mem_append] at hq ⊢
        rcases hq with h1 | h1 | h1 | h1 | h1
        · exact .inr (.inr (.inl h1))
        · exact .inr (.inl h1)
        · exact .inr (.inr (.inr (.inl h1)))
        · exact .inl h1
        · exact .inr (.inr (.inr (.inr h1)))
      · rcases List.mem_append.mp hq with hq | hq
        · refine ⟨fun z => ?_, fun z => ?_, fun z => ?_⟩
          · exact o' (I, oI) (.tail _ (.head _)) (List.mem_map.mpr ⟨q, hq, z⟩)
          · exact o' (C, oC) (.head _) (List.mem_map.mpr ⟨q, hq, z⟩)
          · exact o' (Dn, LCg.lst ys) (.tail _ (.tail _ (.head _))) (List.mem_map.mpr ⟨q, hq, z⟩)
        · exact om q (List.mem_append_right _ hq)
end
section
def m2 (lS lR lP : Addr) (kv : Option Value) : Str → Option Value := fun y => if y = HD.n "pieces" then some (.ref lP) else m1 lS lR kv y
theorem rowsTo_ok (ns : List Int) : ∀ i, ∀ r ∈ rowsTo ns i, RowOk r
  | 0, _, h => by cases h
  | i + 1, r, h => by
    rcases List.mem_append.mp h with h | h
    · exact rowsTo_ok ns i r h
    · rw [List.mem_singleton.mp h]
      refine ⟨?_, ?_, ?_, ?_⟩
      · show 0 ≤ (num ns i).fmod 4
        exact Int.fmod_nonneg_of_pos _ (by decide)
      · show (num ns i).fmod 4 < 4
        exact Int.fmod_lt_of_pos _ (by decide)
      · show (octs (num ns i)).length ≤ 40
        unfold octs
        rw [List.length_map, rangeKs_length]
        have := Int.fmod_lt_of_pos ((num ns i).fdiv 8) (show (0 : Int) < 41 by decide)
        omega
      · intro k hk
        unfold octs at hk
        obtain ⟨j, _, rfl⟩ := List.mem_map.mp hk
        exact ⟨Int.fmod_nonneg_of_pos _ (by decide), Int.fmod_lt_of_pos _ (by decide)⟩
/-- after the pieces: the ledger is the pieces' list, the tables, and the rest -/
def St2 (base : Heap) (L lS lR lP : Addr) (rs : List (Int × List Int)) (o1 o2 o3 : Obj) (h : Heap) : Prop :=
  ∃ items nR tups kv ys led rest v1, rest = (lR, listOf items.toArray nR) :: (L + 1, o1) :: (L + 2, o2) :: (L + 3, o3) :: tups ∧ Fr base L h (m2 lS lR lP kv) ∧ News base L h ((lP, LCg.lst ys) :: (led ++ rest)) ∧ LCg.Off1 lP (led ++ rest) ∧
    Tabs led ∧ Off rest led ∧ PiecesAt ys rs ∧ RowsAt tups items rs ∧ (∀ q ∈ tups, @LT.lt Nat _ lR q.1) ∧ o1.data = .cell v1
theorem stageB {w : World} {p : Program} {loose : List Str} {mean : ExcName → Option Value} {mg mb : Str → Option Value} (base : Heap) (s : Shared) (L fa : Addr) (cd : Value) (Q : Flow → Shared → Prop) (E : Value → Shared → Prop) (led : List (Addr × Obj)) (lS lR : Addr) (ns : List Int) (R : Nat)
    (B : Below callerA base [] base) (C1 : CodeHd base 99 95) (C2 : CodeHd base 1655 1651) (X : (HD.KH w.params).In base) (T : Top p loose mean mg mb base)
    (hR : R ≤ 8) (o2 o3 : Obj) (ht : Tabs led) (hled : ∀ q ∈ led, @LT.lt Nat _ q.1 L) (hLR : @LT.lt Nat _ (L + 3) lR)
    (st : St1 base L lS lR ns led o2 o3 R s.heap)
    (hnext : ∀ h tk lP o1, St2 base L lS lR lP (rowsTo ns R) o1 o2 o3 h → wpAny (model PySem.Challenge.pw_vn0017_01 w) (Around.deeper callerA (envOfC (HD.n "law") (HD.fS (HD.d 211)) L fa cd)) (execs (lawB 3) (envOfC (HD.n "law") (HD.fS (HD.d 211)) L fa cd)) Q E { s with heap := h, toks := tk }) :
    wpAny (model PySem.Challenge.pw_vn0017_01 w) (Around.deeper callerA (envOfC (HD.n "law") (HD.fS (HD.d 211)) L fa cd)) (execs (lawB 2) (envOfC (HD.n "law") (HD.fS (HD.d 211)) L fa cd)) Q E s := by
  show wpAny _ _ (execs (lawS 2 :: lawB 3) _) _ _ _
  obtain ⟨items, nR, o1, v1, tups, kv, F, N, d1, hr, htp⟩ := st
  have hlen : items.length = R := by rw [hr.len, rowsTo_len]
  refine wpAny_execs_cons ?_
  k_dflt (refine LCp.Assign_ListComp_P (F₀ := F) (by rfl) (by with_unfolding_all rfl) (by with_unfolding_all rfl) (by decide) (by rfl) (by decide) (by rfl) (by rfl) (by decide) (by rfl) (by rfl) ?_)
  k_dflt (refine nameX_L F (v := .ref lR) ?_ ?_)
  · rfl
  · have hoff : Off ((lR, listOf items.toArray nR) :: (L + 1, o1) :: (L + 2, o2) :: (L + 3, o3) :: tups) led := fun q hq hm => by
      obtain ⟨z, hz, e⟩ := List.mem_map.mp hm
      have zl := hled z hz
      simp only [List.mem_cons] at hq
      rcases hq with h1 | h1 | h1 | h1 | h1
      · rw [h1] at e; exact neL (by omega) e
      · rw [h1] at e; exact neL (by omega) e
      · rw [h1] at e; exact neL (by omega) e
      · rw [h1] at e; exact neL (by omega) e
      · have := htp q h1
        exact neL (by omega) e
    refine LCp.SrcLP.ledger (k := nR) (news := led ++ ((lR, listOf items.toArray nR) :: (L + 1, o1) :: (L + 2, o2) :: (L + 3, o3) :: tups)) rfl F (News.sub N fun q hq => ?_) (List.mem_append_right _ (.head _)) (by rw [sizeLine_eq, List.size_toArray]; omega) fun g => ?_
    · simp only [List.mem_cons, List.mem_append] at hq ⊢
      rcases hq with h1 | h1 | h1 | h1 | h1 | h1
      · exact .inr (.inr (.inr (.inr (.inr h1))))
      · exact .inl h1
      · exact .inr (.inl h1)
      · exact .inr (.inr (.inl h1))
      · exact .inr (.inr (.inr (.inl h1)))
      · exact .inr (.inr (.inr (.inr (.inl h1))))
    · rw [List.size_toArray]
      refine loopB base _ L fa cd _ lR (listOf items.toArray nR) items (rowsTo ns R) nR _ _ B C1 C2 X T (rowsTo_ok ns R) (hr.mono fun q hq => .tail _ (.tail _ (.tail _ (.tail _ hq)))) (.head _) (fun ys led' ht' ho' hp => ?_) items.length 0 [] led (by omega) ht hoff trivial
      intro D h tk F' N' off1
      exact hnext h tk D o1 ⟨items, nR, tups, kv, ys, led', _, v1, rfl, F', N', off1, ht', ho', hp, hr, htp, d1⟩
end
section
open PySem PySem.W PySem.Calls PyProof.Rows PyProof.V PySem.Spec
open Builtin
/-- the pieces of the rows, laid end to end -/
def catR : List (Int × List Int) → List Int
  | [] => []
  | r :: rs => rr r.1 r.2 ++ catR rs
theorem catR_append : ∀ (a b : List (Int × List Int)), catR (a ++ b) = catR a ++ catR b
  | [], b => rfl
  | r :: a, b => by
    show rr r.1 r.2 ++ catR (a ++ b) = (rr r.1 r.2 ++ catR a) ++ catR b
    rw [catR_append a b, List.append_assoc]
def catA : List (Array UInt8) → Array UInt8 → Array UInt8
  | [], o => o
  | b :: l, o => catA l (o ++ b)
theorem joined_go : ∀ (l : List (Array UInt8)) (k : Nat) (o : Array UInt8), (l.zipIdx k).foldl (fun out (p, i) => (if i > 0 then out ++ #[] else out) ++ p) o = catA l o
  | [], _, _ => rfl
  | b :: l, k, o => by
    rw [List.zipIdx_cons, List.foldl_cons]
    dsimp only
    have e : (if k > 0 then o ++ #[] else o) = o := by
      split
      · rw [Array.append_empty]
      · rfl
    rw [e]
    exact joined_go l (k + 1) (o ++ b)
theorem catA_ints : ∀ (l : List (Array UInt8)) (o : Array UInt8), KBw.bInts (catA l o) = KBw.bInts o ++ (l.map KBw.bInts).flatten
  | [], o => by simp [catA]
  | b :: l, o => by
    show KBw.bInts (catA l (o ++ b)) = _
    rw [catA_ints l (o ++ b)]
    simp [KBw.bInts]
theorem sum_size : ∀ (l : List (Array UInt8)) (k : Nat), l.foldl (· + ·.size) k = k + ((l.map KBw.bInts).flatten).length
  | [], k => by simp
  | b :: l, k => by
    rw [List.foldl_cons, sum_size l]
    simp only [List.map_cons, List.flatten_cons, List.length_append, KBw.ints_length]
    omega
theorem bl_of : ∀ {ys : List Value} {rs : List (Int × List Int)}, PiecesAt ys rs → ∃ bl : List (Array UInt8 × Tok), ys = bl.map asV ∧ ((bl.map (·.1)).map KBw.bInts).flatten = catR rs ∧ bl.length = rs.length
  | [], [], _ => ⟨[], rfl, rfl, rfl⟩
  | v :: ys, r :: rs, ⟨⟨b, t, e, hb⟩, x⟩ => by
    obtain ⟨bl, e1, e2, e3⟩ := bl_of x
    refine ⟨(b, t) :: bl, ?_, ?_, ?_⟩
    · rw [e, e1]
      rfl
    · show KBw.bInts b ++ _ = rr r.1 r.2 ++ _
      rw [hb, e2]
    · rw [List.length_cons, List.length_cons, e3]
  | [], _ :: _, x => x.elim
  | _ :: _, [], x => x.elim
section
variable {prog : Program} {w : World} {A : Around} {E : Value → Shared → Prop} {s : Shared} {h₀ : Heap} {L D : Addr} {news : List (Addr × Obj)} {u : Tok}
theorem joinU {ys : List Value} {rs : List (Int × List Int)} {Q : Value → Shared → Prop} (N : News h₀ L s.heap news) (hm : (D, LCg.lst ys) ∈ news) (hp : PiecesAt ys rs) (h1 : 1 ≤ rs.length) (hz : (catR rs).length ≤ 1000)
    (h : ∀ b t k, KBw.bInts b = catR rs → Q (.bytes b t) { s with toks := k }) : wpAny (model prog w) A (call (.builtin "bytes.join") [.bytes #[] u, .ref D]) Q E s := by
  obtain ⟨bl, e1, e2, e3⟩ := bl_of hp
  subst e1
  by_cases h2 : bl.length = 1
  · obtain ⟨p, rfl⟩ := List.length_eq_one_iff.mp h2
    refine join_one (b := p.1) (t := p.2) (n := 1) N hm (h p.1 p.2 s.toks ?_)
    rw [← e2]
    simp
  · have hsz := sum_size (bl.map (·.1)) 0
    have ej : Bytes.joined #[] (partsOf bl).toList = catA (bl.map (·.1)) #[] := joined_go _ 0 _
    have eb : KBw.bInts (catA (bl.map (·.1)) #[]) = catR rs := by
      rw [catA_ints, e2]
      rfl
    refine wpAny_call_entry slot_join (typeIs_bytes _ _ _) entry_join (tree_many (bl := bl) (N.get hm) rfl rfl (by omega) ?_ ?_ fun t' k => ?_) (args_join _ _)
    · show Array.foldl _ (0 * _) _ ≤ _
      rw [Nat.zero_mul, show partsOf bl = (bl.map (·.1)).toArray from rfl, List.foldl_toArray, hsz, e2, sizeLine_eq]
      omega
    · rw [ej, ← KBw.ints_length, eb, sizeLine_eq]
      omega
    · rw [ej]
      exact ⟨_, rfl, h _ t' k eb⟩
end
end
section
def m3 (lS lR lP : Addr) (kv vS v1 v2 v3 : Option Value) : Str → Option Value := fun y => if y = HD.n "end" then v3 else if y = HD.n "octets" then v2 else if y = HD.n "maker" then v1 else if y = HD.n "stream" then vS else m2 lS lR lP kv y
theorem m3_none (lS lR lP : Addr) (kv vS : Option Value) : (fun y => if y = HD.n "stream" then vS else m2 lS lR lP kv y) = m3 lS lR lP kv vS none none none := by
  funext y
  unfold m3
  by_cases h3 : y = HD.n "end"
  · subst h3
    rfl
  · rw [if_neg h3]
    by_cases h2 : y = HD.n "octets"
    · subst h2
      rfl
    · rw [if_neg h2]
      by_cases h1 : y = HD.n "maker"
      · subst h1
        rfl
      · rw [if_neg h1]
local macro_rules | `(tactic| k_all) => `(tactic| (tbn_letter; with_reducible assumption))
local macro_rules | `(tactic| walk_at "call builtin:bytes.join") => `(tactic| (k_here; k_dflt (refine' joinU ?k1 ?k2 ?k3 ?k4 ?k5 ?_; (case k1 => k_asm); (case k2 => k_mem); (case k3 => with_reducible assumption); (case k4 => with_reducible assumption); (case k5 => with_reducible assumption); k_whole; intro b' t' k' r')))
set_option maxHeartbeats 4000000 in
theorem stmt3 {w : World} {p : Program} {loose : List Str} {mean : ExcName → Option Value} {mg mb : Str → Option Value} (base : Heap) (s : Shared) (L fa : Addr) (cd : Value) (Q : Flow → Shared → Prop) (E : Value → Shared → Prop) (lS lR lP : Addr) (kv : Option Value) (tail : List (Addr × Obj)) (rs : List (Int × List Int)) (ys : List Value)
    (B : Below callerA base [] base) (X : (HD.KH w.params).In base) (T : Top p loose mean mg mb base)
    (hp : PiecesAt ys rs) (h1 : 1 ≤ rs.length) (hz : (catR rs).length ≤ 1000)
    (F : Fr base L s.heap (m2 lS lR lP kv)) (N : News base L s.heap ((lP, LCg.lst ys) :: tail))
    (hQ : ∀ h tk b t, KBw.bInts b = catR rs → Fr base L h (m3 lS lR lP kv (some (.bytes b t)) none none none) → News base L h ((lP, LCg.lst ys) :: tail) → Q .next { s with heap := h, toks := tk }) :
    wpAny (model PySem.Challenge.pw_vn0017_01 w) (Around.deeper callerA (envOfC (HD.n "law") (HD.fS (HD.d 211)) L fa cd)) (exec (lawS 3) (envOfC (HD.n "law") (HD.fS (HD.d 211)) L fa cd)) Q E s := by
  unfold m2 m1 at F
  show wpAny _ _ (exec (.Assign _ _ _) _) _ _ _
  k_steps
  rename Fr _ _ _ _ => kF
  rename News _ _ _ _ => kN
  refine' hQ _ _ _ _ ?h ?f kN
  case h => assumption
  case f =>
    rw [← m3_none]
    exact kF
def asgBorders : Stmt := lawS 4
set_option maxHeartbeats 4000000 in
theorem stmt4 {w : World} {p : Program} {loose : List Str} {mean : ExcName → Option Value} {mg mb : Str → Option Value} (base : Heap) (s : Shared) (L fa : Addr) (cd : Value) (Q : Flow → Shared → Prop) (E : Value → Shared → Prop) (m : Str → Option Value) (tail : List (Addr × Obj))
    (B : Below callerA base [] base) (X : (HD.KH w.params).In base) (T : Top p loose mean mg mb base)
    (o2 : Obj) (v2 : Option Value) (d2 : o2.data = .cell v2)
    (F : Fr base L s.heap m) (N : News base L s.heap ((L + 2, o2) :: tail)) (ht2 : ∀ q ∈ tail, q.1 ≠ L + 2)
    (hQ : ∀ h tk lB t0 o2', @LT.lt Nat _ (L + 2) lB → AllLt lB tail → Fr base L h m → o2'.data = .cell (some (.ref lB)) → News base L h ((lB, listOf #[.int 0 t0] 0) :: (L + 2, o2') :: tail) → Q .next { s with heap := h, toks := tk }) :
    wpAny (model PySem.Challenge.pw_vn0017_01 w) (Around.deeper callerA (envOfC (HD.n "law") (HD.fS (HD.d 211)) L fa cd)) (exec (lawS 4) (envOfC (HD.n "law") (HD.fS (HD.d 211)) L fa cd)) Q E s := by
  show wpAny _ _ (exec (.Assign _ _ _) _) _ _ _
  k_steps
  rename Fr _ _ _ _ => kF
  rename News _ _ _ _ => kN
  rename @LT.lt Addr _ _ _ ∧ _ => kL
  exact hQ _ _ _ _ _ kL.1 kL.2 kF (by assumption) kN
end
section
theorem lawCallK {f : Addr} {vs : List Value} {Res : Value → Prop} (C : LawC f vs Res) {w : World} {p : Program} {loose : List Str} {mean : ExcName → Option Value} {mg mb : Str → Option Value} {cn : Str} {cs : Scope} {a : Addr} {ccd : Value} {cl : List (Str × Addr)} {base h₀ : Heap} {L lB : Addr} {m : Str → Option Value} {s : Shared} {Q E : Value → Shared → Prop}
    {c1 c2 c3 c4 c5 : Addr × Obj} {led tail : List (Addr × Obj)}
    (B : Below callerA base [] h₀) (C1 : CodeHd base 99 95) (C2 : CodeHd base 1655 1651) (XB : (HD.KH w.params).In base) (TB : Top p loose mean mg mb base) (F : Fr h₀ L s.heap m) (X : (HD.KH w.params).In h₀) (N : News h₀ L s.heap (c1 :: c2 :: c3 :: c4 :: c5 :: (led ++ tail))) (T : Top p loose mean mg mb h₀) (hk : cs.kind = .function)
    (off : ∀ q ∈ c1 :: c2 :: c3 :: c4 :: c5 :: tail, q.1 ∉ led.map (·.1)) (ht : Tabs led) (hB : ∀ q ∈ led ++ tail, q.1 ≠ lB) (e3 : c3.1 = lB)
    (h : ∀ v h' tk' led', Fr h₀ L h' m → News h₀ L h' (c1 :: c2 :: c3 :: c4 :: c5 :: (led' ++ tail)) → (∀ q ∈ c1 :: c2 :: c3 :: c4 :: c5 :: tail, q.1 ∉ led'.map (·.1)) → Tabs led' → (∀ q ∈ led' ++ tail, q.1 ≠ lB) → Res v → Q v { s with heap := h', toks := tk' }) :
    wpAny (model PySem.Challenge.pw_vn0017_01 w) (Around.deeper callerA (envX cn cs L a ccd cl)) (call (.ref f) vs) Q E s := by
  refine C led ht cn cs a ccd cl base h₀ L m s Q E (c1 :: c2 :: c3 :: c4 :: c5 :: tail) B C1 C2 XB TB F X (News.sub N fun q hq => ?_) off T hk (fun v h' tk' led' F' N' o' r => h v h' tk' led' F' (News.sub N' fun q hq => ?_) o' r.1 (fun q hq => ?_) r.2)
  · simp only [List.mem_append, List.mem_cons] at hq ⊢
    rcases hq with h | h | h | h | h | h | h
    · exact .inr (.inr (.inr (.inr (.inr (.inl h)))))
    · exact .inl h
    · exact .inr (.inl h)
    · exact .inr (.inr (.inl h))
    · exact .inr (.inr (.inr (.inl h)))
    · exact .inr (.inr (.inr (.inr (.inl h))))
    · exact .inr (.inr (.inr (.inr (.inr (.inr h)))))
  · simp only [List.mem_append, List.mem_cons] at hq ⊢
    rcases hq with h | h | h | h | h | h | h
    · exact .inr (.inl h)
    · exact .inr (.inr (.inl h))
    · exact .inr (.inr (.inr (.inl h)))
    · exact .inr (.inr (.inr (.inr (.inl h))))
    · exact .inr (.inr (.inr (.inr (.inr (.inl h)))))
    · exact .inl h
    · exact .inr (.inr (.inr (.inr (.inr (.inr h)))))
  · rcases List.mem_append.mp hq with hq | hq
    · intro e
      exact o' c3 (.tail _ (.tail _ (.head _))) (by rw [e3, ← e]; exact List.mem_map_of_mem hq)
    · exact hB q (List.mem_append_right _ hq)
section
variable {prog : Program} {w : World} {A : Around} {E : Value → Shared → Prop} {s : Shared} {h₀ : Heap} {L l : Addr} {news : List (Addr × Obj)} {value slice : PySem.Expr}
theorem itemAt {items : List Value} {n : Nat} {k : Int} {u : Tok} {v : Value} {Q : Value → Shared → Prop} (N : News h₀ L s.heap news) (hm : (l, listOf items.toArray n) ∈ news) (h0 : 0 ≤ k) (hhi : k < 2 ^ 63) (hx : items[k.toNat]? = some v) (h : Q v s)
    (hs : subscripted slice false (.ref l) (.int k u) = operate [.ref l, .int k u] (getItem (.ref l) (.int k u)) := by with_unfolding_all rfl) :
    wpAny (model prog w) A (subscriptTail value slice (.ref l) (.int k u)) Q E s :=
  have hl := News.isList N hm
  tail_any hl.typeIs slot_list_getitem.lookup (wpAny_getItem_list hl h0 hhi (by simpa using hx) h) hs
theorem itemLast {items : List Value} {n : Nat} {u : Tok} {v : Value} {Q : Value → Shared → Prop} (N : News h₀ L s.heap news) (hm : (l, listOf items.toArray n) ∈ news) (h1 : 1 ≤ items.length) (hx : items[items.length - 1]? = some v) (h : Q v s)
    (hs : subscripted slice false (.ref l) (.int (-1) u) = operate [.ref l, .int (-1) u] (getItem (.ref l) (.int (-1) u)) := by with_unfolding_all rfl) :
    wpAny (model prog w) A (subscriptTail value slice (.ref l) (.int (-1) u)) Q E s :=
  have hl := News.isList N hm
  tail_any hl.typeIs slot_list_getitem.lookup (wpAny_getItem_list_neg hl (by decide) (by rw [List.size_toArray]; omega) (by decide) (by
    have e : ((-1 : Int) + (items.toArray.size : Int)).toNat = items.length - 1 := by rw [List.size_toArray]; omega
    rw [e]
    simpa using hx) h) hs
end
local macro_rules | `(tactic| k_all) => `(tactic| (tbn_letter; with_reducible assumption))
local macro_rules | `(tactic| walk_at "subscriptTail") => `(tactic| (k_here; (with_reducible show wpAny _ _ (subscriptTail _ _ (Value.ref _) (Value.int _ _)) _ _ _); k_dflt (refine' itemAt ?k1 ?k2 ?k3 ?k4 ?k5 ?_ ?k6; (case k1 => k_asm); (case k2 => k_mem); (case k5 => with_reducible assumption); (case k3 => omega); (case k4 => omega); (case k6 => with_unfolding_all rfl); k_whole)))
local macro_rules | `(tactic| walk_at "subscriptTail") => `(tactic| (k_here; (with_reducible show wpAny _ _ (subscriptTail _ _ (Value.ref _) (Value.int (-1) _)) _ _ _); k_dflt (refine' itemLast ?k1 ?k2 ?k3 ?k5 ?_ ?k6; (case k1 => k_asm); (case k2 => k_mem); (case k5 => with_reducible assumption); (case k3 => with_reducible assumption); (case k6 => with_unfolding_all rfl); k_whole)))
local macro_rules | `(tactic| walk_at "call ref") => `(tactic| (k_here; (with_reducible show wpAny _ _ (call (Value.ref 1802) _) _ _ _); k_dflt (refine' lawCallK ?e1 ?k1 ?k2 ?k3 ?k4 ?k5 ?k6 ?k7 ?k8 ?k9 ?k10 ?k11 ?k12 ?k13 ?k14 ?_; (case e1 => with_reducible assumption); (case k1 => with_reducible assumption); (case k2 => with_reducible assumption); (case k3 => with_reducible assumption); (case k4 => with_reducible assumption); (case k5 => with_reducible assumption); (case k6 => k_asm); (case k7 => with_reducible assumption); (case k8 => k_asm); (case k9 => with_reducible assumption); (case k10 => exact rfl); (case k11 => with_reducible assumption); (case k12 => with_reducible assumption); (case k13 => with_reducible assumption); (case k14 => exact rfl); k_whole; intro v' h' tk' led' F' N' o' t' hB' r'; obtain ⟨te', hte'⟩ := r'; subst hte')))
local macro_rules | `(tactic| walk_at "call ref") => `(tactic| (k_here; (with_reducible show wpAny _ _ (call (Value.ref 1809) _) _ _ _); k_dflt ((rename ∀ (b' : Array UInt8) (tb' : Tok), KBw.bInts b' = _ → LawC 1809 _ _ => hIn'); refine' lawCallK (hIn' _ _ ?e1) ?k1 ?k2 ?k3 ?k4 ?k5 ?k6 ?k7 ?k8 ?k9 ?k10 ?k11 ?k12 ?k13 ?k14 ?_; (case e1 => with_reducible assumption); (case k1 => with_reducible assumption); (case k2 => with_reducible assumption); (case k3 => with_reducible assumption); (case k4 => with_reducible assumption); (case k5 => with_reducible assumption); (case k6 => k_asm); (case k7 => with_reducible assumption); (case k8 => k_asm); (case k9 => with_reducible assumption); (case k10 => exact rfl); (case k11 => with_reducible assumption); (case k12 => with_reducible assumption); (case k13 => with_reducible assumption); (case k14 => exact rfl); k_whole; intro v' h' tk' led' F' N' o' t' hB' r'; obtain ⟨bi', ti', hte', hbi'⟩ := r'; subst hte')))
local macro_rules | `(tactic| walk_at "call builtin:list.append") => `(tactic| (k_here; (with_reducible show wpAny _ _ (call (Value.builtin _) [Value.ref _, _]) _ _ _); k_dflt (refine' append_K ?k1 ?k2 ?k3 ?_ ?z; (case k1 => k_asm); (case k2 => k_asm); (case k3 => k_upd); (case z => rw [sizeLine_eq, List.size_toArray]; omega); k_whole); intro h' F' N'; (try k_sweep)))
theorem m3_set (lS lR lP : Addr) (kv vS v1 v2 v3 w1 w2 w3 : Option Value) : (fun y => if y = HD.n "end" then w3 else if y = HD.n "octets" then w2 else if y = HD.n "maker" then w1 else m3 lS lR lP kv vS v1 v2 v3 y) = m3 lS lR lP kv vS w1 w2 w3 := by
  funext y
  unfold m3
  by_cases h3 : y = HD.n "end"
  · simp only [h3, if_true]
  · by_cases h2 : y = HD.n "octets"
    · simp only [h3, h2, if_true, if_false]
    · by_cases h1 : y = HD.n "maker"
      · simp only [h3, h2, h1, if_true, if_false]
      · simp only [h3, h2, h1, if_false]
theorem toList_bne {b c : Array UInt8} {ks : List Int} (h1 : KBw.bInts b = ks) (h2 : KBw.bInts c = ks) : (b.toList != c.toList) = false := by
  rw [bInts_inj (h1.trans h2.symm)]
  exact bne_self_eq_false _
local macro_rules | `(tactic| walk_at "ite") => `(tactic| (k_here; k_openite; k_dflt (refine ite_isFalse (toList_bne (by with_reducible assumption) (by with_reducible assumption)) ?_)))
set_option maxHeartbeats 4000000 in
theorem body5W {w : World} {p : Program} {loose : List Str} {mean : ExcName → Option Value} {mg mb : Str → Option Value} (base : Heap) (s : Shared) (L fa : Addr) (cd : Value) (Q : Flow → Shared → Prop) (E : Value → Shared → Prop) (led tail : List (Addr × Obj)) (lS lR lP lB D : Addr)
    (B : Below callerA base [] base) (C1 : CodeHd base 99 95) (C2 : CodeHd base 1655 1651) (X : (HD.KH w.params).In base) (T : Top p loose mean mg mb base)
    (items ys bv : List Value) (nR nB : Nat) (o2 : Obj) (k : Int) (t tS te t1 t2 : Tok) (hk0 : 0 ≤ k) (hk8 : k < 8) (v1 v2 v3 : Option Value) (d2 : o2.data = .cell (some (.ref lB)))
    (mk e r : Int) (ks zs xs : List Int) (bS b bp : Array UInt8) (tp : Tok) (h0 : 0 ≤ e) (h4 : e + zs.length ≤ 1000) (hrz : r = e + (zs.length : Int))
    (hbS : KBw.bInts bS = xs) (hs : xs.length ≤ 1000) (hbp : KBw.bInts bp = zs) (hb : KBw.bInts b = ks) (hzs : zs.length ≤ 1000)
    (hE : LawC 1802 [.int mk t1, .bytes bS tS, .int e te] (IsI r)) (hI : ∀ (b' : Array UInt8) (tb' : Tok), KBw.bInts b' = zs → LawC 1809 [.int mk t1, .bytes b' tb'] (IsB ks))
    (hsl : sl xs (some e) (some r) = zs)
    (hx1 : items[k.toNat]? = some (.ref D)) (hx2 : ys[k.toNat]? = some (.bytes bp tp)) (hb1 : 1 ≤ bv.length) (hb9 : bv.length ≤ 100) (hx3 : bv[bv.length - 1]? = some (.int e te))
    (F : Fr base L s.heap (m3 lS lR lP (some (.int k t)) (some (.bytes bS tS)) v1 v2 v3)) (N : News base L s.heap ((lR, listOf items.toArray nR) :: (lP, LCg.lst ys) :: (lB, listOf bv.toArray nB) :: (L + 2, o2) :: (D, tup2 mk t1 b t2) :: (led ++ tail)))
    (hRB : @LT.lt Nat _ lR lB) (hPB : @LT.lt Nat _ lP lB) (hDB : @LT.lt Nat _ D lB) (hLB : @LT.lt Nat _ (L + 2) lB)
    (off : ∀ q ∈ (lR, listOf items.toArray nR) :: (lP, LCg.lst ys) :: (lB, listOf bv.toArray nB) :: (L + 2, o2) :: (D, tup2 mk t1 b t2) :: tail, q.1 ∉ led.map (·.1)) (ht : Tabs led) (hB : ∀ q ∈ led ++ tail, q.1 ≠ lB)
    (hQ : ∀ (h' : Heap) (tk' : Nat) (te' : Tok) (led' : List (Addr × Obj)) w1 w2 w3, Fr base L h' (m3 lS lR lP (some (.int k t)) (some (.bytes bS tS)) w1 w2 w3) →
      News base L h' ((lR, listOf items.toArray nR) :: (lP, LCg.lst ys) :: (lB, listOf (bv.toArray.push (.int r te')) (nB + 1)) :: (L + 2, o2) :: (D, tup2 mk t1 b t2) :: (led' ++ tail)) → Tabs led' → (∀ q ∈ (lR, listOf items.toArray nR) :: (lP, LCg.lst ys) :: (lB, listOf bv.toArray nB) :: (L + 2, o2) :: (D, tup2 mk t1 b t2) :: tail, q.1 ∉ led'.map (·.1)) →
      Q .next { s with heap := h', toks := tk' }) :
    wpAny (model PySem.Challenge.pw_vn0017_01 w) (Around.deeper callerA (envOfC (HD.n "law") (HD.fS (HD.d 211)) L fa cd)) (execs (forBody (lawS 5)) (envOfC (HD.n "law") (HD.fS (HD.d 211)) L fa cd)) Q E s := by
  unfold m3 m2 m1 at F
  k_steps
  rename Fr _ _ _ _ => kF
  rename News _ _ _ _ => kN
  refine' hQ _ _ _ _ _ _ _ ?f kN ?tt ?oo
  case tt => with_reducible assumption
  case oo => with_reducible assumption
  case f =>
    rw [← m3_set _ _ _ _ _ v1 v2 v3]
    exact kF
end
section
abbrev posR (rs : List (Int × List Int)) (j : Nat) : Int := ((catR (rs.take j)).length : Int)
def BordAt (bv : List Value) (rs : List (Int × List Int)) (i : Nat) : Prop := bv.length = i + 1 ∧ ∀ j, j ≤ i → ∃ t, bv[j]? = some (.int (posR rs j) t)
def OffA (as : List Addr) (led : List (Addr × Obj)) : Prop := ∀ a ∈ as, a ∉ led.map (·.1)
theorem BordAt.snoc {bv : List Value} {rs : List (Int × List Int)} {i : Nat} (h : BordAt bv rs i) (t : Tok) : BordAt (bv ++ [.int (posR rs (i + 1)) t]) rs (i + 1) := by
  refine ⟨by rw [List.length_append, h.1]; rfl, fun j hj => ?_⟩
  by_cases e : j ≤ i
  · obtain ⟨u, hu⟩ := h.2 j e
    refine ⟨u, ?_⟩
    rw [List.getElem?_append_left (by rw [h.1]; omega)]
    exact hu
  · have e2 : j = i + 1 := by omega
    subst e2
    refine ⟨t, ?_⟩
    rw [List.getElem?_append_right (by rw [h.1]; omega), h.1, Nat.sub_self]
    rfl
theorem PiecesAt.get : ∀ {ys : List Value} {rs : List (Int × List Int)}, PiecesAt ys rs → ∀ {i : Nat} {r : Int × List Int}, rs[i]? = some r → ∃ b t, ys[i]? = some (.bytes b t) ∧ KBw.bInts b = rr r.1 r.2
  | _ :: _, r :: _, ⟨⟨b, t, e, hb⟩, _⟩, 0, _, h => by
    cases h
    exact ⟨b, t, by rw [e]; rfl, hb⟩
  | _ :: _, _ :: _, ⟨_, x⟩, i + 1, _, h => x.get (i := i) h
  | [], [], _, _, _, h => by cases h
  | [], _ :: _, x, _, _, _ => x.elim
  | _ :: _, [], x, _, _, _ => x.elim
theorem m3_k (lS lR lP : Addr) (kv vS w1 w2 w3 v : Option Value) : (fun y => if y = HD.n "k" then v else m3 lS lR lP kv vS w1 w2 w3 y) = m3 lS lR lP v vS w1 w2 w3 := by
  funext y
  by_cases h : y = HD.n "k"
  · subst h
    rfl
  · unfold m3 m2 m1
    simp only [h, if_false]
theorem catR_split {rs : List (Int × List Int)} {i : Nat} {r : Int × List Int} (h : rs[i]? = some r) : catR rs = catR (rs.take i) ++ (rr r.1 r.2 ++ catR (rs.drop (i + 1))) := by
  have e : rs = rs.take i ++ (r :: rs.drop (i + 1)) := by
    obtain ⟨hi, e⟩ := List.getElem?_eq_some_iff.mp h
    rw [← e, ← List.drop_eq_getElem_cons hi, List.take_append_drop]
  have e2 : catR rs = catR (rs.take i ++ (r :: rs.drop (i + 1))) := congrArg catR e
  rw [e2, catR_append]
  rfl
theorem posR_succ {rs : List (Int × List Int)} {i : Nat} {r : Int × List Int} (h : rs[i]? = some r) : posR rs (i + 1) = posR rs i + ((rr r.1 r.2).length : Int) := by
  unfold posR
  rw [List.take_add_one, h, catR_append, List.length_append]
  show (((catR (rs.take i)).length + (rr r.1 r.2 ++ []).length : Nat) : Int) = _
  rw [List.append_nil]
  omega
/-- after the third loop -/
def St3 (base : Heap) (L lS lR lP lB : Addr) (rs : List (Int × List Int)) (items ys : List Value) (nR : Nat) (o1 o2 o3 : Obj) (tups : List (Addr × Obj)) (vS : Option Value) (i : Nat) (h : Heap) : Prop :=
  ∃ bv nB led kv w1 w2 w3, Fr base L h (m3 lS lR lP kv vS w1 w2 w3) ∧ News base L h ((lR, listOf items.toArray nR) :: (lP, LCg.lst ys) :: (lB, listOf bv.toArray nB) :: (L + 2, o2) :: (led ++ ((L + 1, o1) :: (L + 3, o3) :: tups))) ∧
    BordAt bv rs i ∧ Tabs led ∧ OffA (lR :: lP :: lB :: (L + 2) :: (L + 1) :: (L + 3) :: tups.map (·.1)) led
theorem loop5 {w : World} {p : Program} {loose : List Str} {mean : ExcName → Option Value} {mg mb : Str → Option Value} (base : Heap) (s : Shared) (L fa : Addr) (cd : Value) (Q : Flow → Shared → Prop) (E : Value → Shared → Prop) (lS lR lP lB I : Addr)
    (B : Below callerA base [] base) (C1 : CodeHd base 99 95) (C2 : CodeHd base 1655 1651) (X : (HD.KH w.params).In base) (T : Top p loose mean mg mb base)
    (items ys : List Value) (rs : List (Int × List Int)) (nR : Nat) (o1 o2 o3 : Obj) (tups : List (Addr × Obj)) (bS : Array UInt8) (tS : Tok)
    (hr : RowsAt tups items rs) (hp : PiecesAt ys rs) (hro : ∀ r ∈ rs, RowOk r) (h8 : rs.length ≤ 8) (hbS : KBw.bInts bS = catR rs) (hz : (catR rs).length ≤ 1000) (d2 : o2.data = .cell (some (.ref lB)))
    (hRB : @LT.lt Nat _ lR lB) (hPB : @LT.lt Nat _ lP lB) (hLB : @LT.lt Nat _ (L + 3) lB) (htB : ∀ q ∈ tups, @LT.lt Nat _ q.1 lB) (hIB : @LT.lt Nat _ lB I)
    (hdone : ∀ h tk, St3 base L lS lR lP lB rs items ys nR o1 o2 o3 tups (some (.bytes bS tS)) rs.length h → Q .next { s with heap := h, toks := tk }) :
    ∀ (k i : Nat), i + k = rs.length → ∀ (bv : List Value) (nB : Nat) (led : List (Addr × Obj)) (kv w1 w2 w3 : Option Value), BordAt bv rs i → Tabs led → OffA (lR :: lP :: lB :: (L + 2) :: (L + 1) :: (L + 3) :: tups.map (·.1)) led → (∀ q ∈ led, q.1 ≠ I) →
      RangeRest PySem.Challenge.pw_vn0017_01 w (Around.deeper callerA (envOfC (HD.n "law") (HD.fS (HD.d 211)) L fa cd)) E base (envOfC (HD.n "law") (HD.fS (HD.d 211)) L fa cd) (HD.n "k") (forBody (lawS 5)) Q s I 0 rs.length k i (m3 lS lR lP kv (some (.bytes bS tS)) w1 w2 w3)
        ((lR, listOf items.toArray nR) :: (lP, LCg.lst ys) :: (lB, listOf bv.toArray nB) :: (L + 2, o2) :: (led ++ ((L + 1, o1) :: (L + 3, o3) :: tups))) := by
  intro k
  induction k with
  | zero =>
    intro i hik bv nB led kv w1 w2 w3 hb ht ho hI
    have e : i = rs.length := by omega
    subst e
    exact RangeRest.zero fun h tk F N => hdone h tk ⟨bv, nB, led, kv, w1, w2, w3, F, N, hb, ht, ho⟩
  | succ k ih =>
    intro i hik bv nB led kv w1 w2 w3 hb ht ho hI
    refine RangeRest.succ fun t h tk F N => ?_
    have F' : Fr base L h (m3 lS lR lP (some (.int (0 + (i : Int)) t)) (some (.bytes bS tS)) w1 w2 w3) := by
      have := F
      rw [m3_k] at this
      exact this
    have hi : i < rs.length := by omega
    have hlen : items.length = rs.length := hr.len
    obtain ⟨v, hv⟩ : ∃ v, items[i]? = some v := ⟨_, List.getElem?_eq_getElem (by omega)⟩
    obtain ⟨r, hri, D, t1, b, t2, rfl, hmem, hbb⟩ := hr.get hv
    obtain ⟨bp, tp, hy, hbp⟩ := hp.get hri
    obtain ⟨q0, q4, qn, qk⟩ := hro r (List.mem_of_getElem? hri)
    obtain ⟨te, hlast⟩ := hb.2 i (Nat.le_refl _)
    have hsp := catR_split hri
    have hsz : (catR rs).length = (catR (rs.take i)).length + ((rr r.1 r.2).length + (catR (rs.drop (i + 1))).length) := by
      have := congrArg List.length hsp
      rw [List.length_append, List.length_append] at this
      exact this
    have e0 : (0 + (i : Int)).toNat = i := by omega
    have hDB := htB _ hmem
    let tail : List (Addr × Obj) := (I, itR (0 + ((i + 1 : Nat) : Int)) ((rs.length : Int) - ((i + 1 : Nat) : Int))) :: (L + 1, o1) :: (L + 3, o3) :: tups
    have mt : ∀ a ∈ tups.map (·.1), a ∈ lR :: lP :: lB :: (L + 2) :: (L + 1) :: (L + 3) :: tups.map (·.1) := fun a ha => .tail _ (.tail _ (.tail _ (.tail _ (.tail _ (.tail _ ha)))))
    have hxs : (pre : List Int) → pre = catR rs → pre.length ≤ 1000 := fun _ e => e ▸ hz
    refine body5W base { s with heap := h, toks := tk } L fa cd _ E led tail lS lR lP lB D B C1 C2 X T items ys bv nR nB o2 (0 + (i : Int)) t tS te t1 t2 (by omega) (by omega) w1 w2 w3 d2
      r.1 (posR rs i) (posR rs (i + 1)) r.2 (rr r.1 r.2) (catR rs) bS b bp tp (by unfold posR; omega) (by unfold posR; omega) (posR_succ hri) hbS hz hbp hbb (by omega)
      ?hE ?hI ?hsl (by rw [e0]; exact hv) (by rw [e0]; exact hy) (by rw [hb.1]; omega) (by rw [hb.1]; omega) (by rw [hb.1]; exact hlast) F' (News.sub N ?hN) hRB hPB hDB (by omega) ?hoff ht ?hB ?hQ
    case hE =>
      rw [posR_succ hri]
      refine endsU q0 q4 (hbS.trans hsp) qk qn ?_
      rw [← hsp]
      exact hz
    case hI => exact fun b' tb' hb' => insideU q0 q4 hb' qk qn
    case hsl =>
      rw [hsp, posR_succ hri]
      refine (sl_at (k := (rr r.1 r.2).length) rfl rfl).trans ?_
      exact List.take_left
    case hN =>
      intro q hq
      simp only [tail, List.mem_cons, List.mem_append] at hq ⊢
      rcases hq with h1 | h1 | h1 | h1 | h1 | h1 | h1 | h1 | h1 | h1
      · exact .inr (.inl h1)
      · exact .inr (.inr (.inl h1))
      · exact .inr (.inr (.inr (.inl h1)))
      · exact .inr (.inr (.inr (.inr (.inl h1))))
      · exact .inr (.inr (.inr (.inr (.inr (.inr (.inr (.inr (h1 ▸ hmem))))))))
      · exact .inr (.inr (.inr (.inr (.inr (.inl h1)))))
      · exact .inl h1
      · exact .inr (.inr (.inr (.inr (.inr (.inr (.inl h1))))))
      · exact .inr (.inr (.inr (.inr (.inr (.inr (.inr (.inl h1)))))))
      · exact .inr (.inr (.inr (.inr (.inr (.inr (.inr (.inr h1)))))))
    case hoff =>
      intro q hq
      simp only [tail, List.mem_cons] at hq
      rcases hq with h1 | h1 | h1 | h1 | h1 | h1 | h1 | h1 | h1
      · rw [h1]; exact ho _ (.head _)
      · rw [h1]; exact ho _ (.tail _ (.head _))
      · rw [h1]; exact ho _ (.tail _ (.tail _ (.head _)))
      · rw [h1]; exact ho _ (.tail _ (.tail _ (.tail _ (.head _))))
      · rw [h1]; exact ho _ (mt _ (List.mem_map_of_mem hmem))
      · rw [h1]
        intro hm
        obtain ⟨z, hz1, hz2⟩ := List.mem_map.mp hm
        exact hI z hz1 hz2
      · rw [h1]; exact ho _ (.tail _ (.tail _ (.tail _ (.tail _ (.head _)))))
      · rw [h1]; exact ho _ (.tail _ (.tail _ (.tail _ (.tail _ (.tail _ (.head _))))))
      · exact ho _ (mt _ (List.mem_map_of_mem h1))
    case hB =>
      intro q hq
      rcases List.mem_append.mp hq with hq | hq
      · intro e
        exact ho lB (.tail _ (.tail _ (.head _))) (by rw [← e]; exact List.mem_map_of_mem hq)
      · simp only [tail, List.mem_cons] at hq
        rcases hq with h1 | h1 | h1 | h1
        · rw [h1]; exact neG hIB
        · rw [h1]; exact neL (by omega)
        · rw [h1]; exact neL (by omega)
        · exact neL (htB _ h1)
    case hQ =>
      intro h' tk' te' led' w1' w2' w3' F₂ N₂ ht' ho'
      have hpush : bv.toArray.push (Value.int (posR rs (i + 1)) te') = (bv ++ [Value.int (posR rs (i + 1)) te']).toArray := by simp
      rw [hpush] at N₂
      have hIl : ∀ q ∈ led', q.1 ≠ I := fun q hq e => ho' _ (.tail _ (.tail _ (.tail _ (.tail _ (.tail _ (.head _)))))) (by
        show I ∈ _
        rw [← e]
        exact List.mem_map_of_mem hq)
      have hoA : OffA (lR :: lP :: lB :: (L + 2) :: (L + 1) :: (L + 3) :: tups.map (·.1)) led' := by
        intro a ha
        simp only [List.mem_cons] at ha
        rcases ha with h1 | h1 | h1 | h1 | h1 | h1 | h1
        · rw [h1]; exact ho' _ (.head _)
        · rw [h1]; exact ho' _ (.tail _ (.head _))
        · rw [h1]; exact ho' _ (.tail _ (.tail _ (.head _)))
        · rw [h1]; exact ho' _ (.tail _ (.tail _ (.tail _ (.head _))))
        · rw [h1]; exact ho' _ (.tail _ (.tail _ (.tail _ (.tail _ (.tail _ (.tail _ (.head _)))))))
        · rw [h1]; exact ho' _ (.tail _ (.tail _ (.tail _ (.tail _ (.tail _ (.tail _ (.tail _ (.head _))))))))
        · obtain ⟨q, hq, rfl⟩ := List.mem_map.mp h1
          exact ho' _ (.tail _ (.tail _ (.tail _ (.tail _ (.tail _ (.tail _ (.tail _ (.tail _ hq))))))))
      have hr' := ih (i + 1) (by omega) (bv ++ [Value.int (posR rs (i + 1)) te']) (nB + 1) led' (some (.int (0 + (i : Int)) t)) w1' w2' w3' (hb.snoc te') ht' hoA hIl
      show UnrEnd _ _ _ _ _ _ _
      refine UnrEnd.intro F₂ N₂ _ (fun q hq => ?_) (fun q hq => ?_) hr'
      · simp only [tail, List.mem_cons, List.mem_append] at hq ⊢
        rcases hq with h1 | h1 | h1 | h1 | h1 | h1 | h1 | h1 | h1
        · exact .inr (.inr (.inr (.inr (.inr (.inr (.inl h1))))))
        · exact .inl h1
        · exact .inr (.inl h1)
        · exact .inr (.inr (.inl h1))
        · exact .inr (.inr (.inr (.inl h1)))
        · exact .inr (.inr (.inr (.inr (.inr (.inl h1)))))
        · exact .inr (.inr (.inr (.inr (.inr (.inr (.inr (.inl h1)))))))
        · exact .inr (.inr (.inr (.inr (.inr (.inr (.inr (.inr (.inl h1))))))))
        · exact .inr (.inr (.inr (.inr (.inr (.inr (.inr (.inr (.inr h1))))))))
      · simp only [List.mem_cons, List.mem_append] at hq
        rcases hq with h1 | h1 | h1 | h1 | h1 | h1 | h1 | h1
        · rw [h1]; exact neL (by omega)
        · rw [h1]; exact neL (by omega)
        · rw [h1]; exact neL hIB
        · rw [h1]; exact neL (by omega)
        · exact hIl q h1
        · rw [h1]; exact neL (by omega)
        · rw [h1]; exact neL (by omega)
        · have := htB _ h1
          exact neL (by omega)
end
section
local macro_rules | `(tactic| k_all) => `(tactic| (tbn_letter; with_reducible assumption))
local macro_rules | `(tactic| walk_at "exec For Name Call cons nil") => `(tactic| (k_here; (rename Fr _ _ _ _ => lF'); (with_unfolding_all refine' For_invVF lF' ?k1 ?k2 ?_ ?hs ?hE; (case k1 => exact rfl); (case k2 => exact rfl); (case hs => intro _; rfl); (case hE => assumption); k_whole)))
local macro_rules | `(tactic| walk_at "call type:range") => `(tactic| ((with_reducible show wpAny _ _ (call _ [_]) _ _ _); k_here; (rename Fr _ _ _ _ => F'); (rename News _ _ _ _ => N'); (with_unfolding_all refine range1_rows F' N' ?_; intro _ _ _ _ _ _ _ _ _)))
theorem lenL {prog : Program} {w : World} {A : Around} {E : Value → Shared → Prop} {s : Shared} {h₀ : Heap} {L l : Addr} {news : List (Addr × Obj)} {items : List Value} {n : Nat} {Q : Value → Shared → Prop} (N : News h₀ L s.heap news) (hm : (l, listOf items.toArray n) ∈ news) (hfit : items.length < 2 ^ 62)
    (h : ∀ t k, Q (.int (items.length : Int) t) { s with toks := k }) : wpAny (model prog w) A (call (.builtin "len") [.ref l]) Q E s := by
  refine len_list (News.isList N hm) (by rw [List.size_toArray]; omega) ?_
  rw [List.size_toArray]
  exact h _ _
local macro_rules | `(tactic| walk_at "call builtin:len") => `(tactic| (k_here; (with_reducible show wpAny _ _ (call (Value.builtin _) [Value.ref _]) _ _ _); k_dflt (refine' lenL ?k1 ?k2 ?k3 ?_; (case k1 => k_asm); (case k2 => k_mem); (case k3 => omega); k_whole; intro _ _)))
set_option maxHeartbeats 4000000 in
theorem stmt5 {w : World} {p : Program} {loose : List Str} {mean : ExcName → Option Value} {mg mb : Str → Option Value} (base : Heap) (s : Shared) (L fa : Addr) (cd : Value) (Q : Flow → Shared → Prop) (E : Value → Shared → Prop) (lS lR lP lB : Addr)
    (B : Below callerA base [] base) (C1 : CodeHd base 99 95) (C2 : CodeHd base 1655 1651) (X : (HD.KH w.params).In base) (T : Top p loose mean mg mb base) (hE : PassesOwn (model PySem.Challenge.pw_vn0017_01 w) (Around.deeper callerA (envOfC (HD.n "law") (HD.fS (HD.d 211)) L fa cd)) (envOfC (HD.n "law") (HD.fS (HD.d 211)) L fa cd) E)
    (items ys : List Value) (rs : List (Int × List Int)) (nR : Nat) (o1 o2 o3 : Obj) (tups led : List (Addr × Obj)) (bS : Array UInt8) (tS t0 : Tok) (kv : Option Value)
    (hr : RowsAt tups items rs) (hp : PiecesAt ys rs) (hro : ∀ r ∈ rs, RowOk r) (h8 : rs.length ≤ 8) (hbS : KBw.bInts bS = catR rs) (hz : (catR rs).length ≤ 1000) (d2 : o2.data = .cell (some (.ref lB)))
    (hRB : @LT.lt Nat _ lR lB) (hPB : @LT.lt Nat _ lP lB) (hLB : @LT.lt Nat _ (L + 3) lB) (htB : ∀ q ∈ tups, @LT.lt Nat _ q.1 lB) (ht : Tabs led) (hl : AllLt lB led) (ho : OffA (lR :: lP :: lB :: (L + 2) :: (L + 1) :: (L + 3) :: tups.map (·.1)) led)
    (F : Fr base L s.heap (m3 lS lR lP kv (some (.bytes bS tS)) none none none)) (N : News base L s.heap ((lR, listOf items.toArray nR) :: (lP, LCg.lst ys) :: (lB, listOf #[.int 0 t0] 0) :: (L + 2, o2) :: (led ++ ((L + 1, o1) :: (L + 3, o3) :: tups))))
    (hdone : ∀ h tk, St3 base L lS lR lP lB rs items ys nR o1 o2 o3 tups (some (.bytes bS tS)) rs.length h → Q .next { s with heap := h, toks := tk }) :
    wpAny (model PySem.Challenge.pw_vn0017_01 w) (Around.deeper callerA (envOfC (HD.n "law") (HD.fS (HD.d 211)) L fa cd)) (exec (lawS 5) (envOfC (HD.n "law") (HD.fS (HD.d 211)) L fa cd)) Q E s := by
  have hlen : items.length = rs.length := hr.len
  have hR1 := rngSs (N := (items.length : Int)) (R := rs.length) (by omega) (by omega)
  have hR2 := rngS (N := (items.length : Int)) (R := rs.length) (by omega) (by omega)
  unfold m3 m2 m1 at F
  show wpAny _ _ (exec (.For _ _ _ _ _) _) _ _ _
  k_steps
  k_dflt (refine' loop5 base _ L fa cd _ E lS lR lP lB _ B C1 C2 X T items ys rs nR o1 o2 o3 tups bS tS hr hp hro h8 hbS hz d2 hRB hPB hLB htB ?hIB ?hdone rs.length 0 (by omega) [.int 0 t0] 0 led kv none none none ⟨rfl, ?hb⟩ ht ho ?hI)
  case hIB => omega
  case hdone => exact hdone
  case hb =>
    intro j hj
    have e : j = 0 := by omega
    subst e
    exact ⟨t0, rfl⟩
  case hI =>
    intro q hq
    rename @LT.lt Addr _ _ _ ∧ _ => kL
    exact neL (tb_ltOf kL.2.2.2.2 q (List.mem_append_left _ hq))
end
section
def m4 (lS lR lP : Addr) (kv vS w1 w2 w3 jv av : Option Value) : Str → Option Value := fun y => if y = HD.n "ahead" then av else if y = HD.n "j" then jv else m3 lS lR lP kv vS w1 w2 w3 y
def s7 (k : Nat) : Stmt := (forBody (lawS 7)).getD k (.Pass ⟨0, 0, 0, 0⟩)
def callArg : Expr → Expr
  | .Call _ (a :: _) _ _ => a
  | x => x
def lcTest : Expr → Expr
  | .ListComp _ (⟨_, _, ct :: _, _⟩ :: _) _ _ => ct
  | x => x
theorem m4_none (lS lR lP : Addr) (kv vS w1 w2 w3 jv : Option Value) : (fun y => if y = HD.n "j" then jv else m3 lS lR lP kv vS w1 w2 w3 y) = m4 lS lR lP kv vS w1 w2 w3 jv none := by
  funext y
  unfold m4
  by_cases h : y = HD.n "ahead"
  · subst h
    rfl
  · simp only [h, if_false]
theorem m4_j (lS lR lP : Addr) (kv vS w1 w2 w3 jv av v : Option Value) : (fun y => if y = HD.n "j" then v else m4 lS lR lP kv vS w1 w2 w3 jv av y) = m4 lS lR lP kv vS w1 w2 w3 v av := by
  funext y
  by_cases h : y = HD.n "j"
  · subst h
    rfl
  · unfold m4
    simp only [h, if_false]
theorem m4_a (lS lR lP : Addr) (kv vS w1 w2 w3 jv av v : Option Value) : (fun y => if y = HD.n "ahead" then v else m4 lS lR lP kv vS w1 w2 w3 jv av y) = m4 lS lR lP kv vS w1 w2 w3 jv v := by
  funext y
  unfold m4
  by_cases h : y = HD.n "ahead"
  · simp only [h, if_true]
  · simp only [h, if_false]
def num7 (ns : List Int) (j : Int) : Int := lawAt ns (9 + j) (([30, 77] : List Int).getD j.toNat 0)
local macro_rules | `(tactic| k_all) => `(tactic| (tbn_letter; with_reducible assumption))
local macro_rules | `(tactic| walk_at "call ref") => `(tactic| (k_here; (with_reducible show wpAny _ _ (call (Value.ref 1788) _) _ _ _); k_dflt (refine' atC ?k0 ?kn _ _ _ _ _ _ _ _ _ _ _ _ _ ?k1 ?k2 ?k3 ?k4 ?k5 ?k6 ?k7 ?k8 ?_; (case k0 => omega); (case kn => omega); (case k1 => assumption); (case k2 => k_asm); (case k3 => k_asm); (case k4 => k_asm); (case k5 => k_asm); (case k6 => exact rfl); (case k7 => assumption); (case k8 => assumption); k_whole; intro t' h' tk' F' N')))
local macro_rules | `(tactic| walk_at "call builtin:len") => `(tactic| (k_here; (with_reducible show wpAny _ _ (call (Value.builtin _) [Value.ref _]) _ _ _); k_dflt (refine' lenL ?k1 ?k2 ?k3 ?_; (case k1 => k_asm); (case k2 => k_mem); (case k3 => omega); k_whole; intro _ _)))
local macro_rules | `(tactic| walk_at "call type:range") => `(tactic| ((with_reducible show wpAny _ _ (call _ [_]) _ _ _); k_here; (rename Fr _ _ _ _ => F'); (rename News _ _ _ _ => N'); (with_unfolding_all refine range1_rows F' N' ?_; intro _ _ _ _ _ _ _ _ _)))
set_option maxHeartbeats 4000000 in
theorem stmt7a {w : World} {p : Program} {loose : List Str} {mean : ExcName → Option Value} {mg mb : Str → Option Value} (base : Heap) (s : Shared) (L fa : Addr) (cd : Value) (Q : Flow → Shared → Prop) (E : Value → Shared → Prop) (tail : List (Addr × Obj)) (lS lR lP lB : Addr)
    (B : Below callerA base [] base) (X : (HD.KH w.params).In base) (T : Top p loose mean mg mb base) (vs : List Value) (ns xs : List Int)
    (hl : base.IsList lS vs.toArray) (hi : IntsAre vs ns) (hn : ns.length ≤ 63) (o3 : Obj) (v3 : Option Value) (j : Int) (t tS : Tok) (bS : Array UInt8) (hj0 : 0 ≤ j) (hj2 : j < 2) (kv w1 w2 w3 av : Option Value) 
    (d3 : o3.data = .cell v3) (hbS : KBw.bInts bS = xs) (hxs : xs.length ≤ 1000)
    (F : Fr base L s.heap (m4 lS lR lP kv (some (.bytes bS tS)) w1 w2 w3 (some (.int j t)) av)) (N : News base L s.heap ((L + 3, o3) :: tail)) (ht3 : ∀ q ∈ tail, q.1 ≠ L + 3)
    (hQ : ∀ h tk o3' tc, Fr base L h (m4 lS lR lP kv (some (.bytes bS tS)) w1 w2 w3 (some (.int j t)) av) → o3'.data = .cell (some (.int ((num7 ns j).fmod ((xs.length : Int) + 1)) tc)) → News base L h ((L + 3, o3') :: tail) → Q .next { s with heap := h, toks := tk }) :
    wpAny (model PySem.Challenge.pw_vn0017_01 w) (Around.deeper callerA (envOfC (HD.n "law") (HD.fS (HD.d 211)) L fa cd)) (exec (s7 0) (envOfC (HD.n "law") (HD.fS (HD.d 211)) L fa cd)) Q E s := by
  unfold m4 m3 m2 m1 at F
  show wpAny _ _ (exec (.Assign _ _ _) _) _ _ _
  k_steps
  rename Fr _ _ _ _ => kF
  rename News _ _ _ _ => kN
  exact hQ _ _ _ _ kF (by assumption) (fun p hp => kN p (.tail _ hp))
end
section
local macro_rules | `(tactic| walk_at "subscriptTail") => `(tactic| (k_here; (with_reducible show wpAny _ _ (subscriptTail _ _ (Value.ref _) (Value.int _ _)) _ _ _); k_dflt (refine' itemAt ?k1 ?k2 ?k3 ?k4 ?k5 ?_ ?k6; (case k1 => k_asm); (case k2 => k_mem); (case k5 => with_reducible assumption); (case k3 => omega); (case k4 => omega); (case k6 => with_unfolding_all rfl); k_whole)))
local macro_rules | `(tactic| walk_at "subscriptTail") => `(tactic| (k_here; (with_reducible show wpAny _ _ (subscriptTail _ _ (Value.ref _) (Value.int (-1) _)) _ _ _); k_dflt (refine' itemLast ?k1 ?k2 ?k3 ?k5 ?_ ?k6; (case k1 => k_asm); (case k2 => k_mem); (case k5 => with_reducible assumption); (case k3 => with_reducible assumption); (case k6 => with_unfolding_all rfl); k_whole)))
abbrev clC (L : Addr) : List (Str × Addr) := [(HD.n "cut", L + 3), (HD.n "borders", L + 2)]
abbrev eC : Expr := callArg (asgV (s7 1))
set_option maxHeartbeats 1000000 in
theorem testC {w : World} {p : Program} {loose : List Str} {mean : ExcName → Option Value} {mg mb : Str → Option Value} (base : Heap) (s : Shared) (L fa : Addr) (cd : Value) (m m₂ : Str → Option Value) (Q : Bool → Shared → Prop) (E : Value → Shared → Prop) (tail : List (Addr × Obj)) (C lB : Addr) (oC : Obj)
    (B : Below callerA base [] base) (X : (HD.KH w.params).In base) (T : Top p loose mean mg mb base)
    (bv : List Value) (nB : Nat) (o2 o3 : Obj) (k e cut : Int) (t te tc : Tok) (hns : LCg.NsObj oC m₂) (hm1 : m₂ (HD.n "k") = some (.int k t)) (h0 : 0 ≤ k) (hk : k < 100) (hx : bv[k.toNat]? = some (.int e te))
    (d2 : o2.data = .cell (some (.ref lB))) (d3 : o3.data = .cell (some (.int cut tc)))
    (F : Fr base L s.heap m) (N : News base L s.heap ((C, oC) :: (lB, listOf bv.toArray nB) :: (L + 2, o2) :: (L + 3, o3) :: tail))
    (hQ : ∀ ok h tk, ok = decide (e ≤ cut) → Fr base L h m → News base L h ((C, oC) :: (lB, listOf bv.toArray nB) :: (L + 2, o2) :: (L + 3, o3) :: tail) → Q ok { s with heap := h, toks := tk }) :
    wpAny (model PySem.Challenge.pw_vn0017_01 w) (Around.deeper callerA (envOfC (HD.n "law") (HD.fS (HD.d 211)) L fa cd)) (isTrue (lcTest eC) (compEnvC (lcScope eC) (clC L) C (envOfC (HD.n "law") (HD.fS (HD.d 211)) L fa cd)) (eval (lcTest eC) (compEnvC (lcScope eC) (clC L) C (envOfC (HD.n "law") (HD.fS (HD.d 211)) L fa cd)))) Q E s := by
  show wpAny _ _ (PySem.isTrue (.Compare _ _ _ _) _ (eval (.Compare _ _ _ _) _)) _ _ _
  k_steps
  exact hQ _ _ _ rfl F N
def pick (rs : List (Int × List Int)) (cut : Int) : Nat → List Int
  | 0 => []
  | i + 1 => if posR rs i ≤ cut then pick rs cut i ++ [(i : Int)] else pick rs cut i
theorem intsAre_snoc {vs : List Value} {ns : List Int} (h : IntsAre vs ns) (x : Int) (t : Tok) : IntsAre (vs ++ [.int x t]) (ns ++ [x]) := by
  induction h with
  | nil => exact IntsAre.cons x t IntsAre.nil
  | cons y u _ ih => exact IntsAre.cons y u ih
theorem loopC {w : World} {p : Program} {loose : List Str} {mean : ExcName → Option Value} {mg mb : Str → Option Value} (base : Heap) (s : Shared) (L fa : Addr) (cd : Value) (m : Str → Option Value) (tail : List (Addr × Obj)) (lB : Addr)
    (B : Below callerA base [] base) (X : (HD.KH w.params).In base) (T : Top p loose mean mg mb base)
    (bv : List Value) (nB : Nat) (o2 o3 : Obj) (cut : Int) (tc : Tok) (rs : List (Int × List Int)) (hb : BordAt bv rs rs.length) (h8 : rs.length ≤ 8)
    (d2 : o2.data = .cell (some (.ref lB))) (d3 : o3.data = .cell (some (.int cut tc))) (Fin : List Value → List (Addr × Obj) → Prop)
    (hfin : ∀ ys, IntsAre ys (pick rs cut (rs.length + 1)) → Fin ys ((lB, listOf bv.toArray nB) :: (L + 2, o2) :: (L + 3, o3) :: tail)) :
    ∀ (k i : Nat) (ys : List Value), i + k = rs.length + 1 → IntsAre ys (pick rs cut i) →
      LCt.CompRestT PySem.Challenge.pw_vn0017_01 w (Around.deeper callerA (envOfC (HD.n "law") (HD.fS (HD.d 211)) L fa cd)) base L m (envOfC (HD.n "law") (HD.fS (HD.d 211)) L fa cd) (lcTest eC) (lcElt eC) (HD.n "k") (lcScope eC) (clC L) s (fun _ => True) (fun i v => ∃ t, v = .int (0 + (i : Int)) t) Fin k i ys ((lB, listOf bv.toArray nB) :: (L + 2, o2) :: (L + 3, o3) :: tail) := by
  intro k
  induction k with
  | zero =>
    intro i ys hik hp
    have e : i = rs.length + 1 := by omega
    subst e
    exact LCt.CompRestT.zero (hfin ys hp)
  | succ k ih =>
    intro i ys hik hp
    refine LCt.CompRestT.succ fun v I oI C oC D m₂ h tk E' hv hns hx F N off3 ne => ?_
    obtain ⟨t, rfl⟩ := hv
    obtain ⟨te, hbi⟩ := hb.2 i (by omega)
    refine testC base { s with heap := h, toks := tk } L fa cd m m₂ _ E' ((I, oI) :: (D, LCg.lst ys) :: tail) C lB oC B X T bv nB o2 o3 (0 + (i : Int)) (posR rs i) cut t te tc hns hx (by omega) (by omega) (by rw [show (0 + (i : Int)).toNat = i by omega]; exact hbi) d2 d3 F (News.sub N fun q hq => ?_) (fun ok h' tk' hok F' N' => ?_)
    · simp only [List.mem_cons] at hq ⊢
      rcases hq with h1 | h1 | h1 | h1 | h1 | h1 | h1
      · exact .inr (.inl h1)
      · exact .inr (.inr (.inr (.inl h1)))
      · exact .inr (.inr (.inr (.inr (.inl h1))))
      · exact .inr (.inr (.inr (.inr (.inr (.inl h1)))))
      · exact .inl h1
      · exact .inr (.inr (.inl h1))
      · exact .inr (.inr (.inr (.inr (.inr (.inr h1)))))
    · have hsub : ∀ q ∈ (I, oI) :: (C, oC) :: (D, LCg.lst ys) :: (lB, listOf bv.toArray nB) :: (L + 2, o2) :: (L + 3, o3) :: tail, q ∈ (C, oC) :: (lB, listOf bv.toArray nB) :: (L + 2, o2) :: (L + 3, o3) :: (I, oI) :: (D, LCg.lst ys) :: tail := fun q hq => by
        simp only [List.mem_cons] at hq ⊢
        rcases hq with h1 | h1 | h1 | h1 | h1 | h1 | h1
        · exact .inr (.inr (.inr (.inr (.inl h1))))
        · exact .inl h1
        · exact .inr (.inr (.inr (.inr (.inr (.inl h1)))))
        · exact .inr (.inl h1)
        · exact .inr (.inr (.inl h1))
        · exact .inr (.inr (.inr (.inl h1)))
        · exact .inr (.inr (.inr (.inr (.inr (.inr h1)))))
      by_cases hle : posR rs i ≤ cut
      · have e1 : ok = true := by rw [hok]; exact decide_eq_true hle
        rw [if_pos e1]
        have hp' : IntsAre (ys ++ [.int (0 + (i : Int)) t]) (pick rs cut (i + 1)) := by
          have e2 : pick rs cut (i + 1) = pick rs cut i ++ [0 + (i : Int)] := by
            show (if posR rs i ≤ cut then _ else _) = _
            rw [if_pos hle, Int.zero_add]
          rw [e2]
          exact intsAre_snoc hp _ _
        have hr' := ih (i + 1) (ys ++ [.int (0 + (i : Int)) t]) (by omega) hp'
        show wpAny _ _ (eval (.Name _ _) _) _ _ _
        k_dflt (refine wpAny_Name (wpAny_loadName_local (by rfl) (by rfl) (hns.ns (N'.get (List.Mem.head _))) hx ?_) (by decide))
        exact LCg.CompEnd.intro F' N' _ hsub off3 trivial hr'
      · have e1 : ¬ ok = true := by rw [hok]; simpa using hle
        rw [if_neg e1]
        have hp' : IntsAre ys (pick rs cut (i + 1)) := by
          have e2 : pick rs cut (i + 1) = pick rs cut i := by
            show (if posR rs i ≤ cut then _ else _) = _
            rw [if_neg hle]
          rw [e2]
          exact hp
        exact LCg.CompEnd.intro F' N' _ hsub off3 trivial (ih (i + 1) ys (by omega) hp')
end
section
local macro_rules | `(tactic| k_all) => `(tactic| (tbn_letter; with_reducible assumption))
local macro_rules | `(tactic| walk_at "call ref") => `(tactic| (k_here; (with_reducible show wpAny _ _ (call (Value.ref 1788) _) _ _ _); k_dflt (refine' atC ?k0 ?kn _ _ _ _ _ _ _ _ _ _ _ _ _ ?k1 ?k2 ?k3 ?k4 ?k5 ?k6 ?k7 ?k8 ?_; (case k0 => omega); (case kn => omega); (case k1 => assumption); (case k2 => k_asm); (case k3 => k_asm); (case k4 => k_asm); (case k5 => k_asm); (case k6 => exact rfl); (case k7 => assumption); (case k8 => assumption); k_whole; intro t' h' tk' F' N')))
local macro_rules | `(tactic| walk_at "call builtin:len") => `(tactic| (k_here; (with_reducible show wpAny _ _ (call (Value.builtin _) [Value.ref _]) _ _ _); k_dflt (refine' lenL ?k1 ?k2 ?k3 ?_; (case k1 => k_asm); (case k2 => k_mem); (case k3 => omega); k_whole; intro _ _)))
local macro_rules | `(tactic| walk_at "call type:range") => `(tactic| ((with_reducible show wpAny _ _ (call _ [_]) _ _ _); k_here; (rename Fr _ _ _ _ => F'); (rename News _ _ _ _ => N'); (with_unfolding_all refine range1_rows F' N' ?_; intro _ _ _ _ _ _ _ _ _)))
theorem mem_pick {rs : List (Int × List Int)} {cut x : Int} : ∀ {i : Nat}, x ∈ pick rs cut i ↔ ∃ j, j < i ∧ x = (j : Int) ∧ posR rs j ≤ cut
  | 0 => by
    constructor
    · intro h
      cases h
    · rintro ⟨j, h, _⟩
      omega
  | i + 1 => by
    have ih := mem_pick (rs := rs) (cut := cut) (x := x) (i := i)
    show x ∈ (if posR rs i ≤ cut then pick rs cut i ++ [(i : Int)] else pick rs cut i) ↔ _
    by_cases hle : posR rs i ≤ cut
    · rw [if_pos hle, List.mem_append, ih, List.mem_singleton]
      constructor
      · rintro (⟨j, h1, h2, h3⟩ | h)
        · exact ⟨j, by omega, h2, h3⟩
        · exact ⟨i, by omega, h, hle⟩
      · rintro ⟨j, h1, h2, h3⟩
        by_cases e : j = i
        · exact .inr (by rw [h2, e])
        · exact .inl ⟨j, by omega, h2, h3⟩
    · rw [if_neg hle, ih]
      constructor
      · rintro ⟨j, h1, h2, h3⟩
        exact ⟨j, by omega, h2, h3⟩
      · rintro ⟨j, h1, h2, h3⟩
        by_cases e : j = i
        · exact absurd (e ▸ h3) hle
        · exact ⟨j, by omega, h2, h3⟩
theorem pick_pos {rs : List (Int × List Int)} {cut : Int} (h : 0 ≤ cut) (n : Nat) : 0 < (pick rs cut (n + 1)).length :=
  List.length_pos_of_mem (mem_pick.mpr ⟨0, by omega, rfl, h⟩)
section
variable {prog : Program} {w : World} {A : Around} {E : Value → Shared → Prop} {s : Shared} {h₀ : Heap} {L l : Addr} {m : Str → Option Value} {news : List (Addr × Obj)}
theorem maxU {ys : List Value} {rs : List (Int × List Int)} {cut : Int} {n : Nat} {Q : Value → Shared → Prop} (F : Fr h₀ L s.heap m) (N : News h₀ L s.heap news) (hm : (l, LCg.lst ys) ∈ news) (hi : IntsAre ys (pick rs cut (n + 1))) (h0 : 0 ≤ cut) (hh : A.handled = none)
    (h : ∀ (a : Nat) h' t tk, Fr h₀ L h' m → News h₀ L h' news → a ≤ n → posR rs a ≤ cut → (∀ j, j ≤ n → posR rs j ≤ cut → j ≤ a) → Q (.int (a : Int) t) { s with heap := h', toks := tk }) :
    wpAny (model prog w) A (call (.builtin "max") [.ref l]) Q E s := by
  refine kso_max F N (News.isList N hm) hi (pick_pos h0 n) hh fun h' M t tk F' N' hM hall => ?_
  obtain ⟨a, h1, rfl, h3⟩ := mem_pick.mp hM
  refine h a h' t tk F' N' (by omega) h3 (fun j hj hle => ?_)
  have := hall (j : Int) (mem_pick.mpr ⟨j, by omega, rfl, hle⟩)
  omega
end
local macro_rules | `(tactic| walk_at "eval ListComp") => `(tactic| (k_here; k_dflt (refine LCt.ListComp_T (F₀ := by k_asm) (by with_unfolding_all rfl) (by decide) (by rfl) (by decide) (by rfl) ?_)))
local macro_rules | `(tactic| walk_at "call builtin:max") => `(tactic| (k_here; k_dflt (refine' maxU ?k1 ?k2 ?k3 ?k4 ?k5 ?k6 ?_; (case k1 => k_asm); (case k2 => k_asm); (case k3 => k_mem); (case k4 => with_reducible assumption); (case k5 => with_reducible assumption); (case k6 => with_unfolding_all rfl); k_whole; intro a' h' t' tk' F' N' hz1 hz2 hz3)))
set_option maxHeartbeats 4000000 in
theorem stmt7b {w : World} {p : Program} {loose : List Str} {mean : ExcName → Option Value} {mg mb : Str → Option Value} (base : Heap) (s : Shared) (L fa : Addr) (cd : Value) (Q : Flow → Shared → Prop) (E : Value → Shared → Prop) (tail : List (Addr × Obj)) (lS lR lP lB : Addr)
    (B : Below callerA base [] base) (X : (HD.KH w.params).In base) (T : Top p loose mean mg mb base) (bv : List Value) (nB : Nat) (o2 o3 : Obj) (j cut : Int) (t tc tS : Tok) (bS : Array UInt8) (kv w1 w2 w3 av : Option Value) (rs : List (Int × List Int))
    (d2 : o2.data = .cell (some (.ref lB))) (d3 : o3.data = .cell (some (.int cut tc))) (hb : BordAt bv rs rs.length) (h8 : rs.length ≤ 8) (hc0 : 0 ≤ cut)
    (F : Fr base L s.heap (m4 lS lR lP kv (some (.bytes bS tS)) w1 w2 w3 (some (.int j t)) av)) (N : News base L s.heap ((lB, listOf bv.toArray nB) :: (L + 2, o2) :: (L + 3, o3) :: tail))
    (hQ : ∀ (a : Nat) h tk ta, a ≤ rs.length → posR rs a ≤ cut → (∀ j, j ≤ rs.length → posR rs j ≤ cut → j ≤ a) → Fr base L h (m4 lS lR lP kv (some (.bytes bS tS)) w1 w2 w3 (some (.int j t)) (some (.int (a : Int) ta))) → News base L h ((lB, listOf bv.toArray nB) :: (L + 2, o2) :: (L + 3, o3) :: tail) → Q .next { s with heap := h, toks := tk }) :
    wpAny (model PySem.Challenge.pw_vn0017_01 w) (Around.deeper callerA (envOfC (HD.n "law") (HD.fS (HD.d 211)) L fa cd)) (exec (s7 1) (envOfC (HD.n "law") (HD.fS (HD.d 211)) L fa cd)) Q E s := by
  have hbv := hb.1
  have hR1 := rngSs (N := (bv.length : Int)) (R := rs.length + 1) (by omega) (by omega)
  have hR2 := rngS (N := (bv.length : Int)) (R := rs.length + 1) (by omega) (by omega)
  unfold m4 m3 m2 m1 at F
  show wpAny _ _ (exec (.Assign _ _ _) _) _ _ _
  k_steps
  refine' LCt.CompSrcT.range ?k1 ?k2 ?k3 ?k4 ?k5 ?k6 ?k7 ?_; (case k1 => rfl); (case k2 => k_asm); (case k3 => k_asm); (case k4 => assumption); (case k5 => with_reducible assumption); (case k6 => with_reducible assumption); (case k7 => rw [sizeLine_eq]; omega)
  intro g'
  refine' loopC _ _ _ _ _ _ _ _ ?b ?x ?t _ _ _ _ _ _ _ ?hb ?h8 ?d2 ?d3 _ ?_ _ 0 [] ?e0 IntsAre.nil
  case b => with_reducible assumption
  case x => with_reducible assumption
  case t => with_reducible assumption
  case hb => with_reducible assumption
  case h8 => with_reducible assumption
  case d2 => with_reducible assumption
  case d3 => with_reducible assumption
  case e0 => omega
  k_whole
  intro ys' hys'
  k_steps
  rename Fr _ _ _ _ => kF
  rename News _ _ _ _ => kN
  refine' hQ _ _ _ _ ?z1 ?z2 ?z3 ?ff (fun p hp => kN p ?mm)
  case z1 => with_reducible assumption
  case z2 => with_reducible assumption
  case z3 => with_reducible assumption
  case ff =>
    rw [← m4_a _ _ _ _ _ _ _ _ _ av]
    exact kF
  case mm => first | exact hp | exact .tail _ hp | exact .tail _ (.tail _ hp)
end
section
local macro_rules | `(tactic| walk_at "subscriptTail") => `(tactic| (k_here; (with_reducible show wpAny _ _ (subscriptTail _ _ (Value.ref _) (Value.int _ _)) _ _ _); k_dflt (refine' itemAt ?k1 ?k2 ?k3 ?k4 ?k5 ?_ ?k6; (case k1 => k_asm); (case k2 => k_mem); (case k5 => with_reducible assumption); (case k3 => omega); (case k4 => omega); (case k6 => with_unfolding_all rfl); k_whole)))
local macro_rules | `(tactic| walk_at "subscriptTail") => `(tactic| (k_here; (with_reducible show wpAny _ _ (subscriptTail _ _ (Value.ref _) (Value.int (-1) _)) _ _ _); k_dflt (refine' itemLast ?k1 ?k2 ?k3 ?k5 ?_ ?k6; (case k1 => k_asm); (case k2 => k_mem); (case k5 => with_reducible assumption); (case k3 => with_reducible assumption); (case k6 => with_unfolding_all rfl); k_whole)))
local macro_rules | `(tactic| walk_at "call ref") => `(tactic| (k_here; (with_reducible show wpAny _ _ (call (Value.ref 1809) _) _ _ _); k_dflt ((rename ∀ (b' : Array UInt8) (tb' : Tok), KBw.bInts b' = _ → LawC 1809 _ _ => hIn'); refine' lawCallK (hIn' _ _ ?e1) ?k1 ?k2 ?k3 ?k4 ?k5 ?k6 ?k7 ?k8 ?k9 ?k10 ?k11 ?k12 ?k13 ?k14 ?_; (case e1 => with_reducible assumption); (case k1 => with_reducible assumption); (case k2 => with_reducible assumption); (case k3 => with_reducible assumption); (case k4 => with_reducible assumption); (case k5 => with_reducible assumption); (case k6 => k_asm); (case k7 => with_reducible assumption); (case k8 => k_asm); (case k9 => with_reducible assumption); (case k10 => exact rfl); (case k11 => with_reducible assumption); (case k12 => with_reducible assumption); (case k13 => with_reducible assumption); (case k14 => exact rfl); k_whole; intro v' h' tk' led' F' N' o' t' hB' r'; obtain ⟨te', hte'⟩ := r'; subst hte')))
set_option maxHeartbeats 4000000 in
theorem stmt7c {w : World} {p : Program} {loose : List Str} {mean : ExcName → Option Value} {mg mb : Str → Option Value} (base : Heap) (s : Shared) (L fa : Addr) (cd : Value) (Q : Flow → Shared → Prop) (E : Value → Shared → Prop) (led tail : List (Addr × Obj)) (lS lR lP lB D : Addr)
    (B : Below callerA base [] base) (C1 : CodeHd base 99 95) (C2 : CodeHd base 1655 1651) (X : (HD.KH w.params).In base) (T : Top p loose mean mg mb base)
    (items bv : List Value) (nR nB : Nat) (o2 o3 : Obj) (a e cut : Int) (t te tc tS ta t1 t2 : Tok) (bS b : Array UInt8) (kv w1 w2 w3 jv : Option Value) (mk : Int) (xs zs : List Int)
    (d2 : o2.data = .cell (some (.ref lB))) (d3 : o3.data = .cell (some (.int cut tc))) (h0 : 0 ≤ a) (ha : a < 100) (hx : bv[a.toNat]? = some (.int e te))
    (hbS : KBw.bInts bS = xs) (hxs : xs.length ≤ 1000) (hc : e < cut) (hx1 : items[a.toNat]? = some (.ref D)) (hsl : sl xs (some e) (some cut) = zs)
    (hI : ∀ (b' : Array UInt8) (tb' : Tok), KBw.bInts b' = zs → LawC 1809 [.int mk t1, .bytes b' tb'] IsRef)
    (F : Fr base L s.heap (m4 lS lR lP kv (some (.bytes bS tS)) w1 w2 w3 jv (some (.int a ta)))) (N : News base L s.heap ((lR, listOf items.toArray nR) :: (L + 3, o3) :: (lB, listOf bv.toArray nB) :: (L + 2, o2) :: (D, tup2 mk t1 b t2) :: (led ++ tail)))
    (off : ∀ q ∈ (lR, listOf items.toArray nR) :: (L + 3, o3) :: (lB, listOf bv.toArray nB) :: (L + 2, o2) :: (D, tup2 mk t1 b t2) :: tail, q.1 ∉ led.map (·.1)) (ht : Tabs led) (hB : ∀ q ∈ led ++ tail, q.1 ≠ lB)
    (hQ : ∀ h tk led', Fr base L h (m4 lS lR lP kv (some (.bytes bS tS)) w1 w2 w3 jv (some (.int a ta))) → News base L h ((lR, listOf items.toArray nR) :: (L + 3, o3) :: (lB, listOf bv.toArray nB) :: (L + 2, o2) :: (D, tup2 mk t1 b t2) :: (led' ++ tail)) → Tabs led' →
      (∀ q ∈ (lR, listOf items.toArray nR) :: (L + 3, o3) :: (lB, listOf bv.toArray nB) :: (L + 2, o2) :: (D, tup2 mk t1 b t2) :: tail, q.1 ∉ led'.map (·.1)) → Q .next { s with heap := h, toks := tk }) :
    wpAny (model PySem.Challenge.pw_vn0017_01 w) (Around.deeper callerA (envOfC (HD.n "law") (HD.fS (HD.d 211)) L fa cd)) (exec (s7 2) (envOfC (HD.n "law") (HD.fS (HD.d 211)) L fa cd)) Q E s := by
  unfold m4 m3 m2 m1 at F
  show wpAny _ _ (exec (.If _ _ _ _) _) _ _ _
  k_steps
  rename Fr _ _ _ _ => kF
  rename News _ _ _ _ => kN
  refine' hQ _ _ _ kF ?nn ?tt ?oo
  case nn => with_reducible assumption
  case tt => with_reducible assumption
  case oo => with_reducible assumption
set_option maxHeartbeats 4000000 in
theorem stmt7n {w : World} {p : Program} {loose : List Str} {mean : ExcName → Option Value} {mg mb : Str → Option Value} (base : Heap) (s : Shared) (L fa : Addr) (cd : Value) (Q : Flow → Shared → Prop) (E : Value → Shared → Prop) (tail : List (Addr × Obj)) (lS lR lP lB : Addr)
    (B : Below callerA base [] base) (X : (HD.KH w.params).In base) (T : Top p loose mean mg mb base)
    (bv : List Value) (nB : Nat) (o2 o3 : Obj) (a e cut : Int) (te tc tS ta : Tok) (bS : Array UInt8) (kv w1 w2 w3 jv : Option Value)
    (d2 : o2.data = .cell (some (.ref lB))) (d3 : o3.data = .cell (some (.int cut tc))) (h0 : 0 ≤ a) (ha : a < 100) (hx : bv[a.toNat]? = some (.int e te)) (hc : ¬ e < cut)
    (F : Fr base L s.heap (m4 lS lR lP kv (some (.bytes bS tS)) w1 w2 w3 jv (some (.int a ta)))) (N : News base L s.heap ((L + 3, o3) :: (lB, listOf bv.toArray nB) :: (L + 2, o2) :: tail))
    (hQ : ∀ h tk, Fr base L h (m4 lS lR lP kv (some (.bytes bS tS)) w1 w2 w3 jv (some (.int a ta))) → News base L h ((L + 3, o3) :: (lB, listOf bv.toArray nB) :: (L + 2, o2) :: tail) → Q .next { s with heap := h, toks := tk }) :
    wpAny (model PySem.Challenge.pw_vn0017_01 w) (Around.deeper callerA (envOfC (HD.n "law") (HD.fS (HD.d 211)) L fa cd)) (exec (s7 2) (envOfC (HD.n "law") (HD.fS (HD.d 211)) L fa cd)) Q E s := by
  unfold m4 m3 m2 m1 at F
  show wpAny _ _ (exec (.If _ _ _ _) _) _ _ _
  k_steps
  rename Fr _ _ _ _ => kF
  rename News _ _ _ _ => kN
  exact hQ _ _ kF kN
set_option maxHeartbeats 4000000 in
theorem stmt6 {w : World} {p : Program} {loose : List Str} {mean : ExcName → Option Value} {mg mb : Str → Option Value} (base : Heap) (s : Shared) (L fa : Addr) (cd : Value) (Q : Flow → Shared → Prop) (E : Value → Shared → Prop) (tail : List (Addr × Obj)) (lS lR lP lB : Addr)
    (B : Below callerA base [] base) (X : (HD.KH w.params).In base) (T : Top p loose mean mg mb base)
    (bv : List Value) (nB : Nat) (o2 : Obj) (te tS : Tok) (bS : Array UInt8) (xs : List Int) (kv w1 w2 w3 : Option Value)
    (d2 : o2.data = .cell (some (.ref lB))) (hb1 : 1 ≤ bv.length) (hx : bv[bv.length - 1]? = some (.int (xs.length : Int) te)) (hbS : KBw.bInts bS = xs) (hxs : xs.length ≤ 1000)
    (F : Fr base L s.heap (m3 lS lR lP kv (some (.bytes bS tS)) w1 w2 w3)) (N : News base L s.heap ((lB, listOf bv.toArray nB) :: (L + 2, o2) :: tail))
    (hQ : ∀ h tk, Fr base L h (m3 lS lR lP kv (some (.bytes bS tS)) w1 w2 w3) → News base L h ((lB, listOf bv.toArray nB) :: (L + 2, o2) :: tail) → Q .next { s with heap := h, toks := tk }) :
    wpAny (model PySem.Challenge.pw_vn0017_01 w) (Around.deeper callerA (envOfC (HD.n "law") (HD.fS (HD.d 211)) L fa cd)) (exec (lawS 6) (envOfC (HD.n "law") (HD.fS (HD.d 211)) L fa cd)) Q E s := by
  unfold m3 m2 m1 at F
  show wpAny _ _ (exec (.If _ _ _ _) _) _ _ _
  k_steps
  · rename ((_ : Nat) : Int) ≠ _ => hne
    exact absurd rfl hne
  · rename Fr _ _ _ _ => kF
    rename News _ _ _ _ => kN
    exact hQ _ _ kF kN
end
section
abbrev HC0 : Prop := ∀ {xs : List Int} {n : Nat} {b : Array UInt8} {tm tb : Tok}, KBw.bInts b = xs → n ≤ 40 → xs.length < 4 → LedC 1809 [.int 0 tm, .bytes b tb] [] (fun _ => IsRef)
theorem posR_all (rs : List (Int × List Int)) : posR rs rs.length = ((catR rs).length : Int) := by
  unfold posR
  rw [List.take_length]
theorem body7 (H : HC0) {w : World} {p : Program} {loose : List Str} {mean : ExcName → Option Value} {mg mb : Str → Option Value} (base : Heap) (s : Shared) (L fa : Addr) (cd : Value) (Q : Flow → Shared → Prop) (E : Value → Shared → Prop) (led tail : List (Addr × Obj)) (lS lR lP lB : Addr)
    (B : Below callerA base [] base) (C1 : CodeHd base 99 95) (C2 : CodeHd base 1655 1651) (X : (HD.KH w.params).In base) (T : Top p loose mean mg mb base)
    (vs : List Value) (ns : List Int) (hl : base.IsList lS vs.toArray) (hi : IntsAre vs ns) (hn : ns.length ≤ 63)
    (items bv : List Value) (nR nB : Nat) (o2 o3 : Obj) (v3 : Option Value) (j : Int) (t tS : Tok) (bS : Array UInt8) (kv w1 w2 w3 av : Option Value) (rs : List (Int × List Int)) (hj0 : 0 ≤ j) (hj2 : j < 2)
    (hr : RowsAt tail items rs) (hro : ∀ r ∈ rs, RowOk r) (h8 : rs.length ≤ 8) (hbS : KBw.bInts bS = catR rs) (hz : (catR rs).length ≤ 1000) (hb : BordAt bv rs rs.length)
    (d2 : o2.data = .cell (some (.ref lB))) (d3 : o3.data = .cell v3) (hLR : lR ≠ L + 3) (hLB : lB ≠ L + 3) (h3 : ∀ q ∈ tail, q.1 ≠ L + 3) (hB : ∀ q ∈ tail, q.1 ≠ lB) (ht : Tabs led) (ho : OffA (lR :: (L + 3) :: lB :: (L + 2) :: tail.map (·.1)) led)
    (F : Fr base L s.heap (m4 lS lR lP kv (some (.bytes bS tS)) w1 w2 w3 (some (.int j t)) av)) (N : News base L s.heap ((lR, listOf items.toArray nR) :: (L + 3, o3) :: (lB, listOf bv.toArray nB) :: (L + 2, o2) :: (led ++ tail)))
    (hQ : ∀ h tk led' o3' v3' av', Fr base L h (m4 lS lR lP kv (some (.bytes bS tS)) w1 w2 w3 (some (.int j t)) av') → o3'.data = .cell v3' → News base L h ((lR, listOf items.toArray nR) :: (L + 3, o3') :: (lB, listOf bv.toArray nB) :: (L + 2, o2) :: (led' ++ tail)) → Tabs led' →
      OffA (lR :: (L + 3) :: lB :: (L + 2) :: tail.map (·.1)) led' → Q .next { s with heap := h, toks := tk }) :
    wpAny (model PySem.Challenge.pw_vn0017_01 w) (Around.deeper callerA (envOfC (HD.n "law") (HD.fS (HD.d 211)) L fa cd)) (execs (forBody (lawS 7)) (envOfC (HD.n "law") (HD.fS (HD.d 211)) L fa cd)) Q E s := by
  have offL : ∀ a ∈ lR :: (L + 3) :: lB :: (L + 2) :: tail.map (·.1), ∀ q ∈ led, q.1 ≠ a := fun a ha q hq e => ho a ha (by rw [← e]; exact List.mem_map_of_mem hq)
  show wpAny _ _ (execs (s7 0 :: s7 1 :: s7 2 :: []) _) _ _ _
  refine wpAny_execs_cons ?_
  refine stmt7a base s L fa cd _ E ((lR, listOf items.toArray nR) :: (lB, listOf bv.toArray nB) :: (L + 2, o2) :: (led ++ tail)) lS lR lP lB B X T vs ns (catR rs) hl hi hn o3 v3 j t tS bS hj0 hj2 kv w1 w2 w3 av d3 hbS hz F (News.sub N fun q hq => ?_) (fun q hq => ?_) (fun h1 tk1 o3' tc F1 d3' N1 => ?_)
  · simp only [List.mem_cons] at hq ⊢
    rcases hq with h1 | h1 | h1 | h1 | h1
    · exact .inr (.inl h1)
    · exact .inl h1
    · exact .inr (.inr (.inl h1))
    · exact .inr (.inr (.inr (.inl h1)))
    · exact .inr (.inr (.inr (.inr h1)))
  · simp only [List.mem_cons, List.mem_append] at hq
    rcases hq with h1 | h1 | h1 | h1 | h1
    · rw [h1]; exact hLR
    · rw [h1]; exact hLB
    · rw [h1]; exact neL (by omega)
    · exact offL _ (.tail _ (.head _)) q h1
    · exact h3 q h1
  obtain ⟨cut, hcut⟩ : ∃ c, c = (num7 ns j).fmod (((catR rs).length : Int) + 1) := ⟨_, rfl⟩
  have hc0 : 0 ≤ cut := by rw [hcut]; exact Int.fmod_nonneg_of_pos _ (by omega)
  have hc1 : cut ≤ ((catR rs).length : Int) := by
    have := Int.fmod_lt_of_pos (num7 ns j) (show (0 : Int) < ((catR rs).length : Int) + 1 by omega)
    omega
  rw [← hcut] at d3'
  show wpAny _ _ (execs (s7 1 :: s7 2 :: []) _) _ _ _
  refine wpAny_execs_cons ?_
  refine stmt7b base _ L fa cd _ E ((lR, listOf items.toArray nR) :: (led ++ tail)) lS lR lP lB B X T bv nB o2 o3' j cut t tc tS bS kv w1 w2 w3 av rs d2 d3' hb h8 hc0 F1 (News.sub N1 fun q hq => ?_) (fun a h2 tk2 ta ha hle hmax F2 N2 => ?_)
  · simp only [List.mem_cons] at hq ⊢
    rcases hq with h1 | h1 | h1 | h1 | h1
    · exact .inr (.inr (.inl h1))
    · exact .inr (.inr (.inr (.inl h1)))
    · exact .inl h1
    · exact .inr (.inl h1)
    · exact .inr (.inr (.inr (.inr h1)))
  obtain ⟨te, hbe⟩ := hb.2 a ha
  have ea : ((a : Nat) : Int).toNat = a := by omega
  show wpAny _ _ (execs (s7 2 :: []) _) _ _ _
  refine wpAny_execs_cons ?_
  by_cases hlt : posR rs a < cut
  · have hal : a < rs.length := by
      rcases Nat.lt_or_ge a rs.length with h | h
      · exact h
      · have e : a = rs.length := by omega
        rw [e, posR_all] at hlt
        omega
    have hlen : items.length = rs.length := hr.len
    obtain ⟨v, hv⟩ : ∃ v, items[a]? = some v := ⟨_, List.getElem?_eq_getElem (by omega)⟩
    obtain ⟨r, hri, D, t1, b, t2, rfl, hmem, hbb⟩ := hr.get hv
    obtain ⟨q0, q4, qn, qk⟩ := hro r (List.mem_of_getElem? hri)
    have hnx : cut < posR rs (a + 1) := by
      rcases Int.lt_or_le cut (posR rs (a + 1)) with h | h
      · exact h
      · have := hmax (a + 1) (by omega) h
        omega
    rw [posR_succ hri] at hnx
    obtain ⟨c, hc⟩ : ∃ c : Nat, cut = posR rs a + (c : Int) := ⟨(cut - posR rs a).toNat, by omega⟩
    have hsl : sl (catR rs) (some (posR rs a)) (some cut) = (rr r.1 r.2).take c := by
      rw [catR_split hri, hc]
      refine (sl_at (k := c) rfl rfl).trans ?_
      exact List.take_append_of_le_length (by omega)
    have hm : ∀ q ∈ (lR, listOf items.toArray nR) :: (L + 3, o3') :: (lB, listOf bv.toArray nB) :: (L + 2, o2) :: (D, tup2 r.1 t1 b t2) :: tail, q.1 ∈ lR :: (L + 3) :: lB :: (L + 2) :: tail.map (·.1) := fun q hq => by
      simp only [List.mem_cons] at hq ⊢
      rcases hq with h1 | h1 | h1 | h1 | h1 | h1
      · exact .inl (by rw [h1])
      · exact .inr (.inl (by rw [h1]))
      · exact .inr (.inr (.inl (by rw [h1])))
      · exact .inr (.inr (.inr (.inl (by rw [h1]))))
      · exact .inr (.inr (.inr (.inr (by rw [h1]; exact List.mem_map_of_mem hmem))))
      · exact .inr (.inr (.inr (.inr (List.mem_map_of_mem h1))))
    refine stmt7c base _ L fa cd _ E led tail lS lR lP lB D B C1 C2 X T items bv nR nB o2 o3' (a : Int) (posR rs a) cut t te tc tS ta t1 t2 bS b kv w1 w2 w3 (some (.int j t)) r.1 (catR rs) ((rr r.1 r.2).take c) d2 d3' (by omega) (by omega) (by rw [ea]; exact hbe) hbS hz hlt (by rw [ea]; exact hv) hsl
      (fun b' tb' hb' => cutU (@H) q0 q4 hb' qk qn (by omega) (by omega)) F2 (News.sub N2 fun q hq => ?_) (fun q hq => ho _ (hm q hq)) ht (fun q hq => ?_) (fun h3' tk3 led' F3 N3 ht' ho' => ?_)
    · simp only [List.mem_cons, List.mem_append] at hq ⊢
      rcases hq with h1 | h1 | h1 | h1 | h1 | h1 | h1
      · exact .inr (.inr (.inr (.inl h1)))
      · exact .inr (.inr (.inl h1))
      · exact .inl h1
      · exact .inr (.inl h1)
      · exact .inr (.inr (.inr (.inr (.inr (h1 ▸ hmem)))))
      · exact .inr (.inr (.inr (.inr (.inl h1))))
      · exact .inr (.inr (.inr (.inr (.inr h1))))
    · rcases List.mem_append.mp hq with hq | hq
      · exact offL lB (.tail _ (.tail _ (.head _))) q hq
      · exact hB q hq
    · show wpAny _ _ (execs [] _) _ _ _
      refine wpAny_execs_nil (hQ h3' tk3 led' o3' _ _ F3 d3' (News.sub N3 fun q hq => ?_) ht' ?_)
      · simp only [List.mem_cons, List.mem_append] at hq ⊢
        rcases hq with h1 | h1 | h1 | h1 | h1 | h1
        · exact .inl h1
        · exact .inr (.inl h1)
        · exact .inr (.inr (.inl h1))
        · exact .inr (.inr (.inr (.inl h1)))
        · exact .inr (.inr (.inr (.inr (.inr (.inl h1)))))
        · exact .inr (.inr (.inr (.inr (.inr (.inr h1)))))
      · intro x hx
        simp only [List.mem_cons] at hx
        rcases hx with h1 | h1 | h1 | h1 | h1
        · rw [h1]; exact ho' _ (.head _)
        · rw [h1]; exact ho' _ (.tail _ (.head _))
        · rw [h1]; exact ho' _ (.tail _ (.tail _ (.head _)))
        · rw [h1]; exact ho' _ (.tail _ (.tail _ (.tail _ (.head _))))
        · obtain ⟨q, hq, rfl⟩ := List.mem_map.mp h1
          exact ho' _ (.tail _ (.tail _ (.tail _ (.tail _ (.tail _ hq)))))
  · refine stmt7n base _ L fa cd _ E ((lR, listOf items.toArray nR) :: (led ++ tail)) lS lR lP lB B X T bv nB o2 o3' (a : Int) (posR rs a) cut te tc tS ta bS kv w1 w2 w3 (some (.int j t)) d2 d3' (by omega) (by omega) (by rw [ea]; exact hbe) hlt F2 (News.sub N2 fun q hq => ?_) (fun h3' tk3 F3 N3 => ?_)
    · simp only [List.mem_cons] at hq ⊢
      rcases hq with h1 | h1 | h1 | h1 | h1
      · exact .inr (.inr (.inl h1))
      · exact .inl h1
      · exact .inr (.inl h1)
      · exact .inr (.inr (.inr (.inl h1)))
      · exact .inr (.inr (.inr (.inr h1)))
    · show wpAny _ _ (execs [] _) _ _ _
      refine wpAny_execs_nil (hQ h3' tk3 led o3' _ _ F3 d3' (News.sub N3 fun q hq => ?_) ht ho)
      simp only [List.mem_cons] at hq ⊢
      rcases hq with h1 | h1 | h1 | h1 | h1
      · exact .inr (.inr (.inr (.inl h1)))
      · exact .inl h1
      · exact .inr (.inl h1)
      · exact .inr (.inr (.inl h1))
      · exact .inr (.inr (.inr (.inr h1)))
end
section
/-- the last loop, so far -/
def St7 (base : Heap) (L lS lR lP lB : Addr) (items bv : List Value) (nR nB : Nat) (o2 : Obj) (tail : List (Addr × Obj)) (kv vS w1 w2 w3 : Option Value) (h : Heap) : Prop :=
  ∃ led o3 v3 jv av, Fr base L h (m4 lS lR lP kv vS w1 w2 w3 jv av) ∧ News base L h ((lR, listOf items.toArray nR) :: (L + 3, o3) :: (lB, listOf bv.toArray nB) :: (L + 2, o2) :: (led ++ tail)) ∧ o3.data = .cell v3 ∧ Tabs led ∧ OffA (lR :: (L + 3) :: lB :: (L + 2) :: tail.map (·.1)) led
theorem loop7 (H : HC0) {w : World} {p : Program} {loose : List Str} {mean : ExcName → Option Value} {mg mb : Str → Option Value} (base : Heap) (s : Shared) (L fa : Addr) (cd : Value) (Q : Flow → Shared → Prop) (E : Value → Shared → Prop) (tail : List (Addr × Obj)) (lS lR lP lB I : Addr)
    (B : Below callerA base [] base) (C1 : CodeHd base 99 95) (C2 : CodeHd base 1655 1651) (X : (HD.KH w.params).In base) (T : Top p loose mean mg mb base)
    (vs : List Value) (ns : List Int) (hl : base.IsList lS vs.toArray) (hi : IntsAre vs ns) (hn : ns.length ≤ 63)
    (items bv : List Value) (nR nB : Nat) (o2 : Obj) (tS : Tok) (bS : Array UInt8) (kv w1 w2 w3 : Option Value) (rs : List (Int × List Int))
    (hr : RowsAt tail items rs) (hro : ∀ r ∈ rs, RowOk r) (h8 : rs.length ≤ 8) (hbS : KBw.bInts bS = catR rs) (hz : (catR rs).length ≤ 1000) (hb : BordAt bv rs rs.length)
    (d2 : o2.data = .cell (some (.ref lB))) (hLR : lR ≠ L + 3) (hLB : lB ≠ L + 3) (h3 : ∀ q ∈ tail, q.1 ≠ L + 3) (hB : ∀ q ∈ tail, q.1 ≠ lB)
    (R : Nat) (hR : R ≤ 2) (hI : ∀ a ∈ lR :: (L + 3) :: lB :: (L + 2) :: tail.map (·.1), @LT.lt Nat _ a I)
    (hdone : ∀ h tk, St7 base L lS lR lP lB items bv nR nB o2 tail kv (some (.bytes bS tS)) w1 w2 w3 h → Q .next { s with heap := h, toks := tk }) :
    ∀ (k i : Nat), i + k = R → ∀ (led : List (Addr × Obj)) (o3 : Obj) (v3 jv av : Option Value), o3.data = .cell v3 → Tabs led → OffA (lR :: (L + 3) :: lB :: (L + 2) :: tail.map (·.1)) led → (∀ q ∈ led, q.1 ≠ I) →
      RangeRest PySem.Challenge.pw_vn0017_01 w (Around.deeper callerA (envOfC (HD.n "law") (HD.fS (HD.d 211)) L fa cd)) E base (envOfC (HD.n "law") (HD.fS (HD.d 211)) L fa cd) (HD.n "j") (forBody (lawS 7)) Q s I 0 R k i (m4 lS lR lP kv (some (.bytes bS tS)) w1 w2 w3 jv av)
        ((lR, listOf items.toArray nR) :: (L + 3, o3) :: (lB, listOf bv.toArray nB) :: (L + 2, o2) :: (led ++ tail)) := by
  intro k
  induction k with
  | zero =>
    intro i hik led o3 v3 jv av d3 ht ho hIl
    have e : i = R := by omega
    subst e
    exact RangeRest.zero fun h tk F N => hdone h tk ⟨led, o3, v3, jv, av, F, N, d3, ht, ho⟩
  | succ k ih =>
    intro i hik led o3 v3 jv av d3 ht ho hIl
    refine RangeRest.succ fun t h tk F N => ?_
    have F' : Fr base L h (m4 lS lR lP kv (some (.bytes bS tS)) w1 w2 w3 (some (.int (0 + (i : Int)) t)) av) := by
      have := F
      rw [m4_j] at this
      exact this
    let it : Addr × Obj := (I, itR (0 + ((i + 1 : Nat) : Int)) ((R : Int) - ((i + 1 : Nat) : Int)))
    have nI : ∀ a ∈ lR :: (L + 3) :: lB :: (L + 2) :: tail.map (·.1), a ≠ I := fun a ha => neL (hI a ha)
    have ho2 : OffA (lR :: (L + 3) :: lB :: (L + 2) :: (it :: tail).map (·.1)) led := by
      intro a ha
      simp only [List.map_cons, List.mem_cons] at ha
      rcases ha with h1 | h1 | h1 | h1 | h1 | h1
      · rw [h1]; exact ho _ (.head _)
      · rw [h1]; exact ho _ (.tail _ (.head _))
      · rw [h1]; exact ho _ (.tail _ (.tail _ (.head _)))
      · rw [h1]; exact ho _ (.tail _ (.tail _ (.tail _ (.head _))))
      · rw [h1]
        intro hm
        obtain ⟨z, hz1, hz2⟩ := List.mem_map.mp hm
        exact hIl z hz1 hz2
      · exact ho _ (.tail _ (.tail _ (.tail _ (.tail _ h1))))
    refine body7 H base { s with heap := h, toks := tk } L fa cd _ E led (it :: tail) lS lR lP lB B C1 C2 X T vs ns hl hi hn items bv nR nB o2 o3 v3 (0 + (i : Int)) t tS bS kv w1 w2 w3 av rs (by omega) (by omega) (hr.mono fun q hq => .tail _ hq) hro h8 hbS hz hb d2 d3 hLR hLB
      (fun q hq => ?_) (fun q hq => ?_) ht ho2 F' (News.sub N fun q hq => ?_) (fun h' tk' led' o3' v3' av' F₂ d3' N₂ ht' ho' => ?_)
    · rcases List.mem_cons.mp hq with h1 | h1
      · rw [h1]; exact Ne.symm (nI _ (.tail _ (.head _)))
      · exact h3 q h1
    · rcases List.mem_cons.mp hq with h1 | h1
      · rw [h1]; exact Ne.symm (nI _ (.tail _ (.tail _ (.head _))))
      · exact hB q h1
    · simp only [List.mem_cons, List.mem_append] at hq ⊢
      rcases hq with h1 | h1 | h1 | h1 | h1 | h1 | h1
      · exact .inr (.inl h1)
      · exact .inr (.inr (.inl h1))
      · exact .inr (.inr (.inr (.inl h1)))
      · exact .inr (.inr (.inr (.inr (.inl h1))))
      · exact .inr (.inr (.inr (.inr (.inr (.inl h1)))))
      · exact .inl h1
      · exact .inr (.inr (.inr (.inr (.inr (.inr h1)))))
    · have hIl' : ∀ q ∈ led', q.1 ≠ I := fun q hq e => ho' I (.tail _ (.tail _ (.tail _ (.tail _ (.head _))))) (by rw [← e]; exact List.mem_map_of_mem hq)
      have ho3 : OffA (lR :: (L + 3) :: lB :: (L + 2) :: tail.map (·.1)) led' := by
        intro a ha
        simp only [List.mem_cons] at ha
        rcases ha with h1 | h1 | h1 | h1 | h1
        · rw [h1]; exact ho' _ (.head _)
        · rw [h1]; exact ho' _ (.tail _ (.head _))
        · rw [h1]; exact ho' _ (.tail _ (.tail _ (.head _)))
        · rw [h1]; exact ho' _ (.tail _ (.tail _ (.tail _ (.head _))))
        · exact ho' _ (.tail _ (.tail _ (.tail _ (.tail _ (.tail _ h1)))))
      have hr' := ih (i + 1) (by omega) led' o3' v3' (some (.int (0 + (i : Int)) t)) av' d3' ht' ho3 hIl'
      show UnrEnd _ _ _ _ _ _ _
      refine UnrEnd.intro F₂ N₂ _ (fun q hq => ?_) (fun q hq => ?_) hr'
      · simp only [List.mem_cons, List.mem_append] at hq ⊢
        rcases hq with h1 | h1 | h1 | h1 | h1 | h1 | h1
        · exact .inr (.inr (.inr (.inr (.inr (.inl h1)))))
        · exact .inl h1
        · exact .inr (.inl h1)
        · exact .inr (.inr (.inl h1))
        · exact .inr (.inr (.inr (.inl h1)))
        · exact .inr (.inr (.inr (.inr (.inl h1))))
        · exact .inr (.inr (.inr (.inr (.inr (.inr h1)))))
      · simp only [List.mem_cons, List.mem_append] at hq
        rcases hq with h1 | h1 | h1 | h1 | h1 | h1
        · rw [h1]; exact nI _ (.head _)
        · rw [h1]; exact nI _ (.tail _ (.head _))
        · rw [h1]; exact nI _ (.tail _ (.tail _ (.head _)))
        · rw [h1]; exact nI _ (.tail _ (.tail _ (.tail _ (.head _))))
        · exact hIl' q h1
        · exact nI _ (.tail _ (.tail _ (.tail _ (.tail _ (List.mem_map_of_mem h1)))))
local macro_rules | `(tactic| k_all) => `(tactic| (tbn_letter; with_reducible assumption))
local macro_rules | `(tactic| walk_at "exec For Name Call cons nil") => `(tactic| (k_here; (rename Fr _ _ _ _ => lF'); (with_unfolding_all refine' For_invVF lF' ?k1 ?k2 ?_ ?hs ?hE; (case k1 => exact rfl); (case k2 => exact rfl); (case hs => intro _; rfl); (case hE => assumption); k_whole)))
local macro_rules | `(tactic| walk_at "call type:range") => `(tactic| ((with_reducible show wpAny _ _ (call _ [_]) _ _ _); k_here; (rename Fr _ _ _ _ => F'); (rename News _ _ _ _ => N'); (with_unfolding_all refine range1_rows F' N' ?_; intro _ _ _ _ _ _ _ _ _)))
set_option maxHeartbeats 4000000 in
theorem stmt7 (H : HC0) {w : World} {p : Program} {loose : List Str} {mean : ExcName → Option Value} {mg mb : Str → Option Value} (base : Heap) (s : Shared) (L fa : Addr) (cd : Value) (Q : Flow → Shared → Prop) (E : Value → Shared → Prop) (led tail : List (Addr × Obj)) (lS lR lP lB : Addr)
    (B : Below callerA base [] base) (C1 : CodeHd base 99 95) (C2 : CodeHd base 1655 1651) (X : (HD.KH w.params).In base) (T : Top p loose mean mg mb base) (hE : PassesOwn (model PySem.Challenge.pw_vn0017_01 w) (Around.deeper callerA (envOfC (HD.n "law") (HD.fS (HD.d 211)) L fa cd)) (envOfC (HD.n "law") (HD.fS (HD.d 211)) L fa cd) E)
    (vs : List Value) (ns : List Int) (hl : base.IsList lS vs.toArray) (hi : IntsAre vs ns) (hn : ns.length ≤ 63)
    (items bv : List Value) (nR nB : Nat) (o2 o3 : Obj) (v3 : Option Value) (tS : Tok) (bS : Array UInt8) (kv w1 w2 w3 : Option Value) (rs : List (Int × List Int))
    (hr : RowsAt tail items rs) (hro : ∀ r ∈ rs, RowOk r) (h8 : rs.length ≤ 8) (hbS : KBw.bInts bS = catR rs) (hz : (catR rs).length ≤ 1000) (hb : BordAt bv rs rs.length)
    (d2 : o2.data = .cell (some (.ref lB))) (d3 : o3.data = .cell v3) (hLR : lR ≠ L + 3) (hLB : lB ≠ L + 3) (h3 : ∀ q ∈ tail, q.1 ≠ L + 3) (hB : ∀ q ∈ tail, q.1 ≠ lB) (ht : Tabs led) (ho : OffA (lR :: (L + 3) :: lB :: (L + 2) :: tail.map (·.1)) led)
    (F : Fr base L s.heap (m3 lS lR lP kv (some (.bytes bS tS)) w1 w2 w3)) (N : News base L s.heap ((lR, listOf items.toArray nR) :: (L + 3, o3) :: (lB, listOf bv.toArray nB) :: (L + 2, o2) :: (led ++ tail)))
    (hQ : ∀ h tk, St7 base L lS lR lP lB items bv nR nB o2 tail kv (some (.bytes bS tS)) w1 w2 w3 h → Q .next { s with heap := h, toks := tk }) :
    wpAny (model PySem.Challenge.pw_vn0017_01 w) (Around.deeper callerA (envOfC (HD.n "law") (HD.fS (HD.d 211)) L fa cd)) (exec (lawS 7) (envOfC (HD.n "law") (HD.fS (HD.d 211)) L fa cd)) Q E s := by
  obtain ⟨R, hR⟩ : ∃ R : Nat, R = 2 := ⟨2, rfl⟩
  have hR1 := rngSs (N := (2 : Int)) (R := R) (by omega) (by omega)
  have hR2 := rngS (N := (2 : Int)) (R := R) (by omega) (by omega)
  have F0 : Fr base L s.heap (m4 lS lR lP kv (some (.bytes bS tS)) w1 w2 w3 none none) := by
    have e : m3 lS lR lP kv (some (.bytes bS tS)) w1 w2 w3 = m4 lS lR lP kv (some (.bytes bS tS)) w1 w2 w3 none none := by
      funext y
      unfold m4
      by_cases h : y = HD.n "ahead"
      · subst h
        rfl
      · by_cases h' : y = HD.n "j"
        · subst h'
          rfl
        · simp only [h, h', if_false]
    rw [← e]
    exact F
  clear F
  show wpAny _ _ (exec (.For _ _ _ _ _) _) _ _ _
  k_steps
  k_dflt (refine' loop7 H base _ L fa cd _ E tail lS lR lP lB _ B C1 C2 X T vs ns hl hi hn items bv nR nB o2 tS bS kv w1 w2 w3 rs hr hro h8 hbS hz hb d2 hLR hLB h3 hB R (by omega) ?hI ?hdone R 0 (by omega) led o3 v3 none none d3 ht ho ?hI2)
  case hdone => exact hQ
  case hI =>
    rename @LT.lt Addr _ _ _ ∧ _ => kL
    intro a ha
    simp only [List.mem_cons] at ha
    rcases ha with h1 | h1 | h1 | h1 | h1
    · rw [h1]; exact kL.1
    · rw [h1]; exact kL.2.1
    · rw [h1]; exact kL.2.2.1
    · rw [h1]; exact kL.2.2.2.1
    · obtain ⟨q, hq, rfl⟩ := List.mem_map.mp h1
      exact tb_ltOf kL.2.2.2.2 q (List.mem_append_right _ hq)
  case hI2 =>
    rename @LT.lt Addr _ _ _ ∧ _ => kL
    intro q hq
    exact neL (tb_ltOf kL.2.2.2.2 q (List.mem_append_left _ hq))
end
section
theorem rr_le {mk : Int} {ks : List Int} (h : ks.length ≤ 40) : (rr mk ks).length ≤ 53 := by
  unfold rr
  split
  · rw [r0_len]; omega
  · split
    · rw [r1_len]; omega
    · split
      · unfold r2
        split
        · omega
        · rw [List.length_cons]; omega
      · rw [r3_len]; omega
theorem catR_le : ∀ (rs : List (Int × List Int)), (∀ r ∈ rs, RowOk r) → (catR rs).length ≤ 53 * rs.length
  | [], _ => Nat.le_refl _
  | r :: rs, h => by
    show (rr r.1 r.2 ++ catR rs).length ≤ 53 * (rs.length + 1)
    rw [List.length_append]
    have h1 := catR_le rs fun q hq => h q (.tail _ hq)
    have h2 := rr_le (mk := r.1) (h r (.head _)).2.2.1
    omega
def lawEnd : List Stmt := lawS 8 :: []
set_option maxHeartbeats 1000000 in
theorem lawLast {w : World} {p : Program} {loose : List Str} {mean : ExcName → Option Value} {mg mb : Str → Option Value} (base : Heap) (s : Shared) (L fa : Addr) (cd : Value) (Q : Flow → Shared → Prop) (E : Value → Shared → Prop)
    (B : Below callerA base [] base) (X : (HD.KH w.params).In base) (T : Top p loose mean mg mb base) (hQ : ∀ tk, Q (.ret (.bool true)) { s with toks := tk }) :
    wpAny (model PySem.Challenge.pw_vn0017_01 w) (Around.deeper callerA (envOfC (HD.n "law") (HD.fS (HD.d 211)) L fa cd)) (execs lawEnd (envOfC (HD.n "law") (HD.fS (HD.d 211)) L fa cd)) Q E s := by
  show wpAny _ _ (execs (.Return (some (.Constant _ _ _)) _ :: []) _) _ _ _
  k_steps
  all_goals exact hQ _
theorem lawW (H : HC0) {w : World} {p : Program} {loose : List Str} {mean : ExcName → Option Value} {mg mb : Str → Option Value} (base : Heap) (s : Shared) (L fa : Addr) (cd : Value) (Q : Flow → Shared → Prop) (E : Value → Shared → Prop) (led : List (Addr × Obj)) (lS : Addr) (vs : List Value) (ns : List Int)
    (B : Below callerA base [] base) (C1 : CodeHd base 99 95) (C2 : CodeHd base 1655 1651) (X : (HD.KH w.params).In base) (T : Top p loose mean mg mb base) (hE : PassesOwn (model PySem.Challenge.pw_vn0017_01 w) (Around.deeper callerA (envOfC (HD.n "law") (HD.fS (HD.d 211)) L fa cd)) (envOfC (HD.n "law") (HD.fS (HD.d 211)) L fa cd) E)
    (hl : base.IsList lS vs.toArray) (hi : IntsAre vs ns) (hn : ns.length ≤ 63) (o1 o2 o3 : Obj) (v1 v2 v3 : Option Value) (d1 : o1.data = .cell v1) (d2 : o2.data = .cell v2) (d3 : o3.data = .cell v3)
    (F : Fr base L s.heap (fun y => if y = HD.n "script" then some (.ref lS) else none)) (N : News base L s.heap ((L + 1, o1) :: (L + 2, o2) :: (L + 3, o3) :: led)) (ht : Tabs led) (hled : ∀ q ∈ led, @LT.lt Nat _ q.1 L)
    (hQ : ∀ h tk m led', Fr base L h m → News base L h led' → Tabs led' → Q (.ret (.bool true)) { s with heap := h, toks := tk }) :
    wpAny (model PySem.Challenge.pw_vn0017_01 w) (Around.deeper callerA (envOfC (HD.n "law") (HD.fS (HD.d 211)) L fa cd)) (execs (HD.fB (HD.d 211)) (envOfC (HD.n "law") (HD.fS (HD.d 211)) L fa cd)) Q E s := by
  have hm0 := Int.fmod_nonneg_of_pos (lawAt ns 0 5) (show (0 : Int) < 8 by decide)
  have hm8 := Int.fmod_lt_of_pos (lawAt ns 0 5) (show (0 : Int) < 8 by decide)
  obtain ⟨R, hRe⟩ : ∃ R : Nat, 1 + (lawAt ns 0 5).fmod 8 = (R : Int) := ⟨(1 + (lawAt ns 0 5).fmod 8).toNat, by omega⟩
  have hR8 : R ≤ 8 := by omega
  have hR1 : 1 ≤ R := by omega
  refine stageA base s L fa cd Q E led lS R vs ns B X T hl hi hn hR8 hRe o1 o2 o3 v1 d1 F N hled hE fun h1 tk1 lR hLR st1 => ?_
  refine stageB base _ L fa cd Q E led lS lR ns R B C1 C2 X T hR8 o2 o3 ht hled hLR st1 fun h2 tk2 lP o1' st2 => ?_
  obtain ⟨rs, hrs⟩ : ∃ rs, rs = rowsTo ns R := ⟨_, rfl⟩
  rw [← hrs] at st2
  have hro : ∀ r ∈ rs, RowOk r := by rw [hrs]; exact rowsTo_ok ns R
  have hrl : rs.length = R := by rw [hrs]; exact rowsTo_len ns R
  have hz : (catR rs).length ≤ 1000 := Nat.le_trans (catR_le rs hro) (by omega)
  obtain ⟨items, nR, tups, kv, ys, led2, rest, v1', hrest, F2, N2, off1, ht2, ho2, hp, hr, htp, d1'⟩ := st2
  have o1P : ∀ q ∈ led2 ++ rest, q.1 ≠ lP := fun q hq => by
    have : ∀ {l : List (Addr × Obj)}, LCg.Off1 lP l → ∀ q ∈ l, q.1 ≠ lP := by
      intro l
      induction l with
      | nil => intro _ q hq; cases hq
      | cons p l ih =>
        rintro ⟨h1, h2⟩ q hq
        rcases List.mem_cons.mp hq with rfl | hq
        · exact h1
        · exact ih h2 q hq
    exact this off1 q hq
  have lt3 : ∀ q ∈ tups, q.1 ≠ L + 1 ∧ q.1 ≠ L + 2 ∧ q.1 ≠ L + 3 := fun q hq => by
    have := htp q hq
    exact ⟨neG (by omega), neG (by omega), neG (by omega)⟩
  show wpAny _ _ (execs (lawS 3 :: lawS 4 :: lawS 5 :: lawS 6 :: lawS 7 :: lawEnd) _) _ _ _
  refine wpAny_execs_cons ?_
  refine stmt3 base _ L fa cd _ E lS lR lP kv (led2 ++ rest) rs ys B X T hp (by omega) hz F2 N2 fun h3 tk3 bS tS hbS F3 N3 => ?_
  show wpAny _ _ (execs (lawS 4 :: lawS 5 :: lawS 6 :: lawS 7 :: lawEnd) _) _ _ _
  refine wpAny_execs_cons ?_
  subst hrest
  have m1r : (L + 1, o1') ∈ (lR, listOf items.toArray nR) :: (L + 1, o1') :: (L + 2, o2) :: (L + 3, o3) :: tups := .tail _ (.head _)
  have m2r : (L + 2, o2) ∈ (lR, listOf items.toArray nR) :: (L + 1, o1') :: (L + 2, o2) :: (L + 3, o3) :: tups := .tail _ (.tail _ (.head _))
  have m3r : (L + 3, o3) ∈ (lR, listOf items.toArray nR) :: (L + 1, o1') :: (L + 2, o2) :: (L + 3, o3) :: tups := .tail _ (.tail _ (.tail _ (.head _)))
  have mTr : ∀ q ∈ tups, q ∈ (lR, listOf items.toArray nR) :: (L + 1, o1') :: (L + 2, o2) :: (L + 3, o3) :: tups := fun q hq => .tail _ (.tail _ (.tail _ (.tail _ hq)))
  have mRr : (lR, listOf items.toArray nR) ∈ (lR, listOf items.toArray nR) :: (L + 1, o1') :: (L + 2, o2) :: (L + 3, o3) :: tups := .head _
  let tail4 : List (Addr × Obj) := (lR, listOf items.toArray nR) :: (lP, LCg.lst ys) :: (led2 ++ ((L + 1, o1') :: (L + 3, o3) :: tups))
  have neLed : ∀ q ∈ led2, ∀ z ∈ (lR, listOf items.toArray nR) :: (L + 1, o1') :: (L + 2, o2) :: (L + 3, o3) :: tups, q.1 ≠ z.1 := fun q hq z hz e => ho2 z hz (by rw [← e]; exact List.mem_map_of_mem hq)
  refine stmt4 base _ L fa cd _ E _ tail4 B X T o2 v2 d2 F3 (News.sub N3 fun q hq => ?_) (fun q hq => ?_) fun h4 tk4 lB t0 o2' hLB hall F4 d2' N4 => ?_
  · simp only [tail4, List.mem_cons, List.mem_append] at hq ⊢
    rcases hq with h | h | h | h | h | h | h
    · exact .inr (.inr (.inr (.inr (.inl h))))
    · exact .inr (.inr (.inl h))
    · exact .inl h
    · exact .inr (.inl h)
    · exact .inr (.inr (.inr (.inl h)))
    · exact .inr (.inr (.inr (.inr (.inr (.inl h)))))
    · exact .inr (.inr (.inr (.inr (.inr (.inr h)))))
  · simp only [tail4, List.mem_cons, List.mem_append] at hq
    rcases hq with h | h | h | h | h | h
    · rw [h]; exact neG (by omega)
    · rw [h]; exact Ne.symm (o1P _ (List.mem_append_right _ m2r))
    · exact neLed q h _ m2r
    · rw [h]; exact neL (by omega)
    · rw [h]; exact neG (by omega)
    · exact (lt3 q h).2.1
  have all : ∀ q ∈ tail4, @LT.lt Nat _ q.1 lB := fun q hq => tb_ltOf hall q hq
  have hRB : @LT.lt Nat _ lR lB := all _ (.head _)
  have hPB : @LT.lt Nat _ lP lB := all _ (.tail _ (.head _))
  have h3B : @LT.lt Nat _ (L + 3) lB := all (L + 3, o3) (.tail _ (.tail _ (List.mem_append_right _ (.tail _ (.head _)))))
  have htB : ∀ q ∈ tups, @LT.lt Nat _ q.1 lB := fun q hq => all q (.tail _ (.tail _ (List.mem_append_right _ (.tail _ (.tail _ hq)))))
  have hlB : ∀ q ∈ led2, @LT.lt Nat _ q.1 lB := fun q hq => all q (.tail _ (.tail _ (List.mem_append_left _ hq)))
  have ho5 : OffA (lR :: lP :: lB :: (L + 2) :: (L + 1) :: (L + 3) :: tups.map (·.1)) led2 := by
    intro a ha hm
    obtain ⟨q, hq, e⟩ := List.mem_map.mp hm
    simp only [List.mem_cons] at ha
    rcases ha with h | h | h | h | h | h | h
    · rw [h] at e; exact neLed q hq _ mRr e
    · rw [h] at e; exact o1P q (List.mem_append_left _ hq) e
    · rw [h] at e; exact neL (hlB q hq) e
    · rw [h] at e; exact neLed q hq _ m2r e
    · rw [h] at e; exact neLed q hq _ m1r e
    · rw [h] at e; exact neLed q hq _ m3r e
    · obtain ⟨z, hz, e2⟩ := List.mem_map.mp h
      exact neLed q hq z (mTr z hz) (e.trans e2.symm)
  show wpAny _ _ (execs (lawS 5 :: lawS 6 :: lawS 7 :: lawEnd) _) _ _ _
  refine wpAny_execs_cons ?_
  refine stmt5 base _ L fa cd _ E lS lR lP lB B C1 C2 X T hE items ys rs nR o1' o2' o3 tups led2 bS tS t0 kv hr hp hro (by omega) hbS hz d2' hRB hPB h3B htB ht2 (allLt_of hlB) ho5 F4 (News.sub N4 fun q hq => ?_) fun h5 tk5 st3 => ?_
  · simp only [tail4, List.mem_cons, List.mem_append] at hq ⊢
    rcases hq with h | h | h | h | h | h | h | h
    · exact .inr (.inr (.inl h))
    · exact .inr (.inr (.inr (.inl h)))
    · exact .inl h
    · exact .inr (.inl h)
    · exact .inr (.inr (.inr (.inr (.inl h))))
    · exact .inr (.inr (.inr (.inr (.inr (.inl h)))))
    · exact .inr (.inr (.inr (.inr (.inr (.inr (.inl h))))))
    · exact .inr (.inr (.inr (.inr (.inr (.inr (.inr h))))))
  obtain ⟨bv, nB, led3, kv', w1, w2, w3, F5, N5, hb, ht3, ho3⟩ := st3
  obtain ⟨te, hlast⟩ := hb.2 rs.length (Nat.le_refl _)
  show wpAny _ _ (execs (lawS 6 :: lawS 7 :: lawEnd) _) _ _ _
  refine wpAny_execs_cons ?_
  refine stmt6 base _ L fa cd _ E ((lR, listOf items.toArray nR) :: (lP, LCg.lst ys) :: (led3 ++ ((L + 1, o1') :: (L + 3, o3) :: tups))) lS lR lP lB B X T bv nB o2' te tS bS (catR rs) kv' w1 w2 w3 d2' (by rw [hb.1]; omega) (by rw [hb.1, ← posR_all]; exact hlast) hbS hz F5 (News.sub N5 fun q hq => ?_) fun h6 tk6 F6 N6 => ?_
  · simp only [List.mem_cons] at hq ⊢
    rcases hq with h | h | h | h | h
    · exact .inr (.inr (.inl h))
    · exact .inr (.inr (.inr (.inl h)))
    · exact .inl h
    · exact .inr (.inl h)
    · exact .inr (.inr (.inr (.inr h)))
  show wpAny _ _ (execs (lawS 7 :: lawEnd) _) _ _ _
  refine wpAny_execs_cons ?_
  let tail7 : List (Addr × Obj) := (L + 1, o1') :: (lP, LCg.lst ys) :: tups
  have n1P : ∀ z ∈ (lR, listOf items.toArray nR) :: (L + 1, o1') :: (L + 2, o2) :: (L + 3, o3) :: tups, z.1 ≠ lP := fun z hz => o1P z (List.mem_append_right _ hz)
  refine stmt7 H base _ L fa cd _ E led3 tail7 lS lR lP lB B C1 C2 X T hE vs ns hl hi hn items bv nR nB o2' o3 v3 tS bS kv' w1 w2 w3 rs (hr.mono fun q hq => .tail _ (.tail _ hq)) hro (by omega) hbS hz hb d2' d3 (neG (by omega)) (neG (by omega)) (fun q hq => ?_) (fun q hq => ?_) ht3 (fun a ha hm => ?_) F6 (News.sub N6 fun q hq => ?_) fun h7 tk7 st7 => ?_
  · simp only [tail7, List.mem_cons] at hq
    rcases hq with h | h | h
    · rw [h]; exact neL (by omega)
    · rw [h]; exact Ne.symm (n1P _ m3r)
    · exact (lt3 q h).2.2
  · simp only [tail7, List.mem_cons] at hq
    rcases hq with h | h | h
    · rw [h]; exact neL (by omega)
    · rw [h]; exact neL hPB
    · exact neL (htB q h)
  · simp only [tail7, List.map_cons, List.mem_cons] at ha
    rcases ha with h | h | h | h | h | h | h
    · rw [h] at hm; exact ho3 _ (.head _) hm
    · rw [h] at hm; exact ho3 _ (.tail _ (.tail _ (.tail _ (.tail _ (.tail _ (.head _)))))) hm
    · rw [h] at hm; exact ho3 _ (.tail _ (.tail _ (.head _))) hm
    · rw [h] at hm; exact ho3 _ (.tail _ (.tail _ (.tail _ (.head _)))) hm
    · rw [h] at hm; exact ho3 _ (.tail _ (.tail _ (.tail _ (.tail _ (.head _))))) hm
    · rw [h] at hm; exact ho3 _ (.tail _ (.head _)) hm
    · exact ho3 a (.tail _ (.tail _ (.tail _ (.tail _ (.tail _ (.tail _ h)))))) hm
  · simp only [tail7, List.mem_cons, List.mem_append] at hq ⊢
    rcases hq with h | h | h | h | h | h | h | h
    · exact .inr (.inr (.inl h))
    · exact .inr (.inr (.inr (.inr (.inr (.inr (.inl h))))))
    · exact .inl h
    · exact .inr (.inl h)
    · exact .inr (.inr (.inr (.inr (.inl h))))
    · exact .inr (.inr (.inr (.inr (.inr (.inl h)))))
    · exact .inr (.inr (.inr (.inl h)))
    · exact .inr (.inr (.inr (.inr (.inr (.inr (.inr h))))))
  obtain ⟨led7, o3', v3', jv, av, F7, N7, d3', ht7, ho7⟩ := st7
  show wpAny _ _ (execs lawEnd _) _ _ _
  exact lawLast base _ L fa cd Q E B X T fun tk => hQ h7 tk _ led7 F7 (News.sub N7 fun q hq => .tail _ (.tail _ (.tail _ (.tail _ (List.mem_append_left _ hq))))) ht7
end
end Mine
end
section
open PySem PySem.W PySem.Calls PyProof.Rows
set_option maxHeartbeats 4000000
namespace Mine
theorem grown_of {h₀ h : Heap} {L : Addr} {led : List (Addr × Obj)} (N : News h₀ L h led) (t : Tabs led) : GrownAll [(99, 95), (1655, 1651)] h := by
  obtain ⟨l1, l2, rfl, t1, t2, _⟩ := t
  refine ⟨?_, ?_, trivial⟩
  · rcases t1 with rfl | ⟨c, oc, rfl, _⟩
    · exact GrownAt.of N (.head _)
    · exact GrownAt.of N (.head _)
  · rcases t2 with rfl | ⟨c, oc, rfl, _⟩
    · exact GrownAt.of N (List.mem_append_right _ (.head _))
    · exact GrownAt.of N (List.mem_append_right _ (.head _))
theorem reorder {h₀ h : Heap} {L : Addr} {o1 o2 o3 : Obj} {led : List (Addr × Obj)} (N : News h₀ L h ((L + 1 + 1 + 1, o3) :: (L + 1 + 1, o2) :: (L + 1, o1) :: led)) : News h₀ L h ((L + 1, o1) :: (L + 2, o2) :: (L + 3, o3) :: led) := News.sub N fun q hq => by
  simp only [List.mem_cons] at hq ⊢
  rcases hq with h | h | h | h
  · exact .inr (.inr (.inl h))
  · exact .inr (.inl h)
  · exact .inl h
  · exact .inr (.inr (.inr h))
def fPos : Stmt → Pos
  | .FunctionDef _ _ _ _ _ _ _ _ _ p => p
  | _ => ⟨0, 0, 0, 0⟩
abbrev lawD : DefRec := { name := HD.n "law", params := HD.fA (HD.d 211), body := HD.fB (HD.d 211), scope := HD.fS (HD.d 211), pos := fPos (HD.d 211) }
theorem lawD_eq : defOf HD.view PySem.Challenge.rw_vn0017_01.row.name = some (lawD, []) := by kernel_rfl
theorem walkM : WalkM HD.view HD.looseV (XL HD.view []) HD.hook.says PySem.Challenge.rw_vn0017_01.row.toRowW lawD [] := by
  intro w s₀ s₁ mg mb G Y fa o pm cd doc dV kV ho hd hcd hD hmg hg args vals as hpre hlay hrd hwl hlo
  have KX : (HD.KH w.params).In s₁.heap := Y.1
  have hT8 : ∀ P ∈ ([95,1651] : List Addr), s₁.heap.get? P = some (tabObj #[]) := Y.2
  have X := (Ground.X G).1
  have V := (Ground.X G).2
  refine Ground.open G ?_
  intro T B D TE TW
  try (refine guard_noD D (by decide +kernel) ?_; clear D)
  km_lay T hmg ho hd cd
  clear hmg
  wrow_args hpre hlay hrd hwl hlo
  rename IntsAre _ _ => hi
  rename Heap.IsList _ _ _ => hl
  rename ¬ (((63 : Nat) : Int) < _) => hn
  refine wpAny_call (codeAny_mono (R := fun r s' => r = .ok (.ret (.bool true)) ∧ (∀ b o, (ghostOf s₁.heap [(99, 95), (1655, 1651)]).get? b = some o → s'.heap.get? b = some o) ∧ GrownAll [(99, 95), (1655, 1651)] s'.heap ∧ s'.os = s₁.os ∧ s'.gens = #[]) ?_ (fun r s' h => ?_))
  case refine_2 =>
    obtain ⟨rfl, h1, h2, h3, h4⟩ := h
    refine goodM_of hT9 (fun _ => rfl) ?_ h1 h2 h3 h4
    first | with_unfolding_all rfl | kernel_rfl | wrow_post
  w_top on
  w_call any ho hd hcd hD T F
  clear hd
  kn_ghosts F T
  k_drop
  rename News _ _ _ _ => N₀
  rename Fr _ _ _ _ => F₀
  rename Below _ _ _ _ => K₀
  rename (HD.KH w.params).In (ghostOf _ _) => X₀
  rename Top _ _ _ _ _ (ghostOf _ _) => T₀
  rename Heap.IsList (ghostOf _ _) _ _ => l₀
  rename CodeHd _ (99, 95).1 _ => c₁
  rename CodeHd _ (1655, 1651).1 _ => c₂
  rename @LT.lt Nat _ 95 _ ∧ _ => lt₀
  have F₁ : Fr (ghostOf s₁.heap [(99, 95), (1655, 1651)]) s₁.heap.objs.size _ (fun y => if y = HD.n "script" then some (.ref _) else none) := F₀
  refine lawW (fun hb hn hc => cut0a hb hn hc) (ghostOf s₁.heap [(99, 95), (1655, 1651)]) _ s₁.heap.objs.size fa cd _ _ [(95, tabObj #[]), (1651, tabObj #[])] _ _ _ K₀ c₁ c₂ X₀ T₀ (by passes_own) l₀ hi (by omega) _ _ _ _ _ _ (by assumption) (by assumption) (by assumption) F₁ (reorder N₀) ?ht ?hl (fun h tk m' led' F' N' t' => ⟨rfl, F'.keep, grown_of N' t', rfl, hg⟩)
  case ht =>
    refine ⟨[_], [_], rfl, .inl rfl, .inl rfl, fun q hq hm => ?_⟩
    rw [List.mem_singleton.mp hq] at hm
    exact absurd (List.mem_singleton.mp hm) (by decide)
  case hl =>
    intro q hq
    simp only [List.mem_cons, List.not_mem_nil, or_false] at hq
    rcases hq with h | h
    · rw [h]; exact lt₀.1
    · rw [h]; exact lt₀.2
end Mine
end
section
open PySem PySem.W PySem.Calls PyProof.Rows
set_option maxHeartbeats 0
namespace Mine
theorem chainsT : chainsOk HD.view = true := by kernel_rfl
theorem opensT : opensWell PySem.Challenge.rw_vn0017_01.row.prog = true := by kernel_rfl
theorem freesT : frees PySem.Challenge.rw_vn0017_01.row.toRowW = true := by kernel_rfl
theorem defT : PySem.Challenge.rw_vn0017_01.row.prog.theDef PySem.Challenge.rw_vn0017_01.row.name = some (lawD.params, lawD.body, lawD.scope) := by kernel_rfl
theorem rowT (said : PySem.Challenge.rw_vn0017_01.row.wellSaid = true) : PySem.Challenge.rw_vn0017_01.row.Holds := by
  refine headM (q := HD.view) (loose := HD.looseV) (Xt := HD.XtV) (XP := XL HD.view []) (Yf := HD.hook.obs) (Ya := HD.hook.val) (YP := HD.hook.says) (N := 60000) HD.leftT HD.hook.of HD.hook.keeps (fun s e => xl_of s (Bool.and_eq_true_iff.mp e).1) XL.keeps lawD_eq defT (by rfl) (fun s e => recFacts_of (Bool.and_eq_true_iff.mp e).2) (by rfl) said chainsT opensT freesT rfl bareT ?hw walkM
  w_witness2
end Mine
end
section
open PySem PySem.W PyProof.Rows
theorem PySem.Challenge.cw_vn0017_01_holds : PySem.Challenge.rw_vn0017_01.Holds := by
  exact Mine.lawT fun said => Mine.rowT said
end
