import PyProof.Rows.All
import KE.KSlice
import KE.KIsAll
import Wide.FinOn
import OpenK.AllK
import Wide.All
import Lean
import PySem.Challenge.RW_it0028_04
set_option Elab.async false
set_option linter.all false
set_option maxRecDepth 100000
section
open PySem PySem.W
namespace Rl
noncomputable abbrev pw := PySem.Challenge.pw_it0028_04
noncomputable def tS (i : Nat) : Stmt := (pw.main.body[i]?).getD (.Pass default)
noncomputable def cM : Stmt → Nat → Stmt
  | .ClassDef _ _ _ b _ _ _ _ _ _ _, j => (b[j]?).getD (.Pass default)
  | s, _ => s
noncomputable def fA : Stmt → Arguments
  | .FunctionDef _ a _ _ _ _ _ _ _ _ => a
  | _ => default
noncomputable def fB : Stmt → List Stmt
  | .FunctionDef _ _ b _ _ _ _ _ _ _ => b
  | _ => []
noncomputable def fS : Stmt → Scope
  | .FunctionDef _ _ _ _ _ _ s _ _ _ => s
  | _ => default
noncomputable def bytesTo (i : Nat) : List Value := (List.range i).map fun j => .bytes #[UInt8.ofNat j] (397 + 3 * j)
noncomputable abbrev kE (P : Params) (s : String) (t : Tok) (v : Value) : DictEntry := { hash := PyData.keyHash P (Str.ofString s), key := .str (Str.ofString s) t, val := v }
noncomputable def o_2 (P : Params) : Obj := ⟨.none, none, Data.dict #[(kE P "type.__subclasses__.Exception.0" 212 (.int 31 0)), (kE P "type.__subclasses__.Exception.n" 213 (.int 1 0))] 2, #[]⟩
noncomputable def o_3 (P : Params) : Obj := ⟨.type "dict", none, Data.dict #[(kE P "__name__" 165 (.str (.ofString "law_it0028_04") 1644)), (kE P "__doc__" 166 .none), (kE P "__package__" 167 .none), (kE P "__loader__" 168 (.builtin "__main__.__loader__#opaque")), (kE P "__spec__" 169 .none), (kE P "__annotations__" 170 (.ref 6)), (kE P "__builtins__" 171 (.ref 4)), (kE P "__file__" 173 (.str (.ofString "/claim/cut.py") 172)), (kE P "__cached__" 174 .none), (kE P "_wall" 193 (.ref 21)), (kE P "RLPException" 215 (.ref 31)), (kE P "EncodingError" 243 (.ref 53)), (kE P "DecodingError" 271 (.ref 74)), (kE P "SerializationError" 299 (.ref 95)), (kE P "ListSerializationError" 330 (.ref 117)), (kE P "DeserializationError" 358 (.ref 138)), (kE P "ListDeserializationError" 389 (.ref 160)), (kE P "ALL_BYTES" 1163 (.ref 1450)), (kE P "is_bytes" 1170 (.ref 1457)), (kE P "big_endian_to_int" 1177 (.ref 1464)), (kE P "int_to_big_endian" 1184 (.ref 1471)), (kE P "BigEndianInt" 1232 (.ref 1503)), (kE P "big_endian_int" 1237 (.ref 1509)), (kE P "Binary" 1337 (.ref 1570)), (kE P "binary" 1349 (.ref 1576)), (kE P "Boolean" 1387 (.ref 1601)), (kE P "boolean" 1388 (.ref 1607)), (kE P "is_sedes" 1397 (.ref 1614)), (kE P "is_sequence" 1404 (.ref 1621)), (kE P "List" 1469 (.ref 1660)), (kE P "CountableList" 1524 (.ref 1696)), (kE P "encode_raw" 1537 (.ref 1707)), (kE P "decode_raw" 1550 (.ref 1714)), (kE P "encode" 1562 (.ref 1722)), (kE P "LONG_LENGTH" 1566 (.int 18446744073709551616 1565)), (kE P "length_prefix" 1575 (.ref 1729)), (kE P "SHORT_STRING" 1579 (.int 184 1578)), (kE P "consume_length_prefix" 1591 (.ref 1736)), (kE P "consume_payload" 1613 (.ref 1743)), (kE P "consume_item" 1625 (.ref 1750)), (kE P "decode" 1637 (.ref 1758)), (kE P "infer_sedes" 1643 (.ref 1763)), (kE P "_law_octets" 1655 (.ref 1770)), (kE P "_law_thing" 1668 (.ref 1777)), (kE P "_law_form" 1674 (.ref 1782)), (kE P "_law_value" 1680 (.ref 1787)), (kE P "_law_plain" 1686 (.ref 1792)), (kE P "_law_head" 1695 (.ref 1799)), (kE P "_law_put" 1704 (.ref 1806)), (kE P "_law_same" 1714 (.ref 1813)), (kE P "law" 1727 (.ref 1820))] 51, #[]⟩
noncomputable def o_15 (P : Params) : Obj := ⟨.type "tuple", none, Data.seq #[] 0, #[]⟩
noncomputable def o_17 (P : Params) : Obj := ⟨.type "tuple", none, Data.seq #[.str (.ofString "k") 190] 0, #[]⟩
noncomputable def o_18 (P : Params) : Obj := ⟨.type "tuple", none, Data.seq #[] 0, #[]⟩
noncomputable def o_20 (P : Params) : Obj := ⟨.type "code", none, Data.fields #[.str (.ofString "_wall") 187, .str (.ofString "_wall") 188, .str (.ofString "/claim/cut.py") 189, .int 1 0, .int 1 0, .int 0 0, .int 0 0, .int 3 0, .ref 15, .bool true, .int 181 0, .ref 16, .none, .ref 17, .ref 18, .ref 19, .int 191 0, .int 1 0, .str (.ofString "/claim/cut.py") 192], #[]⟩
noncomputable def o_21 (P : Params) : Obj := ⟨.type "function", none, Data.func (FuncData.mk (.ofString "_wall") (.ofString "_wall") (fA (tS 0)) (FuncBody.stmts (fB (tS 0))) (fS (tS 0)) 3 [] .none .none .none (.str (.ofString "__main__") 164) none (.ref 20) .none 0), #[]⟩
noncomputable def o_22 (P : Params) : Obj := ⟨.type "tuple", none, Data.seq #[.type "Exception"] 0, #[]⟩
noncomputable def o_29 (P : Params) : Obj := ⟨.type "tuple", none, Data.seq #[] 0, #[]⟩
noncomputable def o_30 (P : Params) : Obj := ⟨.type "dict", none, Data.dict #[(kE P "__module__" 203 (.str (.ofString "rlp.exceptions") 194)), (kE P "__firstlineno__" 207 (.int 5 206)), (kE P "__static_attributes__" 208 (.ref 29)), (kE P "__weakref__" 210 (.ref 32)), (kE P "__doc__" 211 .none)] 3, #[]⟩
noncomputable def o_31 (P : Params) : Obj := (Obj.mk (.type "type") none (Data.cls (ClassData.mk (.ofString "RLPException") [.type "Exception"] [.ref 31, .type "Exception", .type "BaseException", .type "object"] 30 (.ofString "RLPException") true [] [.ref 53, .ref 74, .ref 95, .ref 138] false none false)) #[(some (.ref 22)), none, (some (.str (.ofString "RLPException") 196)), (some (.str (.ofString "RLPException") 204)), (some (.builtin "Exception.__new__")), (some (.bool true))])
noncomputable def o_32 (P : Params) : Obj := ⟨.type "getset_descriptor", none, Data.fields #[.str (.ofString "__weakref__") 209, .ref 31, .builtin "ExceptionGroup.__weakref__", .none], #[]⟩
noncomputable def o_35 (P : Params) : Obj := ⟨.type "tuple", none, Data.seq #[.ref 31] 0, #[]⟩
noncomputable def o_38 (P : Params) : Obj := ⟨.type "cell", none, Data.cell (some (.ref 53)), #[]⟩
noncomputable def o_43 (P : Params) : Obj := ⟨.type "tuple", none, Data.seq #[.ref 38] 0, #[]⟩
noncomputable def o_44 (P : Params) : Obj := ⟨.type "tuple", none, Data.seq #[.str (.ofString "__class__") 231] 0, #[]⟩
noncomputable def o_46 (P : Params) : Obj := ⟨.type "tuple", none, Data.seq #[.str (.ofString "self") 232, .str (.ofString "message") 233, .str (.ofString "obj") 234] 0, #[]⟩
noncomputable def o_47 (P : Params) : Obj := ⟨.type "tuple", none, Data.seq #[] 0, #[]⟩
noncomputable def o_49 (P : Params) : Obj := ⟨.type "code", none, Data.fields #[.str (.ofString "__init__") 228, .str (.ofString "EncodingError.__init__") 229, .str (.ofString "/claim/cut.py") 230, .int 9 0, .int 3 0, .int 0 0, .int 0 0, .int 3 0, .ref 44, .bool true, .int 181 0, .ref 45, .none, .ref 46, .ref 47, .ref 48, .int 235 0, .int 9 0, .str (.ofString "/claim/cut.py") 236], #[]⟩
noncomputable def o_50 (P : Params) : Obj := ⟨.type "function", none, Data.func (FuncData.mk (.ofString "__init__") (.ofString "EncodingError.__init__") (fA (cM (tS 3) 0)) (FuncBody.stmts (fB (cM (tS 3) 0))) (fS (cM (tS 5) 0)) 3 [((.ofString "__class__"), 38)] .none .none .none (.str (.ofString "rlp.exceptions") 194) none (.ref 49) (.ref 43) 0), #[]⟩
noncomputable def o_51 (P : Params) : Obj := ⟨.type "tuple", none, Data.seq #[.str (.ofString "obj") 238] 0, #[]⟩
noncomputable def o_52 (P : Params) : Obj := ⟨.type "dict", none, Data.dict #[(kE P "__module__" 223 (.str (.ofString "rlp.exceptions") 194)), (kE P "__firstlineno__" 227 (.int 7 226)), (kE P "__init__" 237 (.ref 50)), (kE P "__static_attributes__" 239 (.ref 51)), (kE P "__doc__" 241 .none)] 3, #[]⟩
noncomputable def o_53 (P : Params) : Obj := (Obj.mk (.type "type") none (Data.cls (ClassData.mk (.ofString "EncodingError") [.ref 31] [.ref 53, .ref 31, .type "Exception", .type "BaseException", .type "object"] 52 (.ofString "EncodingError") true [] [] false none false)) #[(some (.ref 35)), none, (some (.str (.ofString "EncodingError") 216)), (some (.str (.ofString "EncodingError") 224)), (some (.builtin "Exception.__new__")), (some (.bool true))])
noncomputable def o_56 (P : Params) : Obj := ⟨.type "tuple", none, Data.seq #[.ref 31] 0, #[]⟩
noncomputable def o_59 (P : Params) : Obj := ⟨.type "cell", none, Data.cell (some (.ref 74)), #[]⟩
noncomputable def o_64 (P : Params) : Obj := ⟨.type "tuple", none, Data.seq #[.ref 59] 0, #[]⟩
noncomputable def o_65 (P : Params) : Obj := ⟨.type "tuple", none, Data.seq #[.str (.ofString "__class__") 259] 0, #[]⟩
noncomputable def o_67 (P : Params) : Obj := ⟨.type "tuple", none, Data.seq #[.str (.ofString "self") 260, .str (.ofString "message") 261, .str (.ofString "rlp") 262] 0, #[]⟩
noncomputable def o_68 (P : Params) : Obj := ⟨.type "tuple", none, Data.seq #[] 0, #[]⟩
noncomputable def o_70 (P : Params) : Obj := ⟨.type "code", none, Data.fields #[.str (.ofString "__init__") 256, .str (.ofString "DecodingError.__init__") 257, .str (.ofString "/claim/cut.py") 258, .int 14 0, .int 3 0, .int 0 0, .int 0 0, .int 3 0, .ref 65, .bool true, .int 181 0, .ref 66, .none, .ref 67, .ref 68, .ref 69, .int 263 0, .int 14 0, .str (.ofString "/claim/cut.py") 264], #[]⟩
noncomputable def o_71 (P : Params) : Obj := ⟨.type "function", none, Data.func (FuncData.mk (.ofString "__init__") (.ofString "DecodingError.__init__") (fA (cM (tS 4) 0)) (FuncBody.stmts (fB (cM (tS 4) 0))) (fS (cM (tS 4) 0)) 3 [((.ofString "__class__"), 59)] .none .none .none (.str (.ofString "rlp.exceptions") 194) none (.ref 70) (.ref 64) 0), #[]⟩
noncomputable def o_72 (P : Params) : Obj := ⟨.type "tuple", none, Data.seq #[.str (.ofString "rlp") 266] 0, #[]⟩
noncomputable def o_73 (P : Params) : Obj := ⟨.type "dict", none, Data.dict #[(kE P "__module__" 251 (.str (.ofString "rlp.exceptions") 194)), (kE P "__firstlineno__" 255 (.int 12 254)), (kE P "__init__" 265 (.ref 71)), (kE P "__static_attributes__" 267 (.ref 72)), (kE P "__doc__" 269 .none)] 3, #[]⟩
noncomputable def o_74 (P : Params) : Obj := (Obj.mk (.type "type") none (Data.cls (ClassData.mk (.ofString "DecodingError") [.ref 31] [.ref 74, .ref 31, .type "Exception", .type "BaseException", .type "object"] 73 (.ofString "DecodingError") true [] [] false none false)) #[(some (.ref 56)), none, (some (.str (.ofString "DecodingError") 244)), (some (.str (.ofString "DecodingError") 252)), (some (.builtin "Exception.__new__")), (some (.bool true))])
noncomputable def o_77 (P : Params) : Obj := ⟨.type "tuple", none, Data.seq #[.ref 31] 0, #[]⟩
noncomputable def o_80 (P : Params) : Obj := ⟨.type "cell", none, Data.cell (some (.ref 95)), #[]⟩
noncomputable def o_85 (P : Params) : Obj := ⟨.type "tuple", none, Data.seq #[.ref 80] 0, #[]⟩
noncomputable def o_86 (P : Params) : Obj := ⟨.type "tuple", none, Data.seq #[.str (.ofString "__class__") 287] 0, #[]⟩
noncomputable def o_88 (P : Params) : Obj := ⟨.type "tuple", none, Data.seq #[.str (.ofString "self") 288, .str (.ofString "message") 289, .str (.ofString "obj") 290] 0, #[]⟩
noncomputable def o_89 (P : Params) : Obj := ⟨.type "tuple", none, Data.seq #[] 0, #[]⟩
noncomputable def o_91 (P : Params) : Obj := ⟨.type "code", none, Data.fields #[.str (.ofString "__init__") 284, .str (.ofString "SerializationError.__init__") 285, .str (.ofString "/claim/cut.py") 286, .int 19 0, .int 3 0, .int 0 0, .int 0 0, .int 3 0, .ref 86, .bool true, .int 181 0, .ref 87, .none, .ref 88, .ref 89, .ref 90, .int 291 0, .int 19 0, .str (.ofString "/claim/cut.py") 292], #[]⟩
noncomputable def o_92 (P : Params) : Obj := ⟨.type "function", none, Data.func (FuncData.mk (.ofString "__init__") (.ofString "SerializationError.__init__") (fA (cM (tS 5) 0)) (FuncBody.stmts (fB (cM (tS 5) 0))) (fS (cM (tS 5) 0)) 3 [((.ofString "__class__"), 80)] .none .none .none (.str (.ofString "rlp.exceptions") 194) none (.ref 91) (.ref 85) 0), #[]⟩
noncomputable def o_93 (P : Params) : Obj := ⟨.type "tuple", none, Data.seq #[.str (.ofString "obj") 294] 0, #[]⟩
noncomputable def o_94 (P : Params) : Obj := ⟨.type "dict", none, Data.dict #[(kE P "__module__" 279 (.str (.ofString "rlp.exceptions") 194)), (kE P "__firstlineno__" 283 (.int 17 282)), (kE P "__init__" 293 (.ref 92)), (kE P "__static_attributes__" 295 (.ref 93)), (kE P "__doc__" 297 .none)] 3, #[]⟩
noncomputable def o_95 (P : Params) : Obj := (Obj.mk (.type "type") none (Data.cls (ClassData.mk (.ofString "SerializationError") [.ref 31] [.ref 95, .ref 31, .type "Exception", .type "BaseException", .type "object"] 94 (.ofString "SerializationError") true [] [.ref 117] false none false)) #[(some (.ref 77)), none, (some (.str (.ofString "SerializationError") 272)), (some (.str (.ofString "SerializationError") 280)), (some (.builtin "Exception.__new__")), (some (.bool true))])
noncomputable def o_98 (P : Params) : Obj := ⟨.type "tuple", none, Data.seq #[.ref 95] 0, #[]⟩
noncomputable def o_101 (P : Params) : Obj := ⟨.type "cell", none, Data.cell (some (.ref 117)), #[]⟩
noncomputable def o_106 (P : Params) : Obj := ⟨.type "tuple", none, Data.seq #[.none, .none, .none, .none] 0, #[]⟩
noncomputable def o_107 (P : Params) : Obj := ⟨.type "tuple", none, Data.seq #[.ref 101] 0, #[]⟩
noncomputable def o_108 (P : Params) : Obj := ⟨.type "tuple", none, Data.seq #[.str (.ofString "__class__") 315] 0, #[]⟩
noncomputable def o_110 (P : Params) : Obj := ⟨.type "tuple", none, Data.seq #[.str (.ofString "self") 316, .str (.ofString "message") 317, .str (.ofString "obj") 318, .str (.ofString "element_exception") 319, .str (.ofString "index") 320] 0, #[]⟩
noncomputable def o_111 (P : Params) : Obj := ⟨.type "tuple", none, Data.seq #[] 0, #[]⟩
noncomputable def o_113 (P : Params) : Obj := ⟨.type "code", none, Data.fields #[.str (.ofString "__init__") 312, .str (.ofString "ListSerializationError.__init__") 313, .str (.ofString "/claim/cut.py") 314, .int 24 0, .int 5 0, .int 0 0, .int 0 0, .int 3 0, .ref 108, .bool true, .int 181 0, .ref 109, .none, .ref 110, .ref 111, .ref 112, .int 321 0, .int 24 0, .str (.ofString "/claim/cut.py") 322], #[]⟩
noncomputable def o_114 (P : Params) : Obj := ⟨.type "function", none, Data.func (FuncData.mk (.ofString "__init__") (.ofString "ListSerializationError.__init__") (fA (cM (tS 6) 0)) (FuncBody.stmts (fB (cM (tS 6) 0))) (fS (cM (tS 6) 0)) 3 [((.ofString "__class__"), 101)] (.ref 106) .none .none (.str (.ofString "rlp.exceptions") 194) none (.ref 113) (.ref 107) 0), #[]⟩
noncomputable def o_115 (P : Params) : Obj := ⟨.type "tuple", none, Data.seq #[.str (.ofString "element_exception") 324, .str (.ofString "index") 325] 0, #[]⟩
noncomputable def o_116 (P : Params) : Obj := ⟨.type "dict", none, Data.dict #[(kE P "__module__" 307 (.str (.ofString "rlp.exceptions") 194)), (kE P "__firstlineno__" 311 (.int 22 310)), (kE P "__init__" 323 (.ref 114)), (kE P "__static_attributes__" 326 (.ref 115)), (kE P "__doc__" 328 .none)] 3, #[]⟩
noncomputable def o_117 (P : Params) : Obj := (Obj.mk (.type "type") none (Data.cls (ClassData.mk (.ofString "ListSerializationError") [.ref 95] [.ref 117, .ref 95, .ref 31, .type "Exception", .type "BaseException", .type "object"] 116 (.ofString "ListSerializationError") true [] [] false none false)) #[(some (.ref 98)), none, (some (.str (.ofString "ListSerializationError") 300)), (some (.str (.ofString "ListSerializationError") 308)), (some (.builtin "Exception.__new__")), (some (.bool true))])
noncomputable def o_120 (P : Params) : Obj := ⟨.type "tuple", none, Data.seq #[.ref 31] 0, #[]⟩
noncomputable def o_123 (P : Params) : Obj := ⟨.type "cell", none, Data.cell (some (.ref 138)), #[]⟩
noncomputable def o_128 (P : Params) : Obj := ⟨.type "tuple", none, Data.seq #[.ref 123] 0, #[]⟩
noncomputable def o_129 (P : Params) : Obj := ⟨.type "tuple", none, Data.seq #[.str (.ofString "__class__") 346] 0, #[]⟩
noncomputable def o_131 (P : Params) : Obj := ⟨.type "tuple", none, Data.seq #[.str (.ofString "self") 347, .str (.ofString "message") 348, .str (.ofString "serial") 349] 0, #[]⟩
noncomputable def o_132 (P : Params) : Obj := ⟨.type "tuple", none, Data.seq #[] 0, #[]⟩
noncomputable def o_134 (P : Params) : Obj := ⟨.type "code", none, Data.fields #[.str (.ofString "__init__") 343, .str (.ofString "DeserializationError.__init__") 344, .str (.ofString "/claim/cut.py") 345, .int 34 0, .int 3 0, .int 0 0, .int 0 0, .int 3 0, .ref 129, .bool true, .int 181 0, .ref 130, .none, .ref 131, .ref 132, .ref 133, .int 350 0, .int 34 0, .str (.ofString "/claim/cut.py") 351], #[]⟩
noncomputable def o_135 (P : Params) : Obj := ⟨.type "function", none, Data.func (FuncData.mk (.ofString "__init__") (.ofString "DeserializationError.__init__") (fA (cM (tS 7) 0)) (FuncBody.stmts (fB (cM (tS 7) 0))) (fS (cM (tS 7) 0)) 3 [((.ofString "__class__"), 123)] .none .none .none (.str (.ofString "rlp.exceptions") 194) none (.ref 134) (.ref 128) 0), #[]⟩
noncomputable def o_136 (P : Params) : Obj := ⟨.type "tuple", none, Data.seq #[.str (.ofString "serial") 353] 0, #[]⟩
noncomputable def o_137 (P : Params) : Obj := ⟨.type "dict", none, Data.dict #[(kE P "__module__" 338 (.str (.ofString "rlp.exceptions") 194)), (kE P "__firstlineno__" 342 (.int 32 341)), (kE P "__init__" 352 (.ref 135)), (kE P "__static_attributes__" 354 (.ref 136)), (kE P "__doc__" 356 .none)] 3, #[]⟩
noncomputable def o_138 (P : Params) : Obj := (Obj.mk (.type "type") none (Data.cls (ClassData.mk (.ofString "DeserializationError") [.ref 31] [.ref 138, .ref 31, .type "Exception", .type "BaseException", .type "object"] 137 (.ofString "DeserializationError") true [] [.ref 160] false none false)) #[(some (.ref 120)), none, (some (.str (.ofString "DeserializationError") 331)), (some (.str (.ofString "DeserializationError") 339)), (some (.builtin "Exception.__new__")), (some (.bool true))])
noncomputable def o_141 (P : Params) : Obj := ⟨.type "tuple", none, Data.seq #[.ref 138] 0, #[]⟩
noncomputable def o_144 (P : Params) : Obj := ⟨.type "cell", none, Data.cell (some (.ref 160)), #[]⟩
noncomputable def o_149 (P : Params) : Obj := ⟨.type "tuple", none, Data.seq #[.none, .none, .none, .none] 0, #[]⟩
noncomputable def o_150 (P : Params) : Obj := ⟨.type "tuple", none, Data.seq #[.ref 144] 0, #[]⟩
noncomputable def o_151 (P : Params) : Obj := ⟨.type "tuple", none, Data.seq #[.str (.ofString "__class__") 374] 0, #[]⟩
noncomputable def o_153 (P : Params) : Obj := ⟨.type "tuple", none, Data.seq #[.str (.ofString "self") 375, .str (.ofString "message") 376, .str (.ofString "serial") 377, .str (.ofString "element_exception") 378, .str (.ofString "index") 379] 0, #[]⟩
noncomputable def o_154 (P : Params) : Obj := ⟨.type "tuple", none, Data.seq #[] 0, #[]⟩
noncomputable def o_156 (P : Params) : Obj := ⟨.type "code", none, Data.fields #[.str (.ofString "__init__") 371, .str (.ofString "ListDeserializationError.__init__") 372, .str (.ofString "/claim/cut.py") 373, .int 39 0, .int 5 0, .int 0 0, .int 0 0, .int 3 0, .ref 151, .bool true, .int 181 0, .ref 152, .none, .ref 153, .ref 154, .ref 155, .int 380 0, .int 39 0, .str (.ofString "/claim/cut.py") 381], #[]⟩
noncomputable def o_157 (P : Params) : Obj := ⟨.type "function", none, Data.func (FuncData.mk (.ofString "__init__") (.ofString "ListDeserializationError.__init__") (fA (cM (tS 8) 0)) (FuncBody.stmts (fB (cM (tS 8) 0))) (fS (cM (tS 8) 0)) 3 [((.ofString "__class__"), 144)] (.ref 149) .none .none (.str (.ofString "rlp.exceptions") 194) none (.ref 156) (.ref 150) 0), #[]⟩
noncomputable def o_158 (P : Params) : Obj := ⟨.type "tuple", none, Data.seq #[.str (.ofString "element_exception") 383, .str (.ofString "index") 384] 0, #[]⟩
noncomputable def o_159 (P : Params) : Obj := ⟨.type "dict", none, Data.dict #[(kE P "__module__" 366 (.str (.ofString "rlp.exceptions") 194)), (kE P "__firstlineno__" 370 (.int 37 369)), (kE P "__init__" 382 (.ref 157)), (kE P "__static_attributes__" 385 (.ref 158)), (kE P "__doc__" 387 .none)] 3, #[]⟩
noncomputable def o_160 (P : Params) : Obj := (Obj.mk (.type "type") none (Data.cls (ClassData.mk (.ofString "ListDeserializationError") [.ref 138] [.ref 160, .ref 138, .ref 31, .type "Exception", .type "BaseException", .type "object"] 159 (.ofString "ListDeserializationError") true [] [] false none false)) #[(some (.ref 141)), none, (some (.str (.ofString "ListDeserializationError") 359)), (some (.str (.ofString "ListDeserializationError") 367)), (some (.builtin "Exception.__new__")), (some (.bool true))])
noncomputable def o_1450 (P : Params) : Obj := { cls := .type "tuple", data := .seq (bytesTo 256).toArray }
noncomputable def o_1451 (P : Params) : Obj := ⟨.type "tuple", none, Data.seq #[] 0, #[]⟩
noncomputable def o_1453 (P : Params) : Obj := ⟨.type "tuple", none, Data.seq #[.str (.ofString "value") 1167] 0, #[]⟩
noncomputable def o_1454 (P : Params) : Obj := ⟨.type "tuple", none, Data.seq #[] 0, #[]⟩
noncomputable def o_1456 (P : Params) : Obj := ⟨.type "code", none, Data.fields #[.str (.ofString "is_bytes") 1164, .str (.ofString "is_bytes") 1165, .str (.ofString "/claim/cut.py") 1166, .int 49 0, .int 1 0, .int 0 0, .int 0 0, .int 3 0, .ref 1451, .bool true, .int 181 0, .ref 1452, .none, .ref 1453, .ref 1454, .ref 1455, .int 1168 0, .int 49 0, .str (.ofString "/claim/cut.py") 1169], #[]⟩
noncomputable def o_1457 (P : Params) : Obj := ⟨.type "function", none, Data.func (FuncData.mk (.ofString "is_bytes") (.ofString "is_bytes") (fA (tS 11)) (FuncBody.stmts (fB (tS 11))) (fS (tS 11)) 3 [] .none .none .none (.str (.ofString "rlp.utils") 390) none (.ref 1456) .none 0), #[]⟩
noncomputable def o_1458 (P : Params) : Obj := ⟨.type "tuple", none, Data.seq #[] 0, #[]⟩
noncomputable def o_1460 (P : Params) : Obj := ⟨.type "tuple", none, Data.seq #[.str (.ofString "value") 1174] 0, #[]⟩
noncomputable def o_1461 (P : Params) : Obj := ⟨.type "tuple", none, Data.seq #[] 0, #[]⟩
noncomputable def o_1463 (P : Params) : Obj := ⟨.type "code", none, Data.fields #[.str (.ofString "big_endian_to_int") 1171, .str (.ofString "big_endian_to_int") 1172, .str (.ofString "/claim/cut.py") 1173, .int 51 0, .int 1 0, .int 0 0, .int 0 0, .int 3 0, .ref 1458, .bool true, .int 181 0, .ref 1459, .none, .ref 1460, .ref 1461, .ref 1462, .int 1175 0, .int 51 0, .str (.ofString "/claim/cut.py") 1176], #[]⟩
noncomputable def o_1464 (P : Params) : Obj := ⟨.type "function", none, Data.func (FuncData.mk (.ofString "big_endian_to_int") (.ofString "big_endian_to_int") (fA (tS 12)) (FuncBody.stmts (fB (tS 12))) (fS (tS 12)) 3 [] .none .none .none (.str (.ofString "rlp.utils") 390) none (.ref 1463) .none 0), #[]⟩
noncomputable def o_1465 (P : Params) : Obj := ⟨.type "tuple", none, Data.seq #[] 0, #[]⟩
noncomputable def o_1467 (P : Params) : Obj := ⟨.type "tuple", none, Data.seq #[.str (.ofString "value") 1181] 0, #[]⟩
noncomputable def o_1468 (P : Params) : Obj := ⟨.type "tuple", none, Data.seq #[] 0, #[]⟩
noncomputable def o_1470 (P : Params) : Obj := ⟨.type "code", none, Data.fields #[.str (.ofString "int_to_big_endian") 1178, .str (.ofString "int_to_big_endian") 1179, .str (.ofString "/claim/cut.py") 1180, .int 53 0, .int 1 0, .int 0 0, .int 0 0, .int 3 0, .ref 1465, .bool true, .int 181 0, .ref 1466, .none, .ref 1467, .ref 1468, .ref 1469, .int 1182 0, .int 53 0, .str (.ofString "/claim/cut.py") 1183], #[]⟩
noncomputable def o_1471 (P : Params) : Obj := ⟨.type "function", none, Data.func (FuncData.mk (.ofString "int_to_big_endian") (.ofString "int_to_big_endian") (fA (tS 13)) (FuncBody.stmts (fB (tS 13))) (fS (tS 13)) 3 [] .none .none .none (.str (.ofString "rlp.utils") 390) none (.ref 1470) .none 0), #[]⟩
noncomputable def o_1479 (P : Params) : Obj := ⟨.type "tuple", none, Data.seq #[.none] 0, #[]⟩
noncomputable def o_1480 (P : Params) : Obj := ⟨.type "tuple", none, Data.seq #[] 0, #[]⟩
noncomputable def o_1482 (P : Params) : Obj := ⟨.type "tuple", none, Data.seq #[.str (.ofString "self") 1202, .str (.ofString "length") 1203] 0, #[]⟩
noncomputable def o_1483 (P : Params) : Obj := ⟨.type "tuple", none, Data.seq #[] 0, #[]⟩
noncomputable def o_1485 (P : Params) : Obj := ⟨.type "code", none, Data.fields #[.str (.ofString "__init__") 1199, .str (.ofString "BigEndianInt.__init__") 1200, .str (.ofString "/claim/cut.py") 1201, .int 58 0, .int 2 0, .int 0 0, .int 0 0, .int 3 0, .ref 1480, .bool true, .int 181 0, .ref 1481, .none, .ref 1482, .ref 1483, .ref 1484, .int 1204 0, .int 58 0, .str (.ofString "/claim/cut.py") 1205], #[]⟩
noncomputable def o_1486 (P : Params) : Obj := ⟨.type "function", none, Data.func (FuncData.mk (.ofString "__init__") (.ofString "BigEndianInt.__init__") (fA (cM (tS 15) 0)) (FuncBody.stmts (fB (cM (tS 15) 0))) (fS (cM (tS 15) 0)) 3 [] (.ref 1479) .none .none (.str (.ofString "rlp.sedes.big_endian_int") 1185) none (.ref 1485) .none 0), #[]⟩
noncomputable def o_1487 (P : Params) : Obj := ⟨.type "tuple", none, Data.seq #[] 0, #[]⟩
noncomputable def o_1489 (P : Params) : Obj := ⟨.type "tuple", none, Data.seq #[.str (.ofString "self") 1210, .str (.ofString "obj") 1211, .str (.ofString "s") 1212] 0, #[]⟩
noncomputable def o_1490 (P : Params) : Obj := ⟨.type "tuple", none, Data.seq #[] 0, #[]⟩
noncomputable def o_1492 (P : Params) : Obj := ⟨.type "code", none, Data.fields #[.str (.ofString "serialize") 1207, .str (.ofString "BigEndianInt.serialize") 1208, .str (.ofString "/claim/cut.py") 1209, .int 61 0, .int 2 0, .int 0 0, .int 0 0, .int 3 0, .ref 1487, .bool true, .int 181 0, .ref 1488, .none, .ref 1489, .ref 1490, .ref 1491, .int 1213 0, .int 61 0, .str (.ofString "/claim/cut.py") 1214], #[]⟩
noncomputable def o_1493 (P : Params) : Obj := ⟨.type "function", none, Data.func (FuncData.mk (.ofString "serialize") (.ofString "BigEndianInt.serialize") (fA (cM (tS 15) 1)) (FuncBody.stmts (fB (cM (tS 15) 1))) (fS (cM (tS 15) 1)) 3 [] .none .none .none (.str (.ofString "rlp.sedes.big_endian_int") 1185) none (.ref 1492) .none 0), #[]⟩
noncomputable def o_1494 (P : Params) : Obj := ⟨.type "tuple", none, Data.seq #[] 0, #[]⟩
noncomputable def o_1496 (P : Params) : Obj := ⟨.type "tuple", none, Data.seq #[.str (.ofString "self") 1219, .str (.ofString "serial") 1220] 0, #[]⟩
noncomputable def o_1497 (P : Params) : Obj := ⟨.type "tuple", none, Data.seq #[] 0, #[]⟩
noncomputable def o_1499 (P : Params) : Obj := ⟨.type "code", none, Data.fields #[.str (.ofString "deserialize") 1216, .str (.ofString "BigEndianInt.deserialize") 1217, .str (.ofString "/claim/cut.py") 1218, .int 77 0, .int 2 0, .int 0 0, .int 0 0, .int 3 0, .ref 1494, .bool true, .int 181 0, .ref 1495, .none, .ref 1496, .ref 1497, .ref 1498, .int 1221 0, .int 77 0, .str (.ofString "/claim/cut.py") 1222], #[]⟩
noncomputable def o_1500 (P : Params) : Obj := ⟨.type "function", none, Data.func (FuncData.mk (.ofString "deserialize") (.ofString "BigEndianInt.deserialize") (fA (cM (tS 15) 2)) (FuncBody.stmts (fB (cM (tS 15) 2))) (fS (cM (tS 15) 2)) 3 [] .none .none .none (.str (.ofString "rlp.sedes.big_endian_int") 1185) none (.ref 1499) .none 0), #[]⟩
noncomputable def o_1501 (P : Params) : Obj := ⟨.type "tuple", none, Data.seq #[.str (.ofString "length") 1224] 0, #[]⟩
noncomputable def o_1502 (P : Params) : Obj := ⟨.type "dict", none, Data.dict #[(kE P "__module__" 1194 (.str (.ofString "rlp.sedes.big_endian_int") 1185)), (kE P "__firstlineno__" 1198 (.int 56 1197)), (kE P "__init__" 1206 (.ref 1486)), (kE P "serialize" 1215 (.ref 1493)), (kE P "deserialize" 1223 (.ref 1500)), (kE P "__static_attributes__" 1225 (.ref 1501)), (kE P "__dict__" 1227 (.ref 1504)), (kE P "__weakref__" 1229 (.ref 1505)), (kE P "__doc__" 1230 .none)] 4, #[]⟩
noncomputable def o_1503 (P : Params) : Obj := (Obj.mk (.type "type") none (Data.cls (ClassData.mk (.ofString "BigEndianInt") [.type "object"] [.ref 1503, .type "object"] 1502 (.ofString "BigEndianInt") true [] [] false none false)) #[none, none, (some (.str (.ofString "BigEndianInt") 1187)), (some (.str (.ofString "BigEndianInt") 1195)), (some (.builtin "object.__new__")), (some (.bool true))])
noncomputable def o_1504 (P : Params) : Obj := ⟨.type "getset_descriptor", none, Data.fields #[.str (.ofString "__dict__") 1226, .ref 1503, .builtin "function.__dict__", .builtin "function.__dict__#set"], #[]⟩
noncomputable def o_1505 (P : Params) : Obj := ⟨.type "getset_descriptor", none, Data.fields #[.str (.ofString "__weakref__") 1228, .ref 1503, .builtin "ExceptionGroup.__weakref__", .none], #[]⟩
noncomputable def o_1508 (P : Params) : Obj := ⟨.type "dict", none, Data.dict #[(kE P "length" 1236 .none)] 1, #[]⟩
noncomputable def o_1509 (P : Params) : Obj := (Obj.mk (.ref 1503) (some 1508) Data.plain #[])
noncomputable def o_1518 (P : Params) : Obj := ⟨.type "tuple", none, Data.seq #[.none, .none, .bool false] 0, #[]⟩
noncomputable def o_1519 (P : Params) : Obj := ⟨.type "tuple", none, Data.seq #[] 0, #[]⟩
noncomputable def o_1521 (P : Params) : Obj := ⟨.type "tuple", none, Data.seq #[.str (.ofString "self") 1255, .str (.ofString "min_length") 1256, .str (.ofString "max_length") 1257, .str (.ofString "allow_empty") 1258] 0, #[]⟩
noncomputable def o_1522 (P : Params) : Obj := ⟨.type "tuple", none, Data.seq #[] 0, #[]⟩
noncomputable def o_1524 (P : Params) : Obj := ⟨.type "code", none, Data.fields #[.str (.ofString "__init__") 1252, .str (.ofString "Binary.__init__") 1253, .str (.ofString "/claim/cut.py") 1254, .int 88 0, .int 4 0, .int 0 0, .int 0 0, .int 3 0, .ref 1519, .bool true, .int 181 0, .ref 1520, .none, .ref 1521, .ref 1522, .ref 1523, .int 1259 0, .int 88 0, .str (.ofString "/claim/cut.py") 1260], #[]⟩
noncomputable def o_1525 (P : Params) : Obj := ⟨.type "function", none, Data.func (FuncData.mk (.ofString "__init__") (.ofString "Binary.__init__") (fA (cM (tS 18) 0)) (FuncBody.stmts (fB (cM (tS 18) 0))) (fS (cM (tS 18) 0)) 3 [] (.ref 1518) .none .none (.str (.ofString "rlp.sedes.binary") 1238) none (.ref 1524) .none 0), #[]⟩
noncomputable def o_1526 (P : Params) : Obj := ⟨.type "tuple", none, Data.seq #[.bool false] 0, #[]⟩
noncomputable def o_1527 (P : Params) : Obj := ⟨.type "tuple", none, Data.seq #[] 0, #[]⟩
noncomputable def o_1529 (P : Params) : Obj := ⟨.type "tuple", none, Data.seq #[.str (.ofString "cls") 1265, .str (.ofString "length") 1266, .str (.ofString "allow_empty") 1267] 0, #[]⟩
noncomputable def o_1530 (P : Params) : Obj := ⟨.type "tuple", none, Data.seq #[] 0, #[]⟩
noncomputable def o_1532 (P : Params) : Obj := ⟨.type "code", none, Data.fields #[.str (.ofString "fixed_length") 1262, .str (.ofString "Binary.fixed_length") 1263, .str (.ofString "/claim/cut.py") 1264, .int 93 0, .int 3 0, .int 0 0, .int 0 0, .int 3 0, .ref 1527, .bool true, .int 181 0, .ref 1528, .none, .ref 1529, .ref 1530, .ref 1531, .int 1268 0, .int 93 0, .str (.ofString "/claim/cut.py") 1269], #[]⟩
noncomputable def o_1533 (P : Params) : Obj := ⟨.type "function", none, Data.func (FuncData.mk (.ofString "fixed_length") (.ofString "Binary.fixed_length") (fA (cM (tS 18) 1)) (FuncBody.stmts (fB (cM (tS 18) 1))) (fS (cM (tS 18) 1)) 3 [] (.ref 1526) .none .none (.str (.ofString "rlp.sedes.binary") 1238) (some 1536) (.ref 1532) .none 0), #[]⟩
noncomputable def o_1534 (P : Params) : Obj := ⟨.type "dict", none, Data.dict #[(kE P "__module__" 1271 (.str (.ofString "rlp.sedes.binary") 1238)), (kE P "__name__" 1274 (.str (.ofString "fixed_length") 1273)), (kE P "__qualname__" 1277 (.str (.ofString "Binary.fixed_length") 1276)), (kE P "__doc__" 1279 .none), (kE P "__annotations__" 1281 (.ref 1536))] 5, #[]⟩
noncomputable def o_1535 (P : Params) : Obj := (Obj.mk (.type "classmethod") (some 1534) (Data.fields #[.ref 1533, .bool false]) #[])
noncomputable def o_1536 (P : Params) : Obj := ⟨.type "dict", none, Data.dict #[] 0, #[]⟩
noncomputable def o_1537 (P : Params) : Obj := ⟨.type "tuple", none, Data.seq #[] 0, #[]⟩
noncomputable def o_1539 (P : Params) : Obj := ⟨.type "tuple", none, Data.seq #[.str (.ofString "cls") 1286, .str (.ofString "obj") 1287] 0, #[]⟩
noncomputable def o_1540 (P : Params) : Obj := ⟨.type "tuple", none, Data.seq #[] 0, #[]⟩
noncomputable def o_1542 (P : Params) : Obj := ⟨.type "code", none, Data.fields #[.str (.ofString "is_valid_type") 1283, .str (.ofString "Binary.is_valid_type") 1284, .str (.ofString "/claim/cut.py") 1285, .int 97 0, .int 2 0, .int 0 0, .int 0 0, .int 3 0, .ref 1537, .bool true, .int 181 0, .ref 1538, .none, .ref 1539, .ref 1540, .ref 1541, .int 1288 0, .int 97 0, .str (.ofString "/claim/cut.py") 1289], #[]⟩
noncomputable def o_1543 (P : Params) : Obj := ⟨.type "function", none, Data.func (FuncData.mk (.ofString "is_valid_type") (.ofString "Binary.is_valid_type") (fA (cM (tS 18) 2)) (FuncBody.stmts (fB (cM (tS 18) 2))) (fS (cM (tS 18) 2)) 3 [] .none .none .none (.str (.ofString "rlp.sedes.binary") 1238) (some 1546) (.ref 1542) .none 0), #[]⟩
noncomputable def o_1544 (P : Params) : Obj := ⟨.type "dict", none, Data.dict #[(kE P "__module__" 1291 (.str (.ofString "rlp.sedes.binary") 1238)), (kE P "__name__" 1294 (.str (.ofString "is_valid_type") 1293)), (kE P "__qualname__" 1297 (.str (.ofString "Binary.is_valid_type") 1296)), (kE P "__doc__" 1299 .none), (kE P "__annotations__" 1301 (.ref 1546))] 5, #[]⟩
noncomputable def o_1545 (P : Params) : Obj := (Obj.mk (.type "classmethod") (some 1544) (Data.fields #[.ref 1543, .bool false]) #[])
noncomputable def o_1546 (P : Params) : Obj := ⟨.type "dict", none, Data.dict #[] 0, #[]⟩
noncomputable def o_1547 (P : Params) : Obj := ⟨.type "tuple", none, Data.seq #[] 0, #[]⟩
noncomputable def o_1549 (P : Params) : Obj := ⟨.type "tuple", none, Data.seq #[.str (.ofString "self") 1306, .str (.ofString "length") 1307] 0, #[]⟩
noncomputable def o_1550 (P : Params) : Obj := ⟨.type "tuple", none, Data.seq #[] 0, #[]⟩
noncomputable def o_1552 (P : Params) : Obj := ⟨.type "code", none, Data.fields #[.str (.ofString "is_valid_length") 1303, .str (.ofString "Binary.is_valid_length") 1304, .str (.ofString "/claim/cut.py") 1305, .int 101 0, .int 2 0, .int 0 0, .int 0 0, .int 3 0, .ref 1547, .bool true, .int 181 0, .ref 1548, .none, .ref 1549, .ref 1550, .ref 1551, .int 1308 0, .int 101 0, .str (.ofString "/claim/cut.py") 1309], #[]⟩
noncomputable def o_1553 (P : Params) : Obj := ⟨.type "function", none, Data.func (FuncData.mk (.ofString "is_valid_length") (.ofString "Binary.is_valid_length") (fA (cM (tS 18) 3)) (FuncBody.stmts (fB (cM (tS 18) 3))) (fS (cM (tS 18) 3)) 3 [] .none .none .none (.str (.ofString "rlp.sedes.binary") 1238) none (.ref 1552) .none 0), #[]⟩
noncomputable def o_1554 (P : Params) : Obj := ⟨.type "tuple", none, Data.seq #[] 0, #[]⟩
noncomputable def o_1556 (P : Params) : Obj := ⟨.type "tuple", none, Data.seq #[.str (.ofString "self") 1314, .str (.ofString "obj") 1315] 0, #[]⟩
noncomputable def o_1557 (P : Params) : Obj := ⟨.type "tuple", none, Data.seq #[] 0, #[]⟩
noncomputable def o_1559 (P : Params) : Obj := ⟨.type "code", none, Data.fields #[.str (.ofString "serialize") 1311, .str (.ofString "Binary.serialize") 1312, .str (.ofString "/claim/cut.py") 1313, .int 104 0, .int 2 0, .int 0 0, .int 0 0, .int 3 0, .ref 1554, .bool true, .int 181 0, .ref 1555, .none, .ref 1556, .ref 1557, .ref 1558, .int 1316 0, .int 104 0, .str (.ofString "/claim/cut.py") 1317], #[]⟩
noncomputable def o_1560 (P : Params) : Obj := ⟨.type "function", none, Data.func (FuncData.mk (.ofString "serialize") (.ofString "Binary.serialize") (fA (cM (tS 18) 4)) (FuncBody.stmts (fB (cM (tS 18) 4))) (fS (cM (tS 18) 4)) 3 [] .none .none .none (.str (.ofString "rlp.sedes.binary") 1238) none (.ref 1559) .none 0), #[]⟩
noncomputable def o_1561 (P : Params) : Obj := ⟨.type "tuple", none, Data.seq #[] 0, #[]⟩
noncomputable def o_1563 (P : Params) : Obj := ⟨.type "tuple", none, Data.seq #[.str (.ofString "self") 1322, .str (.ofString "serial") 1323] 0, #[]⟩
noncomputable def o_1564 (P : Params) : Obj := ⟨.type "tuple", none, Data.seq #[] 0, #[]⟩
noncomputable def o_1566 (P : Params) : Obj := ⟨.type "code", none, Data.fields #[.str (.ofString "deserialize") 1319, .str (.ofString "Binary.deserialize") 1320, .str (.ofString "/claim/cut.py") 1321, .int 111 0, .int 2 0, .int 0 0, .int 0 0, .int 3 0, .ref 1561, .bool true, .int 181 0, .ref 1562, .none, .ref 1563, .ref 1564, .ref 1565, .int 1324 0, .int 111 0, .str (.ofString "/claim/cut.py") 1325], #[]⟩
noncomputable def o_1567 (P : Params) : Obj := ⟨.type "function", none, Data.func (FuncData.mk (.ofString "deserialize") (.ofString "Binary.deserialize") (fA (cM (tS 18) 5)) (FuncBody.stmts (fB (cM (tS 18) 5))) (fS (cM (tS 18) 5)) 3 [] .none .none .none (.str (.ofString "rlp.sedes.binary") 1238) none (.ref 1566) .none 0), #[]⟩
noncomputable def o_1568 (P : Params) : Obj := ⟨.type "tuple", none, Data.seq #[.str (.ofString "allow_empty") 1327, .str (.ofString "max_length") 1328, .str (.ofString "min_length") 1329] 0, #[]⟩
noncomputable def o_1569 (P : Params) : Obj := ⟨.type "dict", none, Data.dict #[(kE P "__module__" 1247 (.str (.ofString "rlp.sedes.binary") 1238)), (kE P "__firstlineno__" 1251 (.int 86 1250)), (kE P "__init__" 1261 (.ref 1525)), (kE P "fixed_length" 1282 (.ref 1535)), (kE P "is_valid_type" 1302 (.ref 1545)), (kE P "is_valid_length" 1310 (.ref 1553)), (kE P "serialize" 1318 (.ref 1560)), (kE P "deserialize" 1326 (.ref 1567)), (kE P "__static_attributes__" 1330 (.ref 1568)), (kE P "__dict__" 1332 (.ref 1571)), (kE P "__weakref__" 1334 (.ref 1572)), (kE P "__doc__" 1335 .none)] 4, #[]⟩
noncomputable def o_1570 (P : Params) : Obj := (Obj.mk (.type "type") none (Data.cls (ClassData.mk (.ofString "Binary") [.type "object"] [.ref 1570, .type "object"] 1569 (.ofString "Binary") true [] [] false none false)) #[none, none, (some (.str (.ofString "Binary") 1240)), (some (.str (.ofString "Binary") 1248)), (some (.builtin "object.__new__")), (some (.bool true))])
noncomputable def o_1571 (P : Params) : Obj := ⟨.type "getset_descriptor", none, Data.fields #[.str (.ofString "__dict__") 1331, .ref 1570, .builtin "function.__dict__", .builtin "function.__dict__#set"], #[]⟩
noncomputable def o_1572 (P : Params) : Obj := ⟨.type "getset_descriptor", none, Data.fields #[.str (.ofString "__weakref__") 1333, .ref 1570, .builtin "ExceptionGroup.__weakref__", .none], #[]⟩
noncomputable def o_1575 (P : Params) : Obj := ⟨.type "dict", none, Data.dict #[(kE P "min_length" 1344 (.int 0 1342)), (kE P "max_length" 1346 .none), (kE P "allow_empty" 1348 (.bool false))] 3, #[]⟩
noncomputable def o_1576 (P : Params) : Obj := (Obj.mk (.ref 1570) (some 1575) Data.plain #[])
noncomputable def o_1585 (P : Params) : Obj := ⟨.type "tuple", none, Data.seq #[] 0, #[]⟩
noncomputable def o_1587 (P : Params) : Obj := ⟨.type "tuple", none, Data.seq #[.str (.ofString "self") 1367, .str (.ofString "obj") 1368] 0, #[]⟩
noncomputable def o_1588 (P : Params) : Obj := ⟨.type "tuple", none, Data.seq #[] 0, #[]⟩
noncomputable def o_1590 (P : Params) : Obj := ⟨.type "code", none, Data.fields #[.str (.ofString "serialize") 1364, .str (.ofString "Boolean.serialize") 1365, .str (.ofString "/claim/cut.py") 1366, .int 122 0, .int 2 0, .int 0 0, .int 0 0, .int 3 0, .ref 1585, .bool true, .int 181 0, .ref 1586, .none, .ref 1587, .ref 1588, .ref 1589, .int 1369 0, .int 122 0, .str (.ofString "/claim/cut.py") 1370], #[]⟩
noncomputable def o_1591 (P : Params) : Obj := ⟨.type "function", none, Data.func (FuncData.mk (.ofString "serialize") (.ofString "Boolean.serialize") (fA (cM (tS 21) 0)) (FuncBody.stmts (fB (cM (tS 21) 0))) (fS (cM (tS 21) 0)) 3 [] .none .none .none (.str (.ofString "rlp.sedes.boolean") 1350) none (.ref 1590) .none 0), #[]⟩
noncomputable def o_1592 (P : Params) : Obj := ⟨.type "tuple", none, Data.seq #[] 0, #[]⟩
noncomputable def o_1594 (P : Params) : Obj := ⟨.type "tuple", none, Data.seq #[.str (.ofString "self") 1375, .str (.ofString "serial") 1376] 0, #[]⟩
noncomputable def o_1595 (P : Params) : Obj := ⟨.type "tuple", none, Data.seq #[] 0, #[]⟩
noncomputable def o_1597 (P : Params) : Obj := ⟨.type "code", none, Data.fields #[.str (.ofString "deserialize") 1372, .str (.ofString "Boolean.deserialize") 1373, .str (.ofString "/claim/cut.py") 1374, .int 132 0, .int 2 0, .int 0 0, .int 0 0, .int 3 0, .ref 1592, .bool true, .int 181 0, .ref 1593, .none, .ref 1594, .ref 1595, .ref 1596, .int 1377 0, .int 132 0, .str (.ofString "/claim/cut.py") 1378], #[]⟩
noncomputable def o_1598 (P : Params) : Obj := ⟨.type "function", none, Data.func (FuncData.mk (.ofString "deserialize") (.ofString "Boolean.deserialize") (fA (cM (tS 21) 1)) (FuncBody.stmts (fB (cM (tS 21) 1))) (fS (cM (tS 21) 1)) 3 [] .none .none .none (.str (.ofString "rlp.sedes.boolean") 1350) none (.ref 1597) .none 0), #[]⟩
noncomputable def o_1599 (P : Params) : Obj := ⟨.type "tuple", none, Data.seq #[] 0, #[]⟩
noncomputable def o_1600 (P : Params) : Obj := ⟨.type "dict", none, Data.dict #[(kE P "__module__" 1359 (.str (.ofString "rlp.sedes.boolean") 1350)), (kE P "__firstlineno__" 1363 (.int 120 1362)), (kE P "serialize" 1371 (.ref 1591)), (kE P "deserialize" 1379 (.ref 1598)), (kE P "__static_attributes__" 1380 (.ref 1599)), (kE P "__dict__" 1382 (.ref 1602)), (kE P "__weakref__" 1384 (.ref 1603)), (kE P "__doc__" 1385 .none)] 4, #[]⟩
noncomputable def o_1601 (P : Params) : Obj := (Obj.mk (.type "type") none (Data.cls (ClassData.mk (.ofString "Boolean") [.type "object"] [.ref 1601, .type "object"] 1600 (.ofString "Boolean") true [] [] false none false)) #[none, none, (some (.str (.ofString "Boolean") 1352)), (some (.str (.ofString "Boolean") 1360)), (some (.builtin "object.__new__")), (some (.bool true))])
noncomputable def o_1602 (P : Params) : Obj := ⟨.type "getset_descriptor", none, Data.fields #[.str (.ofString "__dict__") 1381, .ref 1601, .builtin "function.__dict__", .builtin "function.__dict__#set"], #[]⟩
noncomputable def o_1603 (P : Params) : Obj := ⟨.type "getset_descriptor", none, Data.fields #[.str (.ofString "__weakref__") 1383, .ref 1601, .builtin "ExceptionGroup.__weakref__", .none], #[]⟩
noncomputable def o_1606 (P : Params) : Obj := ⟨.type "dict", none, Data.dict #[] 0, #[]⟩
noncomputable def o_1607 (P : Params) : Obj := (Obj.mk (.ref 1601) (some 1606) Data.plain #[])
noncomputable def o_1608 (P : Params) : Obj := ⟨.type "tuple", none, Data.seq #[] 0, #[]⟩
noncomputable def o_1610 (P : Params) : Obj := ⟨.type "tuple", none, Data.seq #[.str (.ofString "obj") 1394] 0, #[]⟩
noncomputable def o_1611 (P : Params) : Obj := ⟨.type "tuple", none, Data.seq #[] 0, #[]⟩
noncomputable def o_1613 (P : Params) : Obj := ⟨.type "code", none, Data.fields #[.str (.ofString "is_sedes") 1391, .str (.ofString "is_sedes") 1392, .str (.ofString "/claim/cut.py") 1393, .int 141 0, .int 1 0, .int 0 0, .int 0 0, .int 3 0, .ref 1608, .bool true, .int 181 0, .ref 1609, .none, .ref 1610, .ref 1611, .ref 1612, .int 1395 0, .int 141 0, .str (.ofString "/claim/cut.py") 1396], #[]⟩
noncomputable def o_1614 (P : Params) : Obj := ⟨.type "function", none, Data.func (FuncData.mk (.ofString "is_sedes") (.ofString "is_sedes") (fA (tS 24)) (FuncBody.stmts (fB (tS 24))) (fS (tS 24)) 3 [] .none .none .none (.str (.ofString "rlp.sedes.lists") 1389) none (.ref 1613) .none 0), #[]⟩
noncomputable def o_1615 (P : Params) : Obj := ⟨.type "tuple", none, Data.seq #[] 0, #[]⟩
noncomputable def o_1617 (P : Params) : Obj := ⟨.type "tuple", none, Data.seq #[.str (.ofString "obj") 1401] 0, #[]⟩
noncomputable def o_1618 (P : Params) : Obj := ⟨.type "tuple", none, Data.seq #[] 0, #[]⟩
noncomputable def o_1620 (P : Params) : Obj := ⟨.type "code", none, Data.fields #[.str (.ofString "is_sequence") 1398, .str (.ofString "is_sequence") 1399, .str (.ofString "/claim/cut.py") 1400, .int 143 0, .int 1 0, .int 0 0, .int 0 0, .int 3 0, .ref 1615, .bool true, .int 181 0, .ref 1616, .none, .ref 1617, .ref 1618, .ref 1619, .int 1402 0, .int 143 0, .str (.ofString "/claim/cut.py") 1403], #[]⟩
noncomputable def o_1621 (P : Params) : Obj := ⟨.type "function", none, Data.func (FuncData.mk (.ofString "is_sequence") (.ofString "is_sequence") (fA (tS 25)) (FuncBody.stmts (fB (tS 25))) (fS (tS 25)) 3 [] .none .none .none (.str (.ofString "rlp.sedes.lists") 1389) none (.ref 1620) .none 0), #[]⟩
noncomputable def o_1629 (P : Params) : Obj := ⟨.type "tuple", none, Data.seq #[.none, .bool true] 0, #[]⟩
noncomputable def o_1630 (P : Params) : Obj := ⟨.type "tuple", none, Data.seq #[] 0, #[]⟩
noncomputable def o_1632 (P : Params) : Obj := ⟨.type "tuple", none, Data.seq #[.str (.ofString "self") 1420, .str (.ofString "elements") 1421, .str (.ofString "strict") 1422, .str (.ofString "e") 1423] 0, #[]⟩
noncomputable def o_1633 (P : Params) : Obj := ⟨.type "tuple", none, Data.seq #[] 0, #[]⟩
noncomputable def o_1635 (P : Params) : Obj := ⟨.type "code", none, Data.fields #[.str (.ofString "__init__") 1417, .str (.ofString "List.__init__") 1418, .str (.ofString "/claim/cut.py") 1419, .int 147 0, .int 3 0, .int 0 0, .int 0 0, .int 3 0, .ref 1630, .bool true, .int 181 0, .ref 1631, .none, .ref 1632, .ref 1633, .ref 1634, .int 1424 0, .int 147 0, .str (.ofString "/claim/cut.py") 1425], #[]⟩
noncomputable def o_1636 (P : Params) : Obj := ⟨.type "function", none, Data.func (FuncData.mk (.ofString "__init__") (.ofString "List.__init__") (fA (cM (tS 26) 0)) (FuncBody.stmts (fB (cM (tS 26) 0))) (fS (cM (tS 26) 0)) 3 [] (.ref 1629) .none .none (.str (.ofString "rlp.sedes.lists") 1389) none (.ref 1635) .none 0), #[]⟩
noncomputable def o_1637 (P : Params) : Obj := ⟨.type "tuple", none, Data.seq #[] 0, #[]⟩
noncomputable def o_1639 (P : Params) : Obj := ⟨.type "tuple", none, Data.seq #[.str (.ofString "self") 1430] 0, #[]⟩
noncomputable def o_1640 (P : Params) : Obj := ⟨.type "tuple", none, Data.seq #[] 0, #[]⟩
noncomputable def o_1642 (P : Params) : Obj := ⟨.type "code", none, Data.fields #[.str (.ofString "__len__") 1427, .str (.ofString "List.__len__") 1428, .str (.ofString "/claim/cut.py") 1429, .int 159 0, .int 1 0, .int 0 0, .int 0 0, .int 3 0, .ref 1637, .bool true, .int 181 0, .ref 1638, .none, .ref 1639, .ref 1640, .ref 1641, .int 1431 0, .int 159 0, .str (.ofString "/claim/cut.py") 1432], #[]⟩
noncomputable def o_1643 (P : Params) : Obj := ⟨.type "function", none, Data.func (FuncData.mk (.ofString "__len__") (.ofString "List.__len__") (fA (cM (tS 26) 1)) (FuncBody.stmts (fB (cM (tS 26) 1))) (fS (cM (tS 26) 1)) 3 [] .none .none .none (.str (.ofString "rlp.sedes.lists") 1389) none (.ref 1642) .none 0), #[]⟩
noncomputable def o_1644 (P : Params) : Obj := ⟨.type "tuple", none, Data.seq #[] 0, #[]⟩
noncomputable def o_1646 (P : Params) : Obj := ⟨.type "tuple", none, Data.seq #[.str (.ofString "self") 1437, .str (.ofString "obj") 1438, .str (.ofString "found") 1439, .str (.ofString "index") 1440, .str (.ofString "element") 1441, .str (.ofString "sedes") 1442, .str (.ofString "e") 1443] 0, #[]⟩
noncomputable def o_1647 (P : Params) : Obj := ⟨.type "tuple", none, Data.seq #[] 0, #[]⟩
noncomputable def o_1649 (P : Params) : Obj := ⟨.type "code", none, Data.fields #[.str (.ofString "serialize") 1434, .str (.ofString "List.serialize") 1435, .str (.ofString "/claim/cut.py") 1436, .int 162 0, .int 2 0, .int 0 0, .int 0 0, .int 3 0, .ref 1644, .bool true, .int 181 0, .ref 1645, .none, .ref 1646, .ref 1647, .ref 1648, .int 1444 0, .int 162 0, .str (.ofString "/claim/cut.py") 1445], #[]⟩
noncomputable def o_1650 (P : Params) : Obj := ⟨.type "function", none, Data.func (FuncData.mk (.ofString "serialize") (.ofString "List.serialize") (fA (cM (tS 26) 2)) (FuncBody.stmts (fB (cM (tS 26) 2))) (fS (cM (tS 26) 2)) 3 [] .none .none .none (.str (.ofString "rlp.sedes.lists") 1389) none (.ref 1649) .none 0), #[]⟩
noncomputable def o_1651 (P : Params) : Obj := ⟨.type "tuple", none, Data.seq #[] 0, #[]⟩
noncomputable def o_1653 (P : Params) : Obj := ⟨.type "tuple", none, Data.seq #[.str (.ofString "self") 1450, .str (.ofString "serial") 1451, .str (.ofString "found") 1452, .str (.ofString "idx") 1453, .str (.ofString "sedes") 1454, .str (.ofString "element") 1455, .str (.ofString "e") 1456] 0, #[]⟩
noncomputable def o_1654 (P : Params) : Obj := ⟨.type "tuple", none, Data.seq #[] 0, #[]⟩
noncomputable def o_1656 (P : Params) : Obj := ⟨.type "code", none, Data.fields #[.str (.ofString "deserialize") 1447, .str (.ofString "List.deserialize") 1448, .str (.ofString "/claim/cut.py") 1449, .int 175 0, .int 2 0, .int 0 0, .int 0 0, .int 3 0, .ref 1651, .bool true, .int 181 0, .ref 1652, .none, .ref 1653, .ref 1654, .ref 1655, .int 1457 0, .int 175 0, .str (.ofString "/claim/cut.py") 1458], #[]⟩
noncomputable def o_1657 (P : Params) : Obj := ⟨.type "function", none, Data.func (FuncData.mk (.ofString "deserialize") (.ofString "List.deserialize") (fA (cM (tS 26) 3)) (FuncBody.stmts (fB (cM (tS 26) 3))) (fS (cM (tS 26) 3)) 3 [] .none .none .none (.str (.ofString "rlp.sedes.lists") 1389) none (.ref 1656) .none 0), #[]⟩
noncomputable def o_1658 (P : Params) : Obj := ⟨.type "tuple", none, Data.seq #[.str (.ofString "parts") 1460, .str (.ofString "strict") 1461] 0, #[]⟩
noncomputable def o_1659 (P : Params) : Obj := ⟨.type "dict", none, Data.dict #[(kE P "__module__" 1412 (.str (.ofString "rlp.sedes.lists") 1389)), (kE P "__firstlineno__" 1416 (.int 145 1415)), (kE P "__init__" 1426 (.ref 1636)), (kE P "__len__" 1433 (.ref 1643)), (kE P "serialize" 1446 (.ref 1650)), (kE P "deserialize" 1459 (.ref 1657)), (kE P "__static_attributes__" 1462 (.ref 1658)), (kE P "__dict__" 1464 (.ref 1661)), (kE P "__weakref__" 1466 (.ref 1662)), (kE P "__doc__" 1467 .none)] 4, #[]⟩
noncomputable def o_1660 (P : Params) : Obj := (Obj.mk (.type "type") none (Data.cls (ClassData.mk (.ofString "List") [.type "object"] [.ref 1660, .type "object"] 1659 (.ofString "List") true [] [] false none false)) #[none, none, (some (.str (.ofString "List") 1405)), (some (.str (.ofString "List") 1413)), (some (.builtin "object.__new__")), (some (.bool true))])
noncomputable def o_1661 (P : Params) : Obj := ⟨.type "getset_descriptor", none, Data.fields #[.str (.ofString "__dict__") 1463, .ref 1660, .builtin "function.__dict__", .builtin "function.__dict__#set"], #[]⟩
noncomputable def o_1662 (P : Params) : Obj := ⟨.type "getset_descriptor", none, Data.fields #[.str (.ofString "__weakref__") 1465, .ref 1660, .builtin "ExceptionGroup.__weakref__", .none], #[]⟩
noncomputable def o_1672 (P : Params) : Obj := ⟨.type "tuple", none, Data.seq #[.none] 0, #[]⟩
noncomputable def o_1673 (P : Params) : Obj := ⟨.type "tuple", none, Data.seq #[] 0, #[]⟩
noncomputable def o_1675 (P : Params) : Obj := ⟨.type "tuple", none, Data.seq #[.str (.ofString "self") 1485, .str (.ofString "element_sedes") 1486, .str (.ofString "max_length") 1487] 0, #[]⟩
noncomputable def o_1676 (P : Params) : Obj := ⟨.type "tuple", none, Data.seq #[] 0, #[]⟩
noncomputable def o_1678 (P : Params) : Obj := ⟨.type "code", none, Data.fields #[.str (.ofString "__init__") 1482, .str (.ofString "CountableList.__init__") 1483, .str (.ofString "/claim/cut.py") 1484, .int 189 0, .int 3 0, .int 0 0, .int 0 0, .int 3 0, .ref 1673, .bool true, .int 181 0, .ref 1674, .none, .ref 1675, .ref 1676, .ref 1677, .int 1488 0, .int 189 0, .str (.ofString "/claim/cut.py") 1489], #[]⟩
noncomputable def o_1679 (P : Params) : Obj := ⟨.type "function", none, Data.func (FuncData.mk (.ofString "__init__") (.ofString "CountableList.__init__") (fA (cM (tS 27) 0)) (FuncBody.stmts (fB (cM (tS 27) 0))) (fS (cM (tS 27) 0)) 3 [] (.ref 1672) .none .none (.str (.ofString "rlp.sedes.lists") 1389) none (.ref 1678) .none 0), #[]⟩
noncomputable def o_1680 (P : Params) : Obj := ⟨.type "tuple", none, Data.seq #[] 0, #[]⟩
noncomputable def o_1682 (P : Params) : Obj := ⟨.type "tuple", none, Data.seq #[.str (.ofString "self") 1494, .str (.ofString "obj") 1495, .str (.ofString "found") 1496, .str (.ofString "index") 1497, .str (.ofString "element") 1498, .str (.ofString "e") 1499] 0, #[]⟩
noncomputable def o_1683 (P : Params) : Obj := ⟨.type "tuple", none, Data.seq #[] 0, #[]⟩
noncomputable def o_1685 (P : Params) : Obj := ⟨.type "code", none, Data.fields #[.str (.ofString "serialize") 1491, .str (.ofString "CountableList.serialize") 1492, .str (.ofString "/claim/cut.py") 1493, .int 193 0, .int 2 0, .int 0 0, .int 0 0, .int 3 0, .ref 1680, .bool true, .int 181 0, .ref 1681, .none, .ref 1682, .ref 1683, .ref 1684, .int 1500 0, .int 193 0, .str (.ofString "/claim/cut.py") 1501], #[]⟩
noncomputable def o_1686 (P : Params) : Obj := ⟨.type "function", none, Data.func (FuncData.mk (.ofString "serialize") (.ofString "CountableList.serialize") (fA (cM (tS 27) 1)) (FuncBody.stmts (fB (cM (tS 27) 1))) (fS (cM (tS 27) 1)) 3 [] .none .none .none (.str (.ofString "rlp.sedes.lists") 1389) none (.ref 1685) .none 0), #[]⟩
noncomputable def o_1687 (P : Params) : Obj := ⟨.type "tuple", none, Data.seq #[] 0, #[]⟩
noncomputable def o_1689 (P : Params) : Obj := ⟨.type "tuple", none, Data.seq #[.str (.ofString "self") 1506, .str (.ofString "serial") 1507, .str (.ofString "found") 1508, .str (.ofString "index") 1509, .str (.ofString "element") 1510, .str (.ofString "e") 1511] 0, #[]⟩
noncomputable def o_1690 (P : Params) : Obj := ⟨.type "tuple", none, Data.seq #[] 0, #[]⟩
noncomputable def o_1692 (P : Params) : Obj := ⟨.type "code", none, Data.fields #[.str (.ofString "deserialize") 1503, .str (.ofString "CountableList.deserialize") 1504, .str (.ofString "/claim/cut.py") 1505, .int 206 0, .int 2 0, .int 0 0, .int 0 0, .int 3 0, .ref 1687, .bool true, .int 181 0, .ref 1688, .none, .ref 1689, .ref 1690, .ref 1691, .int 1512 0, .int 206 0, .str (.ofString "/claim/cut.py") 1513], #[]⟩
noncomputable def o_1693 (P : Params) : Obj := ⟨.type "function", none, Data.func (FuncData.mk (.ofString "deserialize") (.ofString "CountableList.deserialize") (fA (cM (tS 27) 2)) (FuncBody.stmts (fB (cM (tS 27) 2))) (fS (cM (tS 27) 2)) 3 [] .none .none .none (.str (.ofString "rlp.sedes.lists") 1389) none (.ref 1692) .none 0), #[]⟩
noncomputable def o_1694 (P : Params) : Obj := ⟨.type "tuple", none, Data.seq #[.str (.ofString "element_sedes") 1515, .str (.ofString "max_length") 1516] 0, #[]⟩
noncomputable def o_1695 (P : Params) : Obj := ⟨.type "dict", none, Data.dict #[(kE P "__module__" 1477 (.str (.ofString "rlp.sedes.lists") 1389)), (kE P "__firstlineno__" 1481 (.int 187 1480)), (kE P "__init__" 1490 (.ref 1679)), (kE P "serialize" 1502 (.ref 1686)), (kE P "deserialize" 1514 (.ref 1693)), (kE P "__static_attributes__" 1517 (.ref 1694)), (kE P "__dict__" 1519 (.ref 1697)), (kE P "__weakref__" 1521 (.ref 1698)), (kE P "__doc__" 1522 .none)] 4, #[]⟩
noncomputable def o_1696 (P : Params) : Obj := (Obj.mk (.type "type") none (Data.cls (ClassData.mk (.ofString "CountableList") [.type "object"] [.ref 1696, .type "object"] 1695 (.ofString "CountableList") true [] [] false none false)) #[none, none, (some (.str (.ofString "CountableList") 1470)), (some (.str (.ofString "CountableList") 1478)), (some (.builtin "object.__new__")), (some (.bool true))])
noncomputable def o_1697 (P : Params) : Obj := ⟨.type "getset_descriptor", none, Data.fields #[.str (.ofString "__dict__") 1518, .ref 1696, .builtin "function.__dict__", .builtin "function.__dict__#set"], #[]⟩
noncomputable def o_1698 (P : Params) : Obj := ⟨.type "getset_descriptor", none, Data.fields #[.str (.ofString "__weakref__") 1520, .ref 1696, .builtin "ExceptionGroup.__weakref__", .none], #[]⟩
noncomputable def o_1701 (P : Params) : Obj := ⟨.type "tuple", none, Data.seq #[] 0, #[]⟩
noncomputable def o_1703 (P : Params) : Obj := ⟨.type "tuple", none, Data.seq #[.str (.ofString "item") 1530, .str (.ofString "payload") 1531, .str (.ofString "prefix_offset") 1532, .str (.ofString "msg") 1533, .str (.ofString "prefix") 1534] 0, #[]⟩
noncomputable def o_1704 (P : Params) : Obj := ⟨.type "tuple", none, Data.seq #[] 0, #[]⟩
noncomputable def o_1706 (P : Params) : Obj := ⟨.type "code", none, Data.fields #[.str (.ofString "encode_raw") 1527, .str (.ofString "encode_raw") 1528, .str (.ofString "/claim/cut.py") 1529, .int 219 0, .int 1 0, .int 0 0, .int 0 0, .int 3 0, .ref 1701, .bool true, .int 181 0, .ref 1702, .none, .ref 1703, .ref 1704, .ref 1705, .int 1535 0, .int 219 0, .str (.ofString "/claim/cut.py") 1536], #[]⟩
noncomputable def o_1707 (P : Params) : Obj := ⟨.type "function", none, Data.func (FuncData.mk (.ofString "encode_raw") (.ofString "encode_raw") (fA (tS 29)) (FuncBody.stmts (fB (tS 29))) (fS (tS 29)) 3 [] .none .none .none (.str (.ofString "rlp.codec") 1525) none (.ref 1706) .none 0), #[]⟩
noncomputable def o_1708 (P : Params) : Obj := ⟨.type "tuple", none, Data.seq #[] 0, #[]⟩
noncomputable def o_1710 (P : Params) : Obj := ⟨.type "tuple", none, Data.seq #[.str (.ofString "item") 1541, .str (.ofString "strict") 1542, .str (.ofString "_") 1543, .str (.ofString "result") 1544, .str (.ofString "per_item_rlp") 1545, .str (.ofString "end") 1546, .str (.ofString "msg") 1547] 0, #[]⟩
noncomputable def o_1711 (P : Params) : Obj := ⟨.type "tuple", none, Data.seq #[] 0, #[]⟩
noncomputable def o_1713 (P : Params) : Obj := ⟨.type "code", none, Data.fields #[.str (.ofString "decode_raw") 1538, .str (.ofString "decode_raw") 1539, .str (.ofString "/claim/cut.py") 1540, .int 236 0, .int 3 0, .int 0 0, .int 0 0, .int 3 0, .ref 1708, .bool true, .int 181 0, .ref 1709, .none, .ref 1710, .ref 1711, .ref 1712, .int 1548 0, .int 236 0, .str (.ofString "/claim/cut.py") 1549], #[]⟩
noncomputable def o_1714 (P : Params) : Obj := ⟨.type "function", none, Data.func (FuncData.mk (.ofString "decode_raw") (.ofString "decode_raw") (fA (tS 30)) (FuncBody.stmts (fB (tS 30))) (fS (tS 30)) 3 [] .none .none .none (.str (.ofString "rlp.codec") 1525) none (.ref 1713) .none 0), #[]⟩
noncomputable def o_1715 (P : Params) : Obj := ⟨.type "tuple", none, Data.seq #[.none, .bool true, .bool true] 0, #[]⟩
noncomputable def o_1716 (P : Params) : Obj := ⟨.type "tuple", none, Data.seq #[] 0, #[]⟩
noncomputable def o_1718 (P : Params) : Obj := ⟨.type "tuple", none, Data.seq #[.str (.ofString "obj") 1554, .str (.ofString "sedes") 1555, .str (.ofString "infer_serializer") 1556, .str (.ofString "cache") 1557, .str (.ofString "item") 1558, .str (.ofString "result") 1559] 0, #[]⟩
noncomputable def o_1719 (P : Params) : Obj := ⟨.type "tuple", none, Data.seq #[] 0, #[]⟩
noncomputable def o_1721 (P : Params) : Obj := ⟨.type "code", none, Data.fields #[.str (.ofString "encode") 1551, .str (.ofString "encode") 1552, .str (.ofString "/claim/cut.py") 1553, .int 245 0, .int 4 0, .int 0 0, .int 0 0, .int 3 0, .ref 1716, .bool true, .int 181 0, .ref 1717, .none, .ref 1718, .ref 1719, .ref 1720, .int 1560 0, .int 245 0, .str (.ofString "/claim/cut.py") 1561], #[]⟩
noncomputable def o_1722 (P : Params) : Obj := ⟨.type "function", none, Data.func (FuncData.mk (.ofString "encode") (.ofString "encode") (fA (tS 31)) (FuncBody.stmts (fB (tS 31))) (fS (tS 31)) 3 [] (.ref 1715) .none .none (.str (.ofString "rlp.codec") 1525) none (.ref 1721) .none 0), #[]⟩
noncomputable def o_1723 (P : Params) : Obj := ⟨.type "tuple", none, Data.seq #[] 0, #[]⟩
noncomputable def o_1725 (P : Params) : Obj := ⟨.type "tuple", none, Data.seq #[.str (.ofString "length") 1570, .str (.ofString "offset") 1571, .str (.ofString "length_string") 1572] 0, #[]⟩
noncomputable def o_1726 (P : Params) : Obj := ⟨.type "tuple", none, Data.seq #[] 0, #[]⟩
noncomputable def o_1728 (P : Params) : Obj := ⟨.type "code", none, Data.fields #[.str (.ofString "length_prefix") 1567, .str (.ofString "length_prefix") 1568, .str (.ofString "/claim/cut.py") 1569, .int 255 0, .int 2 0, .int 0 0, .int 0 0, .int 3 0, .ref 1723, .bool true, .int 181 0, .ref 1724, .none, .ref 1725, .ref 1726, .ref 1727, .int 1573 0, .int 255 0, .str (.ofString "/claim/cut.py") 1574], #[]⟩
noncomputable def o_1729 (P : Params) : Obj := ⟨.type "function", none, Data.func (FuncData.mk (.ofString "length_prefix") (.ofString "length_prefix") (fA (tS 33)) (FuncBody.stmts (fB (tS 33))) (fS (tS 33)) 3 [] .none .none .none (.str (.ofString "rlp.codec") 1525) none (.ref 1728) .none 0), #[]⟩
noncomputable def o_1730 (P : Params) : Obj := ⟨.type "tuple", none, Data.seq #[] 0, #[]⟩
noncomputable def o_1732 (P : Params) : Obj := ⟨.type "tuple", none, Data.seq #[.str (.ofString "rlp") 1583, .str (.ofString "start") 1584, .str (.ofString "b0") 1585, .str (.ofString "ll") 1586, .str (.ofString "len_prefix") 1587, .str (.ofString "l") 1588] 0, #[]⟩
noncomputable def o_1733 (P : Params) : Obj := ⟨.type "tuple", none, Data.seq #[] 0, #[]⟩
noncomputable def o_1735 (P : Params) : Obj := ⟨.type "code", none, Data.fields #[.str (.ofString "consume_length_prefix") 1580, .str (.ofString "consume_length_prefix") 1581, .str (.ofString "/claim/cut.py") 1582, .int 264 0, .int 2 0, .int 0 0, .int 0 0, .int 3 0, .ref 1730, .bool true, .int 181 0, .ref 1731, .none, .ref 1732, .ref 1733, .ref 1734, .int 1589 0, .int 264 0, .str (.ofString "/claim/cut.py") 1590], #[]⟩
noncomputable def o_1736 (P : Params) : Obj := ⟨.type "function", none, Data.func (FuncData.mk (.ofString "consume_length_prefix") (.ofString "consume_length_prefix") (fA (tS 35)) (FuncBody.stmts (fB (tS 35))) (fS (tS 35)) 3 [] .none .none .none (.str (.ofString "rlp.codec") 1525) none (.ref 1735) .none 0), #[]⟩
noncomputable def o_1737 (P : Params) : Obj := ⟨.type "tuple", none, Data.seq #[] 0, #[]⟩
noncomputable def o_1739 (P : Params) : Obj := ⟨.type "tuple", none, Data.seq #[.str (.ofString "rlp") 1595, .str (.ofString "prefix") 1596, .str (.ofString "start") 1597, .str (.ofString "type_") 1598, .str (.ofString "length") 1599, .str (.ofString "item") 1600, .str (.ofString "items") 1601, .str (.ofString "per_item_rlp") 1602, .str (.ofString "list_rlp") 1603, .str (.ofString "next_item_start") 1604, .str (.ofString "end") 1605, .str (.ofString "p") 1606, .str (.ofString "t") 1607, .str (.ofString "l") 1608, .str (.ofString "s") 1609, .str (.ofString "item_rlp") 1610] 0, #[]⟩
noncomputable def o_1740 (P : Params) : Obj := ⟨.type "tuple", none, Data.seq #[] 0, #[]⟩
noncomputable def o_1742 (P : Params) : Obj := ⟨.type "code", none, Data.fields #[.str (.ofString "consume_payload") 1592, .str (.ofString "consume_payload") 1593, .str (.ofString "/claim/cut.py") 1594, .int 292 0, .int 5 0, .int 0 0, .int 0 0, .int 3 0, .ref 1737, .bool true, .int 181 0, .ref 1738, .none, .ref 1739, .ref 1740, .ref 1741, .int 1611 0, .int 292 0, .str (.ofString "/claim/cut.py") 1612], #[]⟩
noncomputable def o_1743 (P : Params) : Obj := ⟨.type "function", none, Data.func (FuncData.mk (.ofString "consume_payload") (.ofString "consume_payload") (fA (tS 36)) (FuncBody.stmts (fB (tS 36))) (fS (tS 36)) 3 [] .none .none .none (.str (.ofString "rlp.codec") 1525) none (.ref 1742) .none 0), #[]⟩
noncomputable def o_1744 (P : Params) : Obj := ⟨.type "tuple", none, Data.seq #[] 0, #[]⟩
noncomputable def o_1746 (P : Params) : Obj := ⟨.type "tuple", none, Data.seq #[.str (.ofString "rlp") 1617, .str (.ofString "start") 1618, .str (.ofString "p") 1619, .str (.ofString "t") 1620, .str (.ofString "l") 1621, .str (.ofString "s") 1622] 0, #[]⟩
noncomputable def o_1747 (P : Params) : Obj := ⟨.type "tuple", none, Data.seq #[] 0, #[]⟩
noncomputable def o_1749 (P : Params) : Obj := ⟨.type "code", none, Data.fields #[.str (.ofString "consume_item") 1614, .str (.ofString "consume_item") 1615, .str (.ofString "/claim/cut.py") 1616, .int 314 0, .int 2 0, .int 0 0, .int 0 0, .int 3 0, .ref 1744, .bool true, .int 181 0, .ref 1745, .none, .ref 1746, .ref 1747, .ref 1748, .int 1623 0, .int 314 0, .str (.ofString "/claim/cut.py") 1624], #[]⟩
noncomputable def o_1750 (P : Params) : Obj := ⟨.type "function", none, Data.func (FuncData.mk (.ofString "consume_item") (.ofString "consume_item") (fA (tS 37)) (FuncBody.stmts (fB (tS 37))) (fS (tS 37)) 3 [] .none .none .none (.str (.ofString "rlp.codec") 1525) none (.ref 1749) .none 0), #[]⟩
noncomputable def o_1751 (P : Params) : Obj := ⟨.type "tuple", none, Data.seq #[.none, .bool true, .bool false] 0, #[]⟩
noncomputable def o_1752 (P : Params) : Obj := ⟨.type "tuple", none, Data.seq #[] 0, #[]⟩
noncomputable def o_1754 (P : Params) : Obj := ⟨.type "tuple", none, Data.seq #[.str (.ofString "rlp") 1629, .str (.ofString "sedes") 1630, .str (.ofString "strict") 1631, .str (.ofString "recursive_cache") 1632, .str (.ofString "item") 1633, .str (.ofString "per_item_rlp") 1634] 0, #[]⟩
noncomputable def o_1755 (P : Params) : Obj := ⟨.type "tuple", none, Data.seq #[] 0, #[]⟩
noncomputable def o_1757 (P : Params) : Obj := ⟨.type "code", none, Data.fields #[.str (.ofString "decode") 1626, .str (.ofString "decode") 1627, .str (.ofString "/claim/cut.py") 1628, .int 317 0, .int 4 0, .int 0 0, .int 0 0, .int 3 0, .ref 1752, .bool true, .int 181 0, .ref 1753, .none, .ref 1754, .ref 1755, .ref 1756, .int 1635 0, .int 317 0, .str (.ofString "/claim/cut.py") 1636], #[]⟩
noncomputable def o_1758 (P : Params) : Obj := ⟨.type "function", none, Data.func (FuncData.mk (.ofString "decode") (.ofString "decode") (fA (tS 38)) (FuncBody.stmts (fB (tS 38))) (fS (tS 38)) 3 [] (.ref 1751) .none .none (.str (.ofString "rlp.codec") 1525) none (.ref 1757) .none 0), #[]⟩
noncomputable def o_1759 (P : Params) : Obj := ⟨.type "tuple", none, Data.seq #[] 0, #[]⟩
noncomputable def o_1762 (P : Params) : Obj := ⟨.type "code", none, Data.fields #[.str (.ofString "infer_sedes") 1638, .str (.ofString "infer_sedes") 1639, .str (.ofString "/claim/cut.py") 1640, .int 325 0, .int 1 0, .int 0 0, .int 0 0, .int 3 0, .ref 1759, .bool true, .int 181 0, .ref 1760, .none, .none, .none, .ref 1761, .int 1641 0, .int 325 0, .str (.ofString "/claim/cut.py") 1642], #[]⟩
noncomputable def o_1763 (P : Params) : Obj := ⟨.type "function", none, Data.func (FuncData.mk (.ofString "infer_sedes") (.ofString "infer_sedes") (fA (tS 39)) (FuncBody.stmts (fB (tS 39))) (fS (tS 39)) 3 [] .none .none .none (.str (.ofString "rlp.codec") 1525) none (.ref 1762) .none 0), #[]⟩
noncomputable def o_1764 (P : Params) : Obj := ⟨.type "tuple", none, Data.seq #[] 0, #[]⟩
noncomputable def o_1766 (P : Params) : Obj := ⟨.type "tuple", none, Data.seq #[.str (.ofString "number") 1649, .str (.ofString "size") 1650, .str (.ofString "row") 1651, .str (.ofString "k") 1652] 0, #[]⟩
noncomputable def o_1767 (P : Params) : Obj := ⟨.type "tuple", none, Data.seq #[] 0, #[]⟩
noncomputable def o_1769 (P : Params) : Obj := ⟨.type "code", none, Data.fields #[.str (.ofString "_law_octets") 1646, .str (.ofString "_law_octets") 1647, .str (.ofString "/claim/cut.py") 1648, .int 337 0, .int 2 0, .int 0 0, .int 0 0, .int 3 0, .ref 1764, .bool true, .int 181 0, .ref 1765, .none, .ref 1766, .ref 1767, .ref 1768, .int 1653 0, .int 337 0, .str (.ofString "/claim/cut.py") 1654], #[]⟩
noncomputable def o_1770 (P : Params) : Obj := ⟨.type "function", none, Data.func (FuncData.mk (.ofString "_law_octets") (.ofString "_law_octets") (fA (tS 41)) (FuncBody.stmts (fB (tS 41))) (fS (tS 41)) 3 [] .none .none .none (.str (.ofString "law_it0028_04") 1644) none (.ref 1769) .none 0), #[]⟩
noncomputable def o_1771 (P : Params) : Obj := ⟨.type "tuple", none, Data.seq #[] 0, #[]⟩
noncomputable def o_1773 (P : Params) : Obj := ⟨.type "tuple", none, Data.seq #[.str (.ofString "numbers") 1659, .str (.ofString "rows") 1660, .str (.ofString "number") 1661, .str (.ofString "kind") 1662, .str (.ofString "rest") 1663, .str (.ofString "part") 1664, .str (.ofString "octets") 1665] 0, #[]⟩
noncomputable def o_1774 (P : Params) : Obj := ⟨.type "tuple", none, Data.seq #[] 0, #[]⟩
noncomputable def o_1776 (P : Params) : Obj := ⟨.type "code", none, Data.fields #[.str (.ofString "_law_thing") 1656, .str (.ofString "_law_thing") 1657, .str (.ofString "/claim/cut.py") 1658, .int 343 0, .int 1 0, .int 0 0, .int 0 0, .int 3 0, .ref 1771, .bool true, .int 181 0, .ref 1772, .none, .ref 1773, .ref 1774, .ref 1775, .int 1666 0, .int 343 0, .str (.ofString "/claim/cut.py") 1667], #[]⟩
noncomputable def o_1777 (P : Params) : Obj := ⟨.type "function", none, Data.func (FuncData.mk (.ofString "_law_thing") (.ofString "_law_thing") (fA (tS 42)) (FuncBody.stmts (fB (tS 42))) (fS (tS 42)) 3 [] .none .none .none (.str (.ofString "law_it0028_04") 1644) none (.ref 1776) .none 0), #[]⟩
noncomputable def o_1778 (P : Params) : Obj := ⟨.type "tuple", none, Data.seq #[] 0, #[]⟩
noncomputable def o_1781 (P : Params) : Obj := ⟨.type "code", none, Data.fields #[.str (.ofString "_law_form") 1669, .str (.ofString "_law_form") 1670, .str (.ofString "/claim/cut.py") 1671, .int 375 0, .int 1 0, .int 0 0, .int 0 0, .int 3 0, .ref 1778, .bool true, .int 181 0, .ref 1779, .none, .none, .none, .ref 1780, .int 1672 0, .int 375 0, .str (.ofString "/claim/cut.py") 1673], #[]⟩
noncomputable def o_1782 (P : Params) : Obj := ⟨.type "function", none, Data.func (FuncData.mk (.ofString "_law_form") (.ofString "_law_form") (fA (tS 43)) (FuncBody.stmts (fB (tS 43))) (fS (tS 43)) 3 [] .none .none .none (.str (.ofString "law_it0028_04") 1644) none (.ref 1781) .none 0), #[]⟩
noncomputable def o_1783 (P : Params) : Obj := ⟨.type "tuple", none, Data.seq #[] 0, #[]⟩
noncomputable def o_1786 (P : Params) : Obj := ⟨.type "code", none, Data.fields #[.str (.ofString "_law_value") 1675, .str (.ofString "_law_value") 1676, .str (.ofString "/claim/cut.py") 1677, .int 392 0, .int 1 0, .int 0 0, .int 0 0, .int 3 0, .ref 1783, .bool true, .int 181 0, .ref 1784, .none, .none, .none, .ref 1785, .int 1678 0, .int 392 0, .str (.ofString "/claim/cut.py") 1679], #[]⟩
noncomputable def o_1787 (P : Params) : Obj := ⟨.type "function", none, Data.func (FuncData.mk (.ofString "_law_value") (.ofString "_law_value") (fA (tS 44)) (FuncBody.stmts (fB (tS 44))) (fS (tS 44)) 3 [] .none .none .none (.str (.ofString "law_it0028_04") 1644) none (.ref 1786) .none 0), #[]⟩
noncomputable def o_1788 (P : Params) : Obj := ⟨.type "tuple", none, Data.seq #[] 0, #[]⟩
noncomputable def o_1791 (P : Params) : Obj := ⟨.type "code", none, Data.fields #[.str (.ofString "_law_plain") 1681, .str (.ofString "_law_plain") 1682, .str (.ofString "/claim/cut.py") 1683, .int 396 0, .int 1 0, .int 0 0, .int 0 0, .int 3 0, .ref 1788, .bool true, .int 181 0, .ref 1789, .none, .none, .none, .ref 1790, .int 1684 0, .int 396 0, .str (.ofString "/claim/cut.py") 1685], #[]⟩
noncomputable def o_1792 (P : Params) : Obj := ⟨.type "function", none, Data.func (FuncData.mk (.ofString "_law_plain") (.ofString "_law_plain") (fA (tS 45)) (FuncBody.stmts (fB (tS 45))) (fS (tS 45)) 3 [] .none .none .none (.str (.ofString "law_it0028_04") 1644) none (.ref 1791) .none 0), #[]⟩
noncomputable def o_1793 (P : Params) : Obj := ⟨.type "tuple", none, Data.seq #[] 0, #[]⟩
noncomputable def o_1795 (P : Params) : Obj := ⟨.type "tuple", none, Data.seq #[.str (.ofString "base") 1690, .str (.ofString "size") 1691, .str (.ofString "digits") 1692] 0, #[]⟩
noncomputable def o_1796 (P : Params) : Obj := ⟨.type "tuple", none, Data.seq #[] 0, #[]⟩
noncomputable def o_1798 (P : Params) : Obj := ⟨.type "code", none, Data.fields #[.str (.ofString "_law_head") 1687, .str (.ofString "_law_head") 1688, .str (.ofString "/claim/cut.py") 1689, .int 400 0, .int 2 0, .int 0 0, .int 0 0, .int 3 0, .ref 1793, .bool true, .int 181 0, .ref 1794, .none, .ref 1795, .ref 1796, .ref 1797, .int 1693 0, .int 400 0, .str (.ofString "/claim/cut.py") 1694], #[]⟩
noncomputable def o_1799 (P : Params) : Obj := ⟨.type "function", none, Data.func (FuncData.mk (.ofString "_law_head") (.ofString "_law_head") (fA (tS 46)) (FuncBody.stmts (fB (tS 46))) (fS (tS 46)) 3 [] .none .none .none (.str (.ofString "law_it0028_04") 1644) none (.ref 1798) .none 0), #[]⟩
noncomputable def o_1800 (P : Params) : Obj := ⟨.type "tuple", none, Data.seq #[] 0, #[]⟩
noncomputable def o_1802 (P : Params) : Obj := ⟨.type "tuple", none, Data.seq #[.str (.ofString "item") 1699, .str (.ofString "body") 1700, .str (.ofString "part") 1701] 0, #[]⟩
noncomputable def o_1803 (P : Params) : Obj := ⟨.type "tuple", none, Data.seq #[] 0, #[]⟩
noncomputable def o_1805 (P : Params) : Obj := ⟨.type "code", none, Data.fields #[.str (.ofString "_law_put") 1696, .str (.ofString "_law_put") 1697, .str (.ofString "/claim/cut.py") 1698, .int 408 0, .int 1 0, .int 0 0, .int 0 0, .int 3 0, .ref 1800, .bool true, .int 181 0, .ref 1801, .none, .ref 1802, .ref 1803, .ref 1804, .int 1702 0, .int 408 0, .str (.ofString "/claim/cut.py") 1703], #[]⟩
noncomputable def o_1806 (P : Params) : Obj := ⟨.type "function", none, Data.func (FuncData.mk (.ofString "_law_put") (.ofString "_law_put") (fA (tS 47)) (FuncBody.stmts (fB (tS 47))) (fS (tS 47)) 3 [] .none .none .none (.str (.ofString "law_it0028_04") 1644) none (.ref 1805) .none 0), #[]⟩
noncomputable def o_1807 (P : Params) : Obj := ⟨.type "tuple", none, Data.seq #[] 0, #[]⟩
noncomputable def o_1809 (P : Params) : Obj := ⟨.type "tuple", none, Data.seq #[.str (.ofString "one") 1708, .str (.ofString "other") 1709, .str (.ofString "a") 1710, .str (.ofString "b") 1711] 0, #[]⟩
noncomputable def o_1810 (P : Params) : Obj := ⟨.type "tuple", none, Data.seq #[] 0, #[]⟩
noncomputable def o_1812 (P : Params) : Obj := ⟨.type "code", none, Data.fields #[.str (.ofString "_law_same") 1705, .str (.ofString "_law_same") 1706, .str (.ofString "/claim/cut.py") 1707, .int 417 0, .int 2 0, .int 0 0, .int 0 0, .int 3 0, .ref 1807, .bool true, .int 181 0, .ref 1808, .none, .ref 1809, .ref 1810, .ref 1811, .int 1712 0, .int 417 0, .str (.ofString "/claim/cut.py") 1713], #[]⟩
noncomputable def o_1813 (P : Params) : Obj := ⟨.type "function", none, Data.func (FuncData.mk (.ofString "_law_same") (.ofString "_law_same") (fA (tS 48)) (FuncBody.stmts (fB (tS 48))) (fS (tS 48)) 3 [] .none .none .none (.str (.ofString "law_it0028_04") 1644) none (.ref 1812) .none 0), #[]⟩
noncomputable def o_1814 (P : Params) : Obj := ⟨.type "tuple", none, Data.seq #[] 0, #[]⟩
noncomputable def o_1816 (P : Params) : Obj := ⟨.type "tuple", none, Data.seq #[.str (.ofString "script") 1718, .str (.ofString "rows") 1719, .str (.ofString "thing") 1720, .str (.ofString "form") 1721, .str (.ofString "bare") 1722, .str (.ofString "told") 1723, .str (.ofString "found") 1724] 0, #[]⟩
noncomputable def o_1817 (P : Params) : Obj := ⟨.type "tuple", none, Data.seq #[] 0, #[]⟩
noncomputable def o_1819 (P : Params) : Obj := ⟨.type "code", none, Data.fields #[.str (.ofString "law") 1715, .str (.ofString "law") 1716, .str (.ofString "/claim/cut.py") 1717, .int 426 0, .int 1 0, .int 0 0, .int 0 0, .int 3 0, .ref 1814, .bool true, .int 181 0, .ref 1815, .none, .ref 1816, .ref 1817, .ref 1818, .int 1725 0, .int 426 0, .str (.ofString "/claim/cut.py") 1726], #[]⟩
noncomputable def o_1820 (P : Params) : Obj := ⟨.type "function", none, Data.func (FuncData.mk (.ofString "law") (.ofString "law") (fA (tS 49)) (FuncBody.stmts (fB (tS 49))) (fS (tS 49)) 3 [] .none .none .none (.str (.ofString "law_it0028_04") 1644) none (.ref 1819) .none 0), #[]⟩
noncomputable def KK (P : Params) : Frag := (nat_lit 2, o_2 P) :: (nat_lit 3, o_3 P) :: (nat_lit 15, o_15 P) :: (nat_lit 17, o_17 P) :: (nat_lit 18, o_18 P) :: (nat_lit 20, o_20 P) :: (nat_lit 21, o_21 P) :: (nat_lit 22, o_22 P) :: (nat_lit 29, o_29 P) :: (nat_lit 30, o_30 P) :: (nat_lit 31, o_31 P) :: (nat_lit 32, o_32 P) :: (nat_lit 35, o_35 P) :: (nat_lit 38, o_38 P) :: (nat_lit 43, o_43 P) :: (nat_lit 44, o_44 P) :: (nat_lit 46, o_46 P) :: (nat_lit 47, o_47 P) :: (nat_lit 49, o_49 P) :: (nat_lit 50, o_50 P) :: (nat_lit 51, o_51 P) :: (nat_lit 52, o_52 P) :: (nat_lit 53, o_53 P) :: (nat_lit 56, o_56 P) :: (nat_lit 59, o_59 P) :: (nat_lit 64, o_64 P) :: (nat_lit 65, o_65 P) :: (nat_lit 67, o_67 P) :: (nat_lit 68, o_68 P) :: (nat_lit 70, o_70 P) :: (nat_lit 71, o_71 P) :: (nat_lit 72, o_72 P) :: (nat_lit 73, o_73 P) :: (nat_lit 74, o_74 P) :: (nat_lit 77, o_77 P) :: (nat_lit 80, o_80 P) :: (nat_lit 85, o_85 P) :: (nat_lit 86, o_86 P) :: (nat_lit 88, o_88 P) :: (nat_lit 89, o_89 P) :: (nat_lit 91, o_91 P) :: (nat_lit 92, o_92 P) :: (nat_lit 93, o_93 P) :: (nat_lit 94, o_94 P) :: (nat_lit 95, o_95 P) :: (nat_lit 98, o_98 P) :: (nat_lit 101, o_101 P) :: (nat_lit 106, o_106 P) :: (nat_lit 107, o_107 P) :: (nat_lit 108, o_108 P) :: (nat_lit 110, o_110 P) :: (nat_lit 111, o_111 P) :: (nat_lit 113, o_113 P) :: (nat_lit 114, o_114 P) :: (nat_lit 115, o_115 P) :: (nat_lit 116, o_116 P) :: (nat_lit 117, o_117 P) :: (nat_lit 120, o_120 P) :: (nat_lit 123, o_123 P) :: (nat_lit 128, o_128 P) :: (nat_lit 129, o_129 P) :: (nat_lit 131, o_131 P) :: (nat_lit 132, o_132 P) :: (nat_lit 134, o_134 P) :: (nat_lit 135, o_135 P) :: (nat_lit 136, o_136 P) :: (nat_lit 137, o_137 P) :: (nat_lit 138, o_138 P) :: (nat_lit 141, o_141 P) :: (nat_lit 144, o_144 P) :: (nat_lit 149, o_149 P) :: (nat_lit 150, o_150 P) :: (nat_lit 151, o_151 P) :: (nat_lit 153, o_153 P) :: (nat_lit 154, o_154 P) :: (nat_lit 156, o_156 P) :: (nat_lit 157, o_157 P) :: (nat_lit 158, o_158 P) :: (nat_lit 159, o_159 P) :: (nat_lit 160, o_160 P) :: (nat_lit 1450, o_1450 P) :: (nat_lit 1451, o_1451 P) :: (nat_lit 1453, o_1453 P) :: (nat_lit 1454, o_1454 P) :: (nat_lit 1456, o_1456 P) :: (nat_lit 1457, o_1457 P) :: (nat_lit 1458, o_1458 P) :: (nat_lit 1460, o_1460 P) :: (nat_lit 1461, o_1461 P) :: (nat_lit 1463, o_1463 P) :: (nat_lit 1464, o_1464 P) :: (nat_lit 1465, o_1465 P) :: (nat_lit 1467, o_1467 P) :: (nat_lit 1468, o_1468 P) :: (nat_lit 1470, o_1470 P) :: (nat_lit 1471, o_1471 P) :: (nat_lit 1479, o_1479 P) :: (nat_lit 1480, o_1480 P) :: (nat_lit 1482, o_1482 P) :: (nat_lit 1483, o_1483 P) :: (nat_lit 1485, o_1485 P) :: (nat_lit 1486, o_1486 P) :: (nat_lit 1487, o_1487 P) :: (nat_lit 1489, o_1489 P) :: (nat_lit 1490, o_1490 P) :: (nat_lit 1492, o_1492 P) :: (nat_lit 1493, o_1493 P) :: (nat_lit 1494, o_1494 P) :: (nat_lit 1496, o_1496 P) :: (nat_lit 1497, o_1497 P) :: (nat_lit 1499, o_1499 P) :: (nat_lit 1500, o_1500 P) :: (nat_lit 1501, o_1501 P) :: (nat_lit 1502, o_1502 P) :: (nat_lit 1503, o_1503 P) :: (nat_lit 1504, o_1504 P) :: (nat_lit 1505, o_1505 P) :: (nat_lit 1508, o_1508 P) :: (nat_lit 1509, o_1509 P) :: (nat_lit 1518, o_1518 P) :: (nat_lit 1519, o_1519 P) :: (nat_lit 1521, o_1521 P) :: (nat_lit 1522, o_1522 P) :: (nat_lit 1524, o_1524 P) :: (nat_lit 1525, o_1525 P) :: (nat_lit 1526, o_1526 P) :: (nat_lit 1527, o_1527 P) :: (nat_lit 1529, o_1529 P) :: (nat_lit 1530, o_1530 P) :: (nat_lit 1532, o_1532 P) :: (nat_lit 1533, o_1533 P) :: (nat_lit 1534, o_1534 P) :: (nat_lit 1535, o_1535 P) :: (nat_lit 1536, o_1536 P) :: (nat_lit 1537, o_1537 P) :: (nat_lit 1539, o_1539 P) :: (nat_lit 1540, o_1540 P) :: (nat_lit 1542, o_1542 P) :: (nat_lit 1543, o_1543 P) :: (nat_lit 1544, o_1544 P) :: (nat_lit 1545, o_1545 P) :: (nat_lit 1546, o_1546 P) :: (nat_lit 1547, o_1547 P) :: (nat_lit 1549, o_1549 P) :: (nat_lit 1550, o_1550 P) :: (nat_lit 1552, o_1552 P) :: (nat_lit 1553, o_1553 P) :: (nat_lit 1554, o_1554 P) :: (nat_lit 1556, o_1556 P) :: (nat_lit 1557, o_1557 P) :: (nat_lit 1559, o_1559 P) :: (nat_lit 1560, o_1560 P) :: (nat_lit 1561, o_1561 P) :: (nat_lit 1563, o_1563 P) :: (nat_lit 1564, o_1564 P) :: (nat_lit 1566, o_1566 P) :: (nat_lit 1567, o_1567 P) :: (nat_lit 1568, o_1568 P) :: (nat_lit 1569, o_1569 P) :: (nat_lit 1570, o_1570 P) :: (nat_lit 1571, o_1571 P) :: (nat_lit 1572, o_1572 P) :: (nat_lit 1575, o_1575 P) :: (nat_lit 1576, o_1576 P) :: (nat_lit 1585, o_1585 P) :: (nat_lit 1587, o_1587 P) :: (nat_lit 1588, o_1588 P) :: (nat_lit 1590, o_1590 P) :: (nat_lit 1591, o_1591 P) :: (nat_lit 1592, o_1592 P) :: (nat_lit 1594, o_1594 P) :: (nat_lit 1595, o_1595 P) :: (nat_lit 1597, o_1597 P) :: (nat_lit 1598, o_1598 P) :: (nat_lit 1599, o_1599 P) :: (nat_lit 1600, o_1600 P) :: (nat_lit 1601, o_1601 P) :: (nat_lit 1602, o_1602 P) :: (nat_lit 1603, o_1603 P) :: (nat_lit 1606, o_1606 P) :: (nat_lit 1607, o_1607 P) :: (nat_lit 1608, o_1608 P) :: (nat_lit 1610, o_1610 P) :: (nat_lit 1611, o_1611 P) :: (nat_lit 1613, o_1613 P) :: (nat_lit 1614, o_1614 P) :: (nat_lit 1615, o_1615 P) :: (nat_lit 1617, o_1617 P) :: (nat_lit 1618, o_1618 P) :: (nat_lit 1620, o_1620 P) :: (nat_lit 1621, o_1621 P) :: (nat_lit 1629, o_1629 P) :: (nat_lit 1630, o_1630 P) :: (nat_lit 1632, o_1632 P) :: (nat_lit 1633, o_1633 P) :: (nat_lit 1635, o_1635 P) :: (nat_lit 1636, o_1636 P) :: (nat_lit 1637, o_1637 P) :: (nat_lit 1639, o_1639 P) :: (nat_lit 1640, o_1640 P) :: (nat_lit 1642, o_1642 P) :: (nat_lit 1643, o_1643 P) :: (nat_lit 1644, o_1644 P) :: (nat_lit 1646, o_1646 P) :: (nat_lit 1647, o_1647 P) :: (nat_lit 1649, o_1649 P) :: (nat_lit 1650, o_1650 P) :: (nat_lit 1651, o_1651 P) :: (nat_lit 1653, o_1653 P) :: (nat_lit 1654, o_1654 P) :: (nat_lit 1656, o_1656 P) :: (nat_lit 1657, o_1657 P) :: (nat_lit 1658, o_1658 P) :: (nat_lit 1659, o_1659 P) :: (nat_lit 1660, o_1660 P) :: (nat_lit 1661, o_1661 P) :: (nat_lit 1662, o_1662 P) :: (nat_lit 1672, o_1672 P) :: (nat_lit 1673, o_1673 P) :: (nat_lit 1675, o_1675 P) :: (nat_lit 1676, o_1676 P) :: (nat_lit 1678, o_1678 P) :: (nat_lit 1679, o_1679 P) :: (nat_lit 1680, o_1680 P) :: (nat_lit 1682, o_1682 P) :: (nat_lit 1683, o_1683 P) :: (nat_lit 1685, o_1685 P) :: (nat_lit 1686, o_1686 P) :: (nat_lit 1687, o_1687 P) :: (nat_lit 1689, o_1689 P) :: (nat_lit 1690, o_1690 P) :: (nat_lit 1692, o_1692 P) :: (nat_lit 1693, o_1693 P) :: (nat_lit 1694, o_1694 P) :: (nat_lit 1695, o_1695 P) :: (nat_lit 1696, o_1696 P) :: (nat_lit 1697, o_1697 P) :: (nat_lit 1698, o_1698 P) :: (nat_lit 1701, o_1701 P) :: (nat_lit 1703, o_1703 P) :: (nat_lit 1704, o_1704 P) :: (nat_lit 1706, o_1706 P) :: (nat_lit 1707, o_1707 P) :: (nat_lit 1708, o_1708 P) :: (nat_lit 1710, o_1710 P) :: (nat_lit 1711, o_1711 P) :: (nat_lit 1713, o_1713 P) :: (nat_lit 1714, o_1714 P) :: (nat_lit 1715, o_1715 P) :: (nat_lit 1716, o_1716 P) :: (nat_lit 1718, o_1718 P) :: (nat_lit 1719, o_1719 P) :: (nat_lit 1721, o_1721 P) :: (nat_lit 1722, o_1722 P) :: (nat_lit 1723, o_1723 P) :: (nat_lit 1725, o_1725 P) :: (nat_lit 1726, o_1726 P) :: (nat_lit 1728, o_1728 P) :: (nat_lit 1729, o_1729 P) :: (nat_lit 1730, o_1730 P) :: (nat_lit 1732, o_1732 P) :: (nat_lit 1733, o_1733 P) :: (nat_lit 1735, o_1735 P) :: (nat_lit 1736, o_1736 P) :: (nat_lit 1737, o_1737 P) :: (nat_lit 1739, o_1739 P) :: (nat_lit 1740, o_1740 P) :: (nat_lit 1742, o_1742 P) :: (nat_lit 1743, o_1743 P) :: (nat_lit 1744, o_1744 P) :: (nat_lit 1746, o_1746 P) :: (nat_lit 1747, o_1747 P) :: (nat_lit 1749, o_1749 P) :: (nat_lit 1750, o_1750 P) :: (nat_lit 1751, o_1751 P) :: (nat_lit 1752, o_1752 P) :: (nat_lit 1754, o_1754 P) :: (nat_lit 1755, o_1755 P) :: (nat_lit 1757, o_1757 P) :: (nat_lit 1758, o_1758 P) :: (nat_lit 1759, o_1759 P) :: (nat_lit 1762, o_1762 P) :: (nat_lit 1763, o_1763 P) :: (nat_lit 1764, o_1764 P) :: (nat_lit 1766, o_1766 P) :: (nat_lit 1767, o_1767 P) :: (nat_lit 1769, o_1769 P) :: (nat_lit 1770, o_1770 P) :: (nat_lit 1771, o_1771 P) :: (nat_lit 1773, o_1773 P) :: (nat_lit 1774, o_1774 P) :: (nat_lit 1776, o_1776 P) :: (nat_lit 1777, o_1777 P) :: (nat_lit 1778, o_1778 P) :: (nat_lit 1781, o_1781 P) :: (nat_lit 1782, o_1782 P) :: (nat_lit 1783, o_1783 P) :: (nat_lit 1786, o_1786 P) :: (nat_lit 1787, o_1787 P) :: (nat_lit 1788, o_1788 P) :: (nat_lit 1791, o_1791 P) :: (nat_lit 1792, o_1792 P) :: (nat_lit 1793, o_1793 P) :: (nat_lit 1795, o_1795 P) :: (nat_lit 1796, o_1796 P) :: (nat_lit 1798, o_1798 P) :: (nat_lit 1799, o_1799 P) :: (nat_lit 1800, o_1800 P) :: (nat_lit 1802, o_1802 P) :: (nat_lit 1803, o_1803 P) :: (nat_lit 1805, o_1805 P) :: (nat_lit 1806, o_1806 P) :: (nat_lit 1807, o_1807 P) :: (nat_lit 1809, o_1809 P) :: (nat_lit 1810, o_1810 P) :: (nat_lit 1812, o_1812 P) :: (nat_lit 1813, o_1813 P) :: (nat_lit 1814, o_1814 P) :: (nat_lit 1816, o_1816 P) :: (nat_lit 1817, o_1817 P) :: (nat_lit 1819, o_1819 P) :: (nat_lit 1820, o_1820 P) :: []
noncomputable def KA : List Addr := nat_lit 2 :: nat_lit 3 :: nat_lit 15 :: nat_lit 17 :: nat_lit 18 :: nat_lit 20 :: nat_lit 21 :: nat_lit 22 :: nat_lit 29 :: nat_lit 30 :: nat_lit 31 :: nat_lit 32 :: nat_lit 35 :: nat_lit 38 :: nat_lit 43 :: nat_lit 44 :: nat_lit 46 :: nat_lit 47 :: nat_lit 49 :: nat_lit 50 :: nat_lit 51 :: nat_lit 52 :: nat_lit 53 :: nat_lit 56 :: nat_lit 59 :: nat_lit 64 :: nat_lit 65 :: nat_lit 67 :: nat_lit 68 :: nat_lit 70 :: nat_lit 71 :: nat_lit 72 :: nat_lit 73 :: nat_lit 74 :: nat_lit 77 :: nat_lit 80 :: nat_lit 85 :: nat_lit 86 :: nat_lit 88 :: nat_lit 89 :: nat_lit 91 :: nat_lit 92 :: nat_lit 93 :: nat_lit 94 :: nat_lit 95 :: nat_lit 98 :: nat_lit 101 :: nat_lit 106 :: nat_lit 107 :: nat_lit 108 :: nat_lit 110 :: nat_lit 111 :: nat_lit 113 :: nat_lit 114 :: nat_lit 115 :: nat_lit 116 :: nat_lit 117 :: nat_lit 120 :: nat_lit 123 :: nat_lit 128 :: nat_lit 129 :: nat_lit 131 :: nat_lit 132 :: nat_lit 134 :: nat_lit 135 :: nat_lit 136 :: nat_lit 137 :: nat_lit 138 :: nat_lit 141 :: nat_lit 144 :: nat_lit 149 :: nat_lit 150 :: nat_lit 151 :: nat_lit 153 :: nat_lit 154 :: nat_lit 156 :: nat_lit 157 :: nat_lit 158 :: nat_lit 159 :: nat_lit 160 :: nat_lit 1450 :: nat_lit 1451 :: nat_lit 1453 :: nat_lit 1454 :: nat_lit 1456 :: nat_lit 1457 :: nat_lit 1458 :: nat_lit 1460 :: nat_lit 1461 :: nat_lit 1463 :: nat_lit 1464 :: nat_lit 1465 :: nat_lit 1467 :: nat_lit 1468 :: nat_lit 1470 :: nat_lit 1471 :: nat_lit 1479 :: nat_lit 1480 :: nat_lit 1482 :: nat_lit 1483 :: nat_lit 1485 :: nat_lit 1486 :: nat_lit 1487 :: nat_lit 1489 :: nat_lit 1490 :: nat_lit 1492 :: nat_lit 1493 :: nat_lit 1494 :: nat_lit 1496 :: nat_lit 1497 :: nat_lit 1499 :: nat_lit 1500 :: nat_lit 1501 :: nat_lit 1502 :: nat_lit 1503 :: nat_lit 1504 :: nat_lit 1505 :: nat_lit 1508 :: nat_lit 1509 :: nat_lit 1518 :: nat_lit 1519 :: nat_lit 1521 :: nat_lit 1522 :: nat_lit 1524 :: nat_lit 1525 :: nat_lit 1526 :: nat_lit 1527 :: nat_lit 1529 :: nat_lit 1530 :: nat_lit 1532 :: nat_lit 1533 :: nat_lit 1534 :: nat_lit 1535 :: nat_lit 1536 :: nat_lit 1537 :: nat_lit 1539 :: nat_lit 1540 :: nat_lit 1542 :: nat_lit 1543 :: nat_lit 1544 :: nat_lit 1545 :: nat_lit 1546 :: nat_lit 1547 :: nat_lit 1549 :: nat_lit 1550 :: nat_lit 1552 :: nat_lit 1553 :: nat_lit 1554 :: nat_lit 1556 :: nat_lit 1557 :: nat_lit 1559 :: nat_lit 1560 :: nat_lit 1561 :: nat_lit 1563 :: nat_lit 1564 :: nat_lit 1566 :: nat_lit 1567 :: nat_lit 1568 :: nat_lit 1569 :: nat_lit 1570 :: nat_lit 1571 :: nat_lit 1572 :: nat_lit 1575 :: nat_lit 1576 :: nat_lit 1585 :: nat_lit 1587 :: nat_lit 1588 :: nat_lit 1590 :: nat_lit 1591 :: nat_lit 1592 :: nat_lit 1594 :: nat_lit 1595 :: nat_lit 1597 :: nat_lit 1598 :: nat_lit 1599 :: nat_lit 1600 :: nat_lit 1601 :: nat_lit 1602 :: nat_lit 1603 :: nat_lit 1606 :: nat_lit 1607 :: nat_lit 1608 :: nat_lit 1610 :: nat_lit 1611 :: nat_lit 1613 :: nat_lit 1614 :: nat_lit 1615 :: nat_lit 1617 :: nat_lit 1618 :: nat_lit 1620 :: nat_lit 1621 :: nat_lit 1629 :: nat_lit 1630 :: nat_lit 1632 :: nat_lit 1633 :: nat_lit 1635 :: nat_lit 1636 :: nat_lit 1637 :: nat_lit 1639 :: nat_lit 1640 :: nat_lit 1642 :: nat_lit 1643 :: nat_lit 1644 :: nat_lit 1646 :: nat_lit 1647 :: nat_lit 1649 :: nat_lit 1650 :: nat_lit 1651 :: nat_lit 1653 :: nat_lit 1654 :: nat_lit 1656 :: nat_lit 1657 :: nat_lit 1658 :: nat_lit 1659 :: nat_lit 1660 :: nat_lit 1661 :: nat_lit 1662 :: nat_lit 1672 :: nat_lit 1673 :: nat_lit 1675 :: nat_lit 1676 :: nat_lit 1678 :: nat_lit 1679 :: nat_lit 1680 :: nat_lit 1682 :: nat_lit 1683 :: nat_lit 1685 :: nat_lit 1686 :: nat_lit 1687 :: nat_lit 1689 :: nat_lit 1690 :: nat_lit 1692 :: nat_lit 1693 :: nat_lit 1694 :: nat_lit 1695 :: nat_lit 1696 :: nat_lit 1697 :: nat_lit 1698 :: nat_lit 1701 :: nat_lit 1703 :: nat_lit 1704 :: nat_lit 1706 :: nat_lit 1707 :: nat_lit 1708 :: nat_lit 1710 :: nat_lit 1711 :: nat_lit 1713 :: nat_lit 1714 :: nat_lit 1715 :: nat_lit 1716 :: nat_lit 1718 :: nat_lit 1719 :: nat_lit 1721 :: nat_lit 1722 :: nat_lit 1723 :: nat_lit 1725 :: nat_lit 1726 :: nat_lit 1728 :: nat_lit 1729 :: nat_lit 1730 :: nat_lit 1732 :: nat_lit 1733 :: nat_lit 1735 :: nat_lit 1736 :: nat_lit 1737 :: nat_lit 1739 :: nat_lit 1740 :: nat_lit 1742 :: nat_lit 1743 :: nat_lit 1744 :: nat_lit 1746 :: nat_lit 1747 :: nat_lit 1749 :: nat_lit 1750 :: nat_lit 1751 :: nat_lit 1752 :: nat_lit 1754 :: nat_lit 1755 :: nat_lit 1757 :: nat_lit 1758 :: nat_lit 1759 :: nat_lit 1762 :: nat_lit 1763 :: nat_lit 1764 :: nat_lit 1766 :: nat_lit 1767 :: nat_lit 1769 :: nat_lit 1770 :: nat_lit 1771 :: nat_lit 1773 :: nat_lit 1774 :: nat_lit 1776 :: nat_lit 1777 :: nat_lit 1778 :: nat_lit 1781 :: nat_lit 1782 :: nat_lit 1783 :: nat_lit 1786 :: nat_lit 1787 :: nat_lit 1788 :: nat_lit 1791 :: nat_lit 1792 :: nat_lit 1793 :: nat_lit 1795 :: nat_lit 1796 :: nat_lit 1798 :: nat_lit 1799 :: nat_lit 1800 :: nat_lit 1802 :: nat_lit 1803 :: nat_lit 1805 :: nat_lit 1806 :: nat_lit 1807 :: nat_lit 1809 :: nat_lit 1810 :: nat_lit 1812 :: nat_lit 1813 :: nat_lit 1814 :: nat_lit 1816 :: nat_lit 1817 :: nat_lit 1819 :: nat_lit 1820 :: []
theorem KA_eq (P : Params) : KA = (KK P).map (·.1) := by kernel_rfl
end Rl
end
section
open PySem PySem.W PyProof.Rows
namespace Hd
abbrev pw := PySem.Challenge.pw_it0028_04
noncomputable abbrev tbQ := Fast.tw14364793385576792824
noncomputable abbrev denQ := Fast.tw11892475500146522536 tbQ
noncomputable abbrev goQ := Fast.tw10295753902157049106 tbQ pw
theorem goQ_eq : segGoT treeTable pw = goQ := by
  show segGoT treeTable pw = Fast.tw10295753902157049106 Fast.tw14364793385576792824 pw
  rw [← Fast.te10295753902157049106, ← Fast.te14364793385576792824]
theorem denQ_eq : denote treeTable = denQ := by
  show denote treeTable = Fast.tw11892475500146522536 Fast.tw14364793385576792824
  rw [← Fast.te11892475500146522536, ← Fast.te14364793385576792824]
noncomputable def st10 : Stmt := (pw.main.body[10]?).getD (.Pass default)
noncomputable def compOf : Stmt → PySem.Expr
  | .Assign _ (.Call _ (e :: _) _ _) _ => e
  | _ => default
noncomputable def scopeOf : PySem.Expr → Scope
  | .ListComp _ _ s _ => s
  | _ => default
noncomputable def env1 : Env := { scope := scopeOf (compOf st10), locals := 166, globals := mainNs, cells := [], code := .ref 13, frame := some 14 }
noncomputable def cLoop : Code := .compLoop (compOf st10) 0 (.ref 164) (.ref 165) env1
noncomputable def cStart : Code := .compStart (compOf st10) 0 (.ref 164) (.ref 165) env1
noncomputable def T0 (pos : Pos) (k : Result → Sem Fin) (c : Code) (p q : Pos) : Thread := ⟨denQ cStart, cStart, pos, [.ret k none true [.ref 166, .ref 165] c p [], topFrame q]⟩
noncomputable def T (pos : Pos) (k : Result → Sem Fin) (c : Code) (p q : Pos) : Thread := ⟨denQ cLoop, cLoop, pos, [.ret k none true [.ref 166, .ref 165] c p [], topFrame q]⟩
noncomputable def garb (j : Nat) : Nat → Obj
  | 0 => { cls := .type "list", data := .seq #[.int j (395 + 3 * j)] }
  | 1 => { cls := .type "list_iterator", data := .fields #[.none, .int 1 0] }
  | 2 => { cls := .type "bytearray", data := .bytearray #[UInt8.ofNat j] }
  | 3 => { cls := .type "tuple", data := .seq #[] }
  | _ => { cls := .type "StopIteration", data := .fields #[.ref (170 + 5 * j), .none, .none, .none, .bool false, .none] }
noncomputable def rng : Obj := { cls := .type "range", data := .fields #[.int 0 393, .int 256 392, .int 1 394] }
noncomputable def iter (i : Nat) : Obj := { cls := .type "range_iterator", data := .fields #[.int i 0, .int (256 - i : Nat) 0, .int 1 0] }
noncomputable def acc (i : Nat) : Obj := { cls := .type "list", data := .seq (Rl.bytesTo i).toArray i }
noncomputable def loc (P : Params) : Nat → Obj
  | 0 => { cls := .type "dict", data := .dict #[] }
  | i + 1 => { cls := .type "dict", data := .dict #[{ hash := PyData.keyHash P (Str.ofString "i"), key := .str (Str.ofString "i") 396, val := .int i (395 + 3 * i) }] 1 }
noncomputable def val (b : Nat → Obj) (a : Nat) : Obj := match Nat.ble 167 a with
  | true => garb ((a - 167) / 5) ((a - 167) % 5)
  | false => match Nat.beq a 163 with
    | true => rng
    | false => b a
noncomputable def mk (v : Nat → Obj) : Nat → Nat → Nat → BT
  | 0, _, _ => .nil
  | f + 1, a, d => .node (v d) (mk v f (2 * a) (a + d)) (mk v f (2 * a) (2 * a + d))
noncomputable def tree (P : Params) (b : Nat → Obj) (i : Nat) : BT := (((mk (val b) 11 1 0).set 164 (fun _ => iter i)).set 165 (fun _ => acc i)).set 166 (fun _ => loc P i)
noncomputable def S (P : Params) (b : Nat → Obj) (i : Nat) (os : OsState) : SharedT := ⟨tree P b i, 167 + 5 * i, {}, #[], {}, 395 + 3 * i, os⟩
noncomputable def o3 (P : Params) : Obj := { cls := .type "dict", data := .dict #[
  Rl.kE P "__name__" 165 (.str (Str.ofString "rlp.utils") 390), Rl.kE P "__doc__" 166 .none, Rl.kE P "__package__" 167 .none, Rl.kE P "__loader__" 168 (.builtin "__main__.__loader__#opaque"), Rl.kE P "__spec__" 169 .none,
  Rl.kE P "__annotations__" 170 (.ref 6), Rl.kE P "__builtins__" 171 (.ref 4), Rl.kE P "__file__" 173 (.str (Str.ofString "/claim/cut.py") 172), Rl.kE P "__cached__" 174 .none, Rl.kE P "_wall" 193 (.ref 21), Rl.kE P "RLPException" 215 (.ref 31),
  Rl.kE P "EncodingError" 243 (.ref 53), Rl.kE P "DecodingError" 271 (.ref 74), Rl.kE P "SerializationError" 299 (.ref 95), Rl.kE P "ListSerializationError" 330 (.ref 117), Rl.kE P "DeserializationError" 358 (.ref 138), Rl.kE P "ListDeserializationError" 389 (.ref 160)] 17 }
noncomputable def bb (P : Params) (b : Nat → Obj) (a : Nat) : Obj := match a with
  | 0 => boot_o_0 P
  | 3 => o3 P
  | a => b a
noncomputable def boots (P : Params) : Nat → Obj
  | 0 => boot_o_0 P | 1 => boot_o_1 P | 2 => boot_o_2 P | 3 => boot_o_3 P | 4 => boot_o_4 P | 5 => boot_o_5 P | 6 => boot_o_6 P | 7 => boot_o_7 P | 8 => boot_o_8 P | 9 => boot_o_9 P | 10 => boot_o_10 P
  | _ => default
noncomputable def SB (P : Params) (os : OsState) : SharedT := ⟨mk (boots P) 11 1 0, 11, {}, #[], boot_drawn, boot_toks, os⟩
noncomputable def R1 (w : World) (os : OsState) : Option (SharedT × Thread) := goQ w 11 (some (.ref 6)) 1000 1906 (SB w.params os) (topStub pw)
noncomputable def thOf (r : Option (SharedT × Thread)) : Thread := match r with | some (_, t) => t | none => ⟨.pure (.done .next), .builtin "" {}, default, []⟩
noncomputable def shOf (r : Option (SharedT × Thread)) : SharedT := match r with | some (s, _) => s | none => ⟨.nil, 0, {}, #[], {}, 0, default⟩
noncomputable def kOf (t : Thread) : Result → Sem Fin := match t.stack with | .ret k _ _ _ _ _ _ :: _ => k | _ => fun _ => .pure (.done .next)
noncomputable def cOf (t : Thread) : Code := match t.stack with | .ret _ _ _ _ c _ _ :: _ => c | _ => .builtin "" {}
noncomputable def pOf (t : Thread) : Pos := match t.stack with | .ret _ _ _ _ _ p _ :: _ => p | _ => default
noncomputable def RF (w : World) (os : OsState) : Option (SharedT × Thread) := R1 (w.withFollow "special-get-raises" false) os
noncomputable def bOf (w : World) (os : OsState) (a : Nat) : Obj := ((shOf (RF w os)).tree.get a).getD default
noncomputable def kW (w : World) (os : OsState) : Result → Sem Fin := kOf (thOf (RF w os))
noncomputable def cW (w : World) (os : OsState) : Code := cOf (thOf (RF w os))
noncomputable def pW (w : World) (os : OsState) : Pos := pOf (thOf (RF w os))
abbrev Q1 (w v : World) (os : OsState) : Prop := (R1 v os, (shOf (R1 v os)).tree.list 167) =
      (some (⟨(shOf (R1 v os)).tree, 167, {}, #[], {}, 395, os⟩, T0 ⟨48, 39, 48, 49⟩ (kW w os) (cW w os) (pW w os) default),
       (tree w.params (bb w.params (bOf w os)) 0).list 167)
theorem q1f (w : World) (os : OsState) : Q1 w (w.withFollow "special-get-raises" false) os := by kernel_rfl
theorem q1t (w : World) (os : OsState) : Q1 w (w.withFollow "special-get-raises" true) os := by kernel_rfl
theorem q1 (w : World) (os : OsState) : Q1 w w os := by
  have h : ∀ b, Q1 w (w.withFollow "special-get-raises" b) os := fun b => by cases b; exact q1f w os; exact q1t w os
  have := h (w.params.followText "special-get-raises")
  rwa [World.withFollow_self] at this
section
variable (w : World) (b : Nat → Obj) (os : OsState) (pos : Pos) (k : Result → Sem Fin) (c : Code) (p q : Pos)
abbrev St1 (v : World) (n : Nat) : Prop := goQ v 11 (some (.ref 6)) 1000 n (S w.params (bb w.params b) 0 os) (T0 pos k c p q) = some (S w.params (bb w.params b) 0 os, T ⟨48, 39, 48, 49⟩ k c p q)
theorem st1ff : St1 w b os ⟨48, 39, 48, 49⟩ k c p q ((w.withFollow "comprehension-iter-twice" false).withFollow "special-get-raises" false) 12 := by kernel_rfl
theorem st1ft : St1 w b os ⟨48, 39, 48, 49⟩ k c p q ((w.withFollow "comprehension-iter-twice" false).withFollow "special-get-raises" true) 12 := by kernel_rfl
theorem st1t : St1 w b os ⟨48, 39, 48, 49⟩ k c p q (w.withFollow "comprehension-iter-twice" true) 2 := by kernel_rfl
theorem st1f : St1 w b os ⟨48, 39, 48, 49⟩ k c p q (w.withFollow "comprehension-iter-twice" false) 12 := by
  have h : ∀ x, St1 w b os ⟨48, 39, 48, 49⟩ k c p q ((w.withFollow "comprehension-iter-twice" false).withFollow "special-get-raises" x) 12 := fun x => by
    cases x; exact st1ff w b os k c p q; exact st1ft w b os k c p q
  have := h ((w.withFollow "comprehension-iter-twice" false).params.followText "special-get-raises")
  rwa [World.withFollow_self] at this
theorem st1 : ∃ n, n ≤ 12 ∧ St1 w b os ⟨48, 39, 48, 49⟩ k c p q w n := by
  have h : ∀ x, ∃ n, n ≤ 12 ∧ St1 w b os ⟨48, 39, 48, 49⟩ k c p q (w.withFollow "comprehension-iter-twice" x) n := fun x => by
    cases x
    · exact ⟨12, by omega, st1f w b os k c p q⟩
    · exact ⟨2, by omega, st1t w b os k c p q⟩
  have := h (w.params.followText "comprehension-iter-twice")
  rwa [World.withFollow_self] at this
abbrev Ch (v : World) (i m : Nat) : Prop := goQ v 11 (some (.ref 6)) 1000 (97 * m) (S w.params (bb w.params b) i os) (T pos k c p q) = some (S w.params (bb w.params b) (i + m) os, T ⟨48, 19, 48, 29⟩ k c p q)
theorem c0f : Ch w b os pos k c p q (w.withFollow "special-get-raises" false) 0 16 := by kernel_rfl
theorem c0t : Ch w b os pos k c p q (w.withFollow "special-get-raises" true) 0 16 := by kernel_rfl
theorem c0 : Ch w b os pos k c p q w 0 16 := by
  have h : ∀ x, Ch w b os pos k c p q (w.withFollow "special-get-raises" x) 0 16 := fun x => by cases x; exact c0f w b os pos k c p q; exact c0t w b os pos k c p q
  have := h (w.params.followText "special-get-raises")
  rwa [World.withFollow_self] at this
theorem c16f : Ch w b os pos k c p q (w.withFollow "special-get-raises" false) 16 16 := by kernel_rfl
theorem c16t : Ch w b os pos k c p q (w.withFollow "special-get-raises" true) 16 16 := by kernel_rfl
theorem c16 : Ch w b os pos k c p q w 16 16 := by
  have h : ∀ x, Ch w b os pos k c p q (w.withFollow "special-get-raises" x) 16 16 := fun x => by cases x; exact c16f w b os pos k c p q; exact c16t w b os pos k c p q
  have := h (w.params.followText "special-get-raises")
  rwa [World.withFollow_self] at this
theorem c32f : Ch w b os pos k c p q (w.withFollow "special-get-raises" false) 32 16 := by kernel_rfl
theorem c32t : Ch w b os pos k c p q (w.withFollow "special-get-raises" true) 32 16 := by kernel_rfl
theorem c32 : Ch w b os pos k c p q w 32 16 := by
  have h : ∀ x, Ch w b os pos k c p q (w.withFollow "special-get-raises" x) 32 16 := fun x => by cases x; exact c32f w b os pos k c p q; exact c32t w b os pos k c p q
  have := h (w.params.followText "special-get-raises")
  rwa [World.withFollow_self] at this
theorem c48f : Ch w b os pos k c p q (w.withFollow "special-get-raises" false) 48 16 := by kernel_rfl
theorem c48t : Ch w b os pos k c p q (w.withFollow "special-get-raises" true) 48 16 := by kernel_rfl
theorem c48 : Ch w b os pos k c p q w 48 16 := by
  have h : ∀ x, Ch w b os pos k c p q (w.withFollow "special-get-raises" x) 48 16 := fun x => by cases x; exact c48f w b os pos k c p q; exact c48t w b os pos k c p q
  have := h (w.params.followText "special-get-raises")
  rwa [World.withFollow_self] at this
theorem c64f : Ch w b os pos k c p q (w.withFollow "special-get-raises" false) 64 16 := by kernel_rfl
theorem c64t : Ch w b os pos k c p q (w.withFollow "special-get-raises" true) 64 16 := by kernel_rfl
theorem c64 : Ch w b os pos k c p q w 64 16 := by
  have h : ∀ x, Ch w b os pos k c p q (w.withFollow "special-get-raises" x) 64 16 := fun x => by cases x; exact c64f w b os pos k c p q; exact c64t w b os pos k c p q
  have := h (w.params.followText "special-get-raises")
  rwa [World.withFollow_self] at this
theorem c80f : Ch w b os pos k c p q (w.withFollow "special-get-raises" false) 80 16 := by kernel_rfl
theorem c80t : Ch w b os pos k c p q (w.withFollow "special-get-raises" true) 80 16 := by kernel_rfl
theorem c80 : Ch w b os pos k c p q w 80 16 := by
  have h : ∀ x, Ch w b os pos k c p q (w.withFollow "special-get-raises" x) 80 16 := fun x => by cases x; exact c80f w b os pos k c p q; exact c80t w b os pos k c p q
  have := h (w.params.followText "special-get-raises")
  rwa [World.withFollow_self] at this
theorem c96f : Ch w b os pos k c p q (w.withFollow "special-get-raises" false) 96 16 := by kernel_rfl
theorem c96t : Ch w b os pos k c p q (w.withFollow "special-get-raises" true) 96 16 := by kernel_rfl
theorem c96 : Ch w b os pos k c p q w 96 16 := by
  have h : ∀ x, Ch w b os pos k c p q (w.withFollow "special-get-raises" x) 96 16 := fun x => by cases x; exact c96f w b os pos k c p q; exact c96t w b os pos k c p q
  have := h (w.params.followText "special-get-raises")
  rwa [World.withFollow_self] at this
theorem c112f : Ch w b os pos k c p q (w.withFollow "special-get-raises" false) 112 16 := by kernel_rfl
theorem c112t : Ch w b os pos k c p q (w.withFollow "special-get-raises" true) 112 16 := by kernel_rfl
theorem c112 : Ch w b os pos k c p q w 112 16 := by
  have h : ∀ x, Ch w b os pos k c p q (w.withFollow "special-get-raises" x) 112 16 := fun x => by cases x; exact c112f w b os pos k c p q; exact c112t w b os pos k c p q
  have := h (w.params.followText "special-get-raises")
  rwa [World.withFollow_self] at this
theorem c128f : Ch w b os pos k c p q (w.withFollow "special-get-raises" false) 128 16 := by kernel_rfl
theorem c128t : Ch w b os pos k c p q (w.withFollow "special-get-raises" true) 128 16 := by kernel_rfl
theorem c128 : Ch w b os pos k c p q w 128 16 := by
  have h : ∀ x, Ch w b os pos k c p q (w.withFollow "special-get-raises" x) 128 16 := fun x => by cases x; exact c128f w b os pos k c p q; exact c128t w b os pos k c p q
  have := h (w.params.followText "special-get-raises")
  rwa [World.withFollow_self] at this
theorem c144f : Ch w b os pos k c p q (w.withFollow "special-get-raises" false) 144 16 := by kernel_rfl
theorem c144t : Ch w b os pos k c p q (w.withFollow "special-get-raises" true) 144 16 := by kernel_rfl
theorem c144 : Ch w b os pos k c p q w 144 16 := by
  have h : ∀ x, Ch w b os pos k c p q (w.withFollow "special-get-raises" x) 144 16 := fun x => by cases x; exact c144f w b os pos k c p q; exact c144t w b os pos k c p q
  have := h (w.params.followText "special-get-raises")
  rwa [World.withFollow_self] at this
theorem c160f : Ch w b os pos k c p q (w.withFollow "special-get-raises" false) 160 16 := by kernel_rfl
theorem c160t : Ch w b os pos k c p q (w.withFollow "special-get-raises" true) 160 16 := by kernel_rfl
theorem c160 : Ch w b os pos k c p q w 160 16 := by
  have h : ∀ x, Ch w b os pos k c p q (w.withFollow "special-get-raises" x) 160 16 := fun x => by cases x; exact c160f w b os pos k c p q; exact c160t w b os pos k c p q
  have := h (w.params.followText "special-get-raises")
  rwa [World.withFollow_self] at this
theorem c176f : Ch w b os pos k c p q (w.withFollow "special-get-raises" false) 176 16 := by kernel_rfl
theorem c176t : Ch w b os pos k c p q (w.withFollow "special-get-raises" true) 176 16 := by kernel_rfl
theorem c176 : Ch w b os pos k c p q w 176 16 := by
  have h : ∀ x, Ch w b os pos k c p q (w.withFollow "special-get-raises" x) 176 16 := fun x => by cases x; exact c176f w b os pos k c p q; exact c176t w b os pos k c p q
  have := h (w.params.followText "special-get-raises")
  rwa [World.withFollow_self] at this
theorem c192f : Ch w b os pos k c p q (w.withFollow "special-get-raises" false) 192 16 := by kernel_rfl
theorem c192t : Ch w b os pos k c p q (w.withFollow "special-get-raises" true) 192 16 := by kernel_rfl
theorem c192 : Ch w b os pos k c p q w 192 16 := by
  have h : ∀ x, Ch w b os pos k c p q (w.withFollow "special-get-raises" x) 192 16 := fun x => by cases x; exact c192f w b os pos k c p q; exact c192t w b os pos k c p q
  have := h (w.params.followText "special-get-raises")
  rwa [World.withFollow_self] at this
theorem c208f : Ch w b os pos k c p q (w.withFollow "special-get-raises" false) 208 16 := by kernel_rfl
theorem c208t : Ch w b os pos k c p q (w.withFollow "special-get-raises" true) 208 16 := by kernel_rfl
theorem c208 : Ch w b os pos k c p q w 208 16 := by
  have h : ∀ x, Ch w b os pos k c p q (w.withFollow "special-get-raises" x) 208 16 := fun x => by cases x; exact c208f w b os pos k c p q; exact c208t w b os pos k c p q
  have := h (w.params.followText "special-get-raises")
  rwa [World.withFollow_self] at this
theorem c224f : Ch w b os pos k c p q (w.withFollow "special-get-raises" false) 224 16 := by kernel_rfl
theorem c224t : Ch w b os pos k c p q (w.withFollow "special-get-raises" true) 224 16 := by kernel_rfl
theorem c224 : Ch w b os pos k c p q w 224 16 := by
  have h : ∀ x, Ch w b os pos k c p q (w.withFollow "special-get-raises" x) 224 16 := fun x => by cases x; exact c224f w b os pos k c p q; exact c224t w b os pos k c p q
  have := h (w.params.followText "special-get-raises")
  rwa [World.withFollow_self] at this
theorem c240f : Ch w b os pos k c p q (w.withFollow "special-get-raises" false) 240 16 := by kernel_rfl
theorem c240t : Ch w b os pos k c p q (w.withFollow "special-get-raises" true) 240 16 := by kernel_rfl
theorem c240 : Ch w b os pos k c p q w 240 16 := by
  have h : ∀ x, Ch w b os pos k c p q (w.withFollow "special-get-raises" x) 240 16 := fun x => by cases x; exact c240f w b os pos k c p q; exact c240t w b os pos k c p q
  have := h (w.params.followText "special-get-raises")
  rwa [World.withFollow_self] at this
end
end Hd
end
section
open PySem PySem.W PyProof.Rows
namespace Hd
abbrev rw1 := PySem.Challenge.rw_it0028_04
noncomputable def R2 (w : World) (os : OsState) : Option (SharedT × Thread) := Fast.tw10295753902157049106 tbQ pw w 11 (some (.ref 6)) 1000 3007 (S w.params (bb w.params (bOf w os)) 256 os) (T ⟨48, 19, 48, 29⟩ (kW w os) (cW w os) (pW w os) default)
noncomputable def SE (w : World) (os : OsState) : SharedT := shOf (R2 w os)
noncomputable def q01 : Program := { pw with main := { pw.main with body := ([0, 2, 3, 4, 5, 6, 7, 8, 10, 11, 12, 13, 15, 16, 18, 19, 21, 22, 24, 25, 26, 27, 29, 30, 32, 33, 34, 35, 36, 37, 39, 41, 42, 43, 44, 45, 46, 47, 48, 49] : List Nat).map Rl.tS } }
noncomputable def loose01 : List PySem.Str := [Str.ofString "ListSerializationError", Str.ofString "ListDeserializationError", Str.ofString "ALL_BYTES", Str.ofString "big_endian_int", Str.ofString "Binary", Str.ofString "binary", Str.ofString "boolean", Str.ofString "encode", Str.ofString "LONG_LENGTH", Str.ofString "SHORT_STRING", Str.ofString "decode"]
noncomputable abbrev openSeenQ := @Fast.tw4187177175401517315
noncomputable def tabs01 : List Addr := [16, 45, 66, 87, 109, 130, 152, 1452, 1459, 1466, 1481, 1488, 1495, 1520, 1528, 1538, 1548, 1555, 1562, 1586, 1593, 1609, 1616, 1631, 1638, 1645, 1652, 1674, 1681, 1688, 1702, 1709, 1717, 1724, 1731, 1738, 1745, 1753, 1760, 1765, 1772, 1779, 1784, 1789, 1794, 1801, 1808, 1815]
theorem r2 (w : World) (os : OsState) : (R2 w os, through (thOf (R2 w os)), Rl.KA.map (fun a => (SE w os).tree.get a), tabs01.map (fun a => (SE w os).tree.get a), (List.range 11).map (fun a => match (Rl.KK w.params).lookup a with | some o => some o | none => (SE w os).tree.get a)) =
    (some (⟨(SE w os).tree, 1821, {}, #[], {}, 1728, os⟩, thOf (R2 w os)), true, (Rl.KK w.params).map (fun p => some p.2), tabs01.map (fun _ => some { cls := .none, data := .fields #[] }), (List.range 11).map (fun a => match (Rl.KK w.params).lookup a with | some o => some o | none => some (boots w.params a))) := by kernel_rfl
noncomputable def vK (P : Params) (x : Nat → Obj) (a : Nat) : Obj := match (Rl.KK P).lookup a with
  | some o => o
  | none => match Nat.blt a 11 with
    | true => boots P a
    | false => match tabs01.any (Nat.beq a) with
      | true => { cls := .none, data := .fields #[] }
      | false => x a
noncomputable def HX (P : Params) (x : Nat → Obj) : Heap := ⟨((List.range 1821).map (vK P x)).toArray, {}⟩
theorem r3 (P : Params) (x : Nat → Obj) (os : OsState) : (staticsOk (importedModules pw.main.body) (boot_heap P) (HX P x), namesBound pw (HX P x), gensDone ⟨HX P x, #[], {}, 1728, os⟩, laidKept (boot_heap P) (HX P x),
      openSeenQ q01 loose01 (importedModules pw.main.body) (fun s => xlAt q01 [] s && recOk [] s) true ⟨HX P x, #[], {}, 1728, os⟩) =
    (true, true, true, true, openGood q01 loose01) := by kernel_rfl
end Hd
end
section
open PySem PySem.W PyProof.Rows
namespace Hd
theorem seg_topGo {tb : String → Option Builtin} {p : Program} {w : World} {n₀ : Nat} {ann : Option Value} {b : Nat} : ∀ {n : Nat} {s s' : Shared} {t t' : Thread},
    segGo tb p w n₀ ann b n s t = some (s', t') → topGo tb p w n₀ ann n s t = some (s', t')
  | 0, _, _, _, _, h => h
  | n + 1, s, s', t, t', h => by
    unfold segGo at h
    unfold topGo
    cases he : endAt b t with
    | some x => rw [he] at h; cases h
    | none =>
      rw [he] at h
      cases hk : stepOk n₀ ann t with
      | false => rw [hk] at h; cases h
      | true =>
        rw [hk] at h
        cases hs : step (denote tb) p w s t with
        | halt o s₂ => rw [hs] at h; cases h
        | go s₂ t₂ =>
          rw [hs] at h
          cases ht : through t with
          | true =>
            exfalso
            obtain ⟨cur, code, pos, stack⟩ := t
            obtain ⟨heap, gens, drawn, toks, os⟩ := s
            unfold through at ht
            obtain ⟨a, b⟩ := Bool.and_eq_true_iff.mp ht
            dsimp only at a b
            cases stack with
            | cons _ _ => cases a
            | nil =>
              cases cur with
              | pure f => cases f with
                | done f => simp only [step, finish] at hs; repeat' split at hs
                            all_goals cases hs
                | again => cases b
              | _ => cases b
          | false => exact seg_topGo h
theorem toTop {w : World} {n : Nat} {s s' : SharedT} {t t' : Thread} (h : goQ w 11 (some (.ref 6)) 1000 n s t = some (s', t')) : topGo treeTable pw w 11 (some (.ref 6)) n s.abs t = some (s'.abs, t') :=
  seg_topGo (segGo_of (b := 1000) (by rw [goQ_eq]; exact h))
theorem topGo_add {tb : String → Option Builtin} {p : Program} {w : World} {n₀ : Nat} {ann : Option Value} : ∀ {n m : Nat} {s s' s'' : Shared} {t t' t'' : Thread},
    topGo tb p w n₀ ann n s t = some (s', t') → topGo tb p w n₀ ann m s' t' = some (s'', t'') → topGo tb p w n₀ ann (n + m) s t = some (s'', t'')
  | 0, m, s, s', s'', t, t', t'', h, k => by
    obtain ⟨rfl, rfl⟩ : s = s' ∧ t = t' := by simpa [topGo] using h
    rw [Nat.zero_add]; exact k
  | n + 1, m, s, s', s'', t, t', t'', h, k => by
    rw [show n + 1 + m = n + m + 1 by omega]
    unfold topGo at h ⊢
    cases ht : through t with
    | true => rw [ht] at h; cases h
    | false =>
      rw [ht] at h
      cases hk : stepOk n₀ ann t with
      | false => rw [hk] at h; cases h
      | true =>
        rw [hk] at h
        cases hs : step (denote tb) p w s t with
        | halt o s₂ => rw [hs] at h; cases h
        | go s₂ t₂ => rw [hs] at h; exact topGo_add h k
theorem boot_abs (P : Params) (os : OsState) : (SB P os).abs = ⟨boot_heap P, #[], boot_drawn, boot_toks, os⟩ := by kernel_rfl
theorem abs_eq {t t' : BT} {n : Nat} {life : Life} (h : t.list n = t'.list n) : absHeap t n life = absHeap t' n life := by unfold absHeap; rw [h]
theorem pair_fst {α β : Type} {a a' : α} {b b' : β} (h : (a, b) = (a', b')) : a = a' := congrArg Prod.fst h
theorem pair_snd {α β : Type} {a a' : α} {b b' : β} (h : (a, b) = (a', b')) : b = b' := congrArg Prod.snd h
theorem abs_at {t t' : BT} {n toks : Nat} {life : Life} {g : Array GenState} {d : Drawn} {os : OsState} (h : t.list n = t'.list n) : (SharedT.mk t n life g d toks os).abs = (SharedT.mk t' n life g d toks os).abs := by
  unfold SharedT.abs; rw [abs_eq h]
theorem q1a (w : World) (os : OsState) : R1 w os = some (⟨(shOf (R1 w os)).tree, 167, {}, #[], {}, 395, os⟩, T0 ⟨48, 39, 48, 49⟩ (kW w os) (cW w os) (pW w os) default) := pair_fst (q1 w os)
theorem q1b (w : World) (os : OsState) : (shOf (R1 w os)).tree.list 167 = (tree w.params (bb w.params (bOf w os)) 0).list 167 := pair_snd (q1 w os)
theorem S_at (P : Params) (b : Nat → Obj) (os : OsState) : S P b 0 os = ⟨tree P b 0, 167, {}, #[], {}, 395, os⟩ := rfl
theorem R1_eq (w : World) (os : OsState) : R1 w os = goQ w 11 (some (.ref 6)) 1000 1906 (SB w.params os) (topStub pw) := by delta R1; with_reducible rfl
theorem go1 (w : World) (os : OsState) : topGo treeTable pw w 11 (some (.ref 6)) 1906 ⟨boot_heap w.params, #[], boot_drawn, boot_toks, os⟩ (topStub pw) =
    some ((S w.params (bb w.params (bOf w os)) 0 os).abs, T0 ⟨48, 39, 48, 49⟩ (kW w os) (cW w os) (pW w os) default) := by
  rw [S_at, ← abs_at (q1b w os), ← boot_abs]
  exact toTop ((R1_eq w os).symm.trans (q1a w os))
theorem go2 (w : World) (b : Nat → Obj) (os : OsState) (k : Result → Sem Fin) (c : Code) (p q : Pos) : ∃ n, n ≤ 12 ∧
    topGo treeTable pw w 11 (some (.ref 6)) n (S w.params (bb w.params b) 0 os).abs (T0 ⟨48, 39, 48, 49⟩ k c p q) = some ((S w.params (bb w.params b) 0 os).abs, T ⟨48, 39, 48, 49⟩ k c p q) := by
  obtain ⟨n, hn, h⟩ := st1 w b os k c p q
  exact ⟨n, hn, toTop h⟩
theorem end_run {w : World} {n : Nat} {s s' : Shared} {t t' : Thread} (h : topGo treeTable pw w 11 (some (.ref 6)) n s t = some (s', t')) (ht : through t' = true) : topRun treeTable pw w 11 (some (.ref 6)) (n + 1) s t = some s' := by
  refine go_top h ?_
  unfold topRun
  rw [ht]
end Hd
end
section
open PySem PySem.W PyProof.Rows
namespace Hd
theorem go3 (w : World) (b : Nat → Obj) (os : OsState) (k : Result → Sem Fin) (c : Code) (p q : Pos) :
    topGo treeTable pw w 11 (some (.ref 6)) 24832 (S w.params (bb w.params b) 0 os).abs (T ⟨48, 39, 48, 49⟩ k c p q) = some ((S w.params (bb w.params b) 256 os).abs, T ⟨48, 19, 48, 29⟩ k c p q) := by
  have h0 := toTop (c0 w b os ⟨48, 39, 48, 49⟩ k c p q)
  have h16 := topGo_add h0 (toTop (c16 w b os ⟨48, 19, 48, 29⟩ k c p q))
  have h32 := topGo_add h16 (toTop (c32 w b os ⟨48, 19, 48, 29⟩ k c p q))
  have h48 := topGo_add h32 (toTop (c48 w b os ⟨48, 19, 48, 29⟩ k c p q))
  have h64 := topGo_add h48 (toTop (c64 w b os ⟨48, 19, 48, 29⟩ k c p q))
  have h80 := topGo_add h64 (toTop (c80 w b os ⟨48, 19, 48, 29⟩ k c p q))
  have h96 := topGo_add h80 (toTop (c96 w b os ⟨48, 19, 48, 29⟩ k c p q))
  have h112 := topGo_add h96 (toTop (c112 w b os ⟨48, 19, 48, 29⟩ k c p q))
  have h128 := topGo_add h112 (toTop (c128 w b os ⟨48, 19, 48, 29⟩ k c p q))
  have h144 := topGo_add h128 (toTop (c144 w b os ⟨48, 19, 48, 29⟩ k c p q))
  have h160 := topGo_add h144 (toTop (c160 w b os ⟨48, 19, 48, 29⟩ k c p q))
  have h176 := topGo_add h160 (toTop (c176 w b os ⟨48, 19, 48, 29⟩ k c p q))
  have h192 := topGo_add h176 (toTop (c192 w b os ⟨48, 19, 48, 29⟩ k c p q))
  have h208 := topGo_add h192 (toTop (c208 w b os ⟨48, 19, 48, 29⟩ k c p q))
  have h224 := topGo_add h208 (toTop (c224 w b os ⟨48, 19, 48, 29⟩ k c p q))
  have h240 := topGo_add h224 (toTop (c240 w b os ⟨48, 19, 48, 29⟩ k c p q))
  exact h240
theorem R2_eq (w : World) (os : OsState) : R2 w os = goQ w 11 (some (.ref 6)) 1000 3007 (S w.params (bb w.params (bOf w os)) 256 os) (T ⟨48, 19, 48, 29⟩ (kW w os) (cW w os) (pW w os) default) := by delta R2; with_reducible rfl
theorem r2a (w : World) (os : OsState) : R2 w os = some (⟨(SE w os).tree, 1821, {}, #[], {}, 1728, os⟩, thOf (R2 w os)) := pair_fst (r2 w os)
theorem r2b (w : World) (os : OsState) : through (thOf (R2 w os)) = true := pair_fst (pair_snd (r2 w os))
theorem r2c (w : World) (os : OsState) : Rl.KA.map (fun a => (SE w os).tree.get a) = (Rl.KK w.params).map (fun p => some p.2) := pair_fst (pair_snd (pair_snd (r2 w os)))
theorem r2d (w : World) (os : OsState) : tabs01.map (fun a => (SE w os).tree.get a) = tabs01.map (fun _ => some { cls := .none, data := .fields #[] }) := pair_fst (pair_snd (pair_snd (pair_snd (r2 w os))))
theorem r2e (w : World) (os : OsState) : (List.range 11).map (fun a => match (Rl.KK w.params).lookup a with | some o => some o | none => (SE w os).tree.get a) =
    (List.range 11).map (fun a => match (Rl.KK w.params).lookup a with | some o => some o | none => some (boots w.params a)) := pair_snd (pair_snd (pair_snd (pair_snd (r2 w os))))
noncomputable def endS (w : World) (os : OsState) (t : BT) : Shared := (SharedT.mk t 1821 {} #[] {} 1728 os).abs
theorem run01 (w : World) (os : OsState) : topRun treeTable pw w 11 (some (.ref 6)) 59614 ⟨boot_heap w.params, #[], boot_drawn, boot_toks, os⟩ (topStub pw) = some (SharedT.mk (SE w os).tree 1821 {} #[] {} 1728 os).abs := by
  obtain ⟨n, hn, h2⟩ := go2 w (bOf w os) os (kW w os) (cW w os) (pW w os) default
  have h := topGo_add (go1 w os) (topGo_add h2 (topGo_add (go3 w (bOf w os) os (kW w os) (cW w os) (pW w os) default) (toTop ((R2_eq w os).symm.trans (r2a w os)))))
  have h' := topRun_mono (59614 - (1906 + (n + (24832 + 3007)) + 1)) _ _ _ _ (end_run h (r2b w os))
  rwa [show 1906 + (n + (24832 + 3007)) + 1 + (59614 - (1906 + (n + (24832 + 3007)) + 1)) = 59614 by omega] at h'
theorem lookup_of_map {f : Addr → Option Obj} : ∀ {l : Frag}, (l.map (·.1)).map f = l.map (fun p => some p.2) → ∀ {a : Addr} {o : Obj}, l.lookup a = some o → f a = some o
  | [], _, _, _, h => by cases h
  | (b, x) :: l, e, a, o, h => by
    simp only [List.map_cons, List.cons.injEq] at e
    rw [List.lookup_cons] at h
    cases q : (a == b) with
    | true =>
      rw [q] at h
      obtain rfl : a = b := beq_iff_eq.mp q
      cases h
      exact e.1
    | false => rw [q] at h; exact lookup_of_map e.2 h
theorem map_mem {f g : Addr → Option Obj} {l : List Addr} (e : l.map f = l.map g) {a : Addr} (h : a ∈ l) : f a = g a := List.map_inj_left.mp e a h
theorem vK_eq (w : World) (os : OsState) (a : Addr) : ((SE w os).tree.get a).getD default = vK w.params (fun a => ((SE w os).tree.get a).getD default) a := by
  unfold vK
  cases hl : (Rl.KK w.params).lookup a with
  | some o =>
    dsimp only
    rw [lookup_of_map (f := fun a => (SE w os).tree.get a) (by rw [← Rl.KA_eq]; exact r2c w os) hl]
    rfl
  | none =>
    dsimp only
    cases hb : Nat.blt a 11 with
    | true =>
      dsimp only
      have h := map_mem (r2e w os) (a := a) (List.mem_range.mpr (by simpa [Nat.blt_eq] using hb))
      simp only [hl] at h
      rw [h]; rfl
    | false =>
      dsimp only
      cases ht : tabs01.any (Nat.beq a) with
      | false => rfl
      | true =>
        dsimp only
        obtain ⟨x, hx, he⟩ := List.any_eq_true.mp ht
        obtain rfl := Nat.eq_of_beq_eq_true he
        have h := map_mem (r2d w os) hx
        rw [h]; rfl
theorem endT (P : Params) (t : BT) (os : OsState) (hv : ∀ a, (t.get a).getD default = vK P (fun a => (t.get a).getD default) a) : (SharedT.mk t 1821 {} #[] {} 1728 os).abs = ⟨HX P (fun a => (t.get a).getD default), #[], {}, 1728, os⟩ := by
  unfold SharedT.abs absHeap BT.list HX
  dsimp only
  rw [List.map_congr_left fun a _ => hv a]
theorem endH (w : World) (os : OsState) : (SharedT.mk (SE w os).tree 1821 {} #[] {} 1728 os).abs = ⟨HX w.params (fun a => ((SE w os).tree.get a).getD default), #[], {}, 1728, os⟩ := endT w.params (SE w os).tree os (vK_eq w os)
noncomputable def alive (o : Obj) : Bool := match o.data with | .freed => false | _ => true
theorem get_HX {P : Params} {x : Nat → Obj} {a : Nat} (h : a < 1821) (hl : alive (vK P x a) = true) : (HX P x).get? a = some (vK P x a) := by
  generalize hv : vK P x a = v at hl
  have e : (HX P x).objs[a]? = some v := by
    unfold HX
    simp [h, hv]
  unfold Heap.get?
  rw [e]
  obtain ⟨c, d, da, sl⟩ := v
  cases da <;> first | rfl | cases hl
theorem kk_self (P : Params) : (Rl.KK P).map (fun p => (Rl.KK P).lookup p.1) = (Rl.KK P).map (fun p => some p.2) := by kernel_rfl
theorem kk_low (P : Params) : (Rl.KK P).all (fun p => Nat.blt p.1 1821 && alive p.2) = true := by kernel_rfl
theorem kobs (P : Params) (x : Nat → Obj) : Rl.KA.map (HX P x).get? = (Rl.KK P).map fun p => some p.2 := by
  rw [Rl.KA_eq P, List.map_map]
  refine List.map_congr_left fun p hp => ?_
  have h1 := List.map_inj_left.mp (kk_self P) p hp
  have h2 := List.all_eq_true.mp (kk_low P) p hp
  obtain ⟨h2, h3⟩ := Bool.and_eq_true_iff.mp h2
  have hv : vK P x p.1 = p.2 := by unfold vK; rw [h1]
  show (HX P x).get? p.1 = _
  rw [get_HX (by simpa [Nat.blt_eq] using h2) (by rw [hv]; exact h3), hv]
noncomputable def hook01 : Hook := kHook Rl.KK Rl.KA Rl.KA_eq
theorem size01 (P : Params) : ((boot_heap P).isNs mainGlobals && (#[] : Array GenState).size == 0, (boot_heap P).objs.size, (boot_heap P).nsMap mainGlobals "__annotations__") = (true, 11, some (.ref 6)) := by kernel_rfl
theorem boot00 (w : World) : (importEnds treeTable (opening pw) w 600 (start (opening pw)).1 (start (opening pw)).2).map (fun s => (s.heap, s.gens, s.drawn, s.toks)) = some (boot_heap w.params, #[], boot_drawn, boot_toks) := by kernel_rfl
theorem fence01 (s : Shared) : fenceModules? pw s = some s := by kernel_rfl
theorem boot01 (w : World) : (fencedOpening treeTable pw w 59614).map (fun s => (s.heap, s.gens, s.drawn, s.toks)) = some (boot_heap w.params, #[], boot_drawn, boot_toks) := by
  obtain ⟨s, hs, hv⟩ := Option.map_eq_some_iff.mp (boot00 w)
  have m := importEnds_mono (59614 - 600) _ _ _ _ hs
  rw [show 600 + (59614 - 600) = 59614 by omega] at m
  unfold fencedOpening
  rw [m]
  show ((fenceModules? pw s)).map _ = _
  rw [fence01 s]
  exact congrArg some hv
theorem openSeenQ_eq : openSeenQ = @openSeen := (PySem.W.Fast.te4187177175401517315).symm
theorem left_gen {w : World} {os : OsState} {hE : Heap} {s0 : Shared} (e : fencedOpening treeTable pw w 59614 = some s0) (e0 : s0 = ⟨boot_heap w.params, #[], boot_drawn, boot_toks, os⟩)
    (r : topRun treeTable pw w 11 (some (.ref 6)) 59614 ⟨boot_heap w.params, #[], boot_drawn, boot_toks, os⟩ (topStub pw) = some ⟨hE, #[], {}, 1728, os⟩)
    (l1 : staticsOk (importedModules pw.main.body) (boot_heap w.params) hE = true) (l2 : namesBound pw hE = true) (l3 : gensDone ⟨hE, #[], {}, 1728, os⟩ = true) (l4 : laidKept (boot_heap w.params) hE = true)
    (l5 : openSeenQ q01 loose01 (importedModules pw.main.body) (fun s => xlAt q01 [] s && recOk [] s) true ⟨hE, #[], {}, 1728, os⟩ = openGood q01 loose01) (k : Rl.KA.map hE.get? = (Rl.KK w.params).map fun p => some p.2) :
    (openEnds treeTable pw w 59614).map (fun s => (openSeen q01 loose01 (importedModules pw.main.body) (fun s => xlAt q01 [] s && recOk [] s) true s, hook01.obs s)) = some (openGood q01 loose01, hook01.val w) := by
  subst e0
  have z1 := pair_fst (size01 w.params)
  have z2 := pair_fst (pair_snd (size01 w.params))
  have z3 := pair_snd (pair_snd (size01 w.params))
  have t : topFrom treeTable pw w 59614 ⟨boot_heap w.params, #[], boot_drawn, boot_toks, os⟩ = some ⟨hE, #[], {}, 1728, os⟩ := by
    unfold topFrom
    dsimp only
    rw [z1, z2, z3, r]
    show (match staticsOk (importedModules pw.main.body) (boot_heap w.params) hE && namesBound pw hE && gensDone ⟨hE, #[], {}, 1728, os⟩ && laidKept (boot_heap w.params) hE with | true => _ | false => _) = _
    rw [l1, l2, l3, l4]; rfl
  unfold openEnds
  rw [e]
  show (topFrom treeTable pw w 59614 _).map _ = _
  rw [t]
  rw [openSeenQ_eq] at l5
  exact congrArg some (Prod.ext l5 k)
theorem left01 : LeftO pw q01 loose01 (fun s => xlAt q01 [] s && recOk [] s) hook01.obs hook01.val 59614 := fun w => by
  obtain ⟨⟨h, gs, d, k, os⟩, e, e'⟩ := Option.map_eq_some_iff.mp (boot01 w)
  obtain ⟨rfl, rfl, rfl, rfl⟩ : h = boot_heap w.params ∧ gs = #[] ∧ d = boot_drawn ∧ k = boot_toks := by simpa using e'
  have l := r3 w.params (fun a => ((SE w os).tree.get a).getD default) os
  have r := run01 w os
  rw [endH] at r
  exact left_gen e rfl r (pair_fst l) (pair_fst (pair_snd l)) (pair_fst (pair_snd (pair_snd l))) (pair_fst (pair_snd (pair_snd (pair_snd l)))) (pair_snd (pair_snd (pair_snd (pair_snd l)))) (kobs _ _)
end Hd
end
section
open PySem PySem.W PyProof.Rows
namespace Hd
abbrev row1 : OpenRow := rw1.row
noncomputable def d01 : DefRec := { name := Str.ofString "law", params := Rl.fA (Rl.tS 49), body := Rl.fB (Rl.tS 49), scope := Rl.fS (Rl.tS 49), pos := (Rl.tS 49).pos }
theorem def01 : defOf q01 row1.name = some (d01, []) := by kernel_rfl
theorem a1 : row1.prog.theDef row1.name = some (d01.params, d01.body, d01.scope) := by kernel_rfl
theorem a2 : kwWritten? d01.params.kwonlyargs d01.params.kw_defaults = some [] := by kernel_rfl
theorem a3 : (!row1.writes || row1.records.isEmpty) = true := by kernel_rfl
theorem a4 : (chainsOk q01 && opensWell row1.prog && (frees row1.toRowW && row1.within.isEmpty)) = true := by kernel_rfl
theorem a5 : row1.prog.bare := ⟨rfl, rfl, rfl, rfl, rfl, by decide +kernel⟩
theorem a6 : row1.toRowW.promised := by w_witness2
theorem left02 : LeftO row1.prog q01 loose01 (fun s => xlAt q01 [] s && recOk (RowW.records row1.toRowW) s) hook01.obs hook01.val 59614 := left01
theorem said01 : rw1.wellSaid = true := by kernel_rfl
end Hd
end
open PySem PySem.W PyProof.Rows PySem.Calls PySem.Spec
namespace Rl
abbrev VP := Value → Shared → Prop
section
noncomputable abbrev Hp := Addr → Option Obj
noncomputable abbrev Ws := List (Addr × Obj)
noncomputable abbrev Mp := Str → Option Value
noncomputable def fas (fr : List Env) : List Addr := fr.filterMap (·.frame)
noncomputable def FF (h : Heap) (fr : List Env) : Prop :=
  ∀ env ∈ fr, env.scope.kind ≠ .module ∧ ∃ L o es ep, env.frame = some L ∧ h.get? L = some o ∧ o.data = .dict es ep
structure Bud (A : Around) (hd : Option Value) (fr : List Env) (d u : Nat) : Prop where
  h : A.handled = hd
  f : A.frames = some fr
  d : A.depth + d < recursionLimit
  u : A.units + u < cLine
structure Base where
  B0 : Heap
  prog : Program
  w : World
  K : Frag
  X : K.In B0
  q : Program
  lo : List Str
  mg : Mp
  mb : Mp
  T : TopRead q lo mg mb B0
structure Pre (G : Base) (fr : List Env) (I : Hp) (W : Ws) (s : Shared) : Prop where
  b : ∀ a o, G.B0.get? a = some o → I a = some o
  im : ∀ a o, I a = some o → s.heap.get? a = some o
  wr : ∀ p ∈ W, s.heap.get? p.1 = some p.2
  wI : ∀ p ∈ W, I p.1 = none
  nd : (W.map Prod.fst).Nodup
  fI : ∀ a ∈ fas fr, I a = none ∧ ∀ p ∈ W, p.1 ≠ a
  ff : FF s.heap fr
  gb : AllBare s.gens
structure Ret (fr : List Env) (I : Hp) (W : Ws) (s : Shared) (I' : Hp) (W' : Ws) (s' : Shared) : Prop where
  sub : ∀ a o, I a = some o → I' a = some o
  im : ∀ a o, I' a = some o → s'.heap.get? a = some o
  wr : ∀ p ∈ W', s'.heap.get? p.1 = some p.2
  wI : ∀ p ∈ W', I' p.1 = none
  nd : (W'.map Prod.fst).Nodup
  keep : ∀ a o, s.heap.get? a = some o → (∀ p ∈ W, p.1 ≠ a) → a ∉ fas fr → s'.heap.get? a = some o
  keepf : ∀ a o, s.heap.get? a = some o → (∀ p ∈ W, p.1 ≠ a) → ∃ sl, s'.heap.get? a = some { o with slots := sl }
  newI : ∀ a o, I' a = some o → I a = some o ∨ s.heap.get? a = none ∨ ∃ p ∈ W, p.1 = a
  newW : ∀ p ∈ W', s.heap.get? p.1 = none ∨ ∃ q ∈ W, q.1 = p.1
  gb : AllBare s'.gens
  gk : ∀ k, k < s.gens.size → s'.gens[k]? = s.gens[k]?
  os : s'.os = s.os
  al : ∀ p ∈ W, s'.heap.get? p.1 ≠ none
structure Fm where
  fd : FuncData
  L : Addr
  fa : Addr
  outer : List Env
  ext : Hp
  I0 : Hp
  W0 : List Addr
  os : OsState
  gs : Array GenState
@[reducible] noncomputable def Fm.env (c : Fm) : Env := callEnv c.fd c.L c.fa
structure St where
  m : Mp
  I : Hp
  W : Ws
structure Ok (G : Base) (c : Fm) (st : St) (s : Shared) : Prop where
  b : ∀ a o, G.B0.get? a = some o → st.I a = some o
  ns : s.heap.Ns c.L st.m
  im : ∀ a o, st.I a = some o → s.heap.get? a = some o
  wr : ∀ p ∈ st.W, s.heap.get? p.1 = some p.2
  wI : ∀ p ∈ st.W, st.I p.1 = none
  nd : (st.W.map Prod.fst).Nodup
  LI : st.I c.L = none
  LW : ∀ p ∈ st.W, p.1 ≠ c.L
  fI : ∀ a ∈ fas c.outer, st.I a = none ∧ ∀ p ∈ st.W, p.1 ≠ a
  ff : FF s.heap c.outer
  keep : ∀ a o, c.ext a = some o → a ∉ fas c.outer → s.heap.get? a = some o
  keepf : ∀ a o, c.ext a = some o → ∃ sl, s.heap.get? a = some { o with slots := sl }
  xW : ∀ p ∈ st.W, c.ext p.1 = none
  xL : c.ext c.L = none
  sub : ∀ a o, c.I0 a = some o → st.I a = some o
  new : ∀ a o, st.I a = some o → c.I0 a = some o ∨ c.ext a = none
  gb : AllBare s.gens
  gk : ∀ k, k < c.gs.size → s.gens[k]? = c.gs[k]?
  os : s.os = c.os
  fk : c.fd.scope.kind = .function
  w0 : ∀ a ∈ c.W0, s.heap.get? a ≠ none
  gl : c.fd.globals = mainGlobals
  bl : c.fd.builtins = builtinsNs
variable {G : Base} {c : Fm} {st : St} {s : Shared}
theorem Ok.size_none (O : Ok G c st s) (a : Addr) (h : s.heap.get? a = none) : c.ext a = none := by
  cases q : c.ext a with
  | none => rfl
  | some o => obtain ⟨sl, hs⟩ := O.keepf a o q; rw [h] at hs; cases hs
theorem Ok.grown (O : Ok G c st s) {s' : Shared} (k : ∀ a o, s.heap.get? a = some o → s'.heap.get? a = some o) (hg : s'.gens = s.gens) (ho : s'.os = s.os) : Ok G c st s' where
  b := O.b
  ns := O.ns.keeps k
  im := fun a o h => k _ _ (O.im a o h)
  wr := fun p h => k _ _ (O.wr p h)
  wI := O.wI
  nd := O.nd
  LI := O.LI
  LW := O.LW
  fI := O.fI
  ff := fun e he => by obtain ⟨h1, L, o, es, ep, h2, h3, h4⟩ := O.ff e he; exact ⟨h1, L, o, es, ep, h2, k _ _ h3, h4⟩
  keep := fun a o h n => k _ _ (O.keep a o h n)
  keepf := fun a o h => by obtain ⟨sl, h⟩ := O.keepf a o h; exact ⟨sl, k _ _ h⟩
  xW := O.xW
  xL := O.xL
  sub := O.sub
  new := O.new
  gb := hg ▸ O.gb
  gk := hg ▸ O.gk
  os := ho.trans O.os
  fk := O.fk
  w0 := fun a ha e => by
    cases q : s.heap.get? a with
    | none => exact O.w0 a ha q
    | some o => rw [k _ _ q] at e; cases e
  gl := O.gl
  bl := O.bl
theorem Ok.toks (O : Ok G c st s) {k : Nat} : Ok G c st { s with toks := k } := O.grown (fun _ _ h => h) rfl rfl
theorem Ok.own (O : Ok G c st s) {s' : Shared} {x : Addr} {o : Obj} (k : ∀ a o, s.heap.get? a = some o → s'.heap.get? a = some o) (hn : s.heap.get? x = none) (hx : s'.heap.get? x = some o) (hg : s'.gens = s.gens) (ho : s'.os = s.os) :
    Ok G c { st with W := (x, o) :: st.W } s' :=
  have nI : st.I x = none := by
    cases q : st.I x with
    | none => rfl
    | some o => have := O.im _ _ q; rw [hn] at this; cases this
  { O.grown k hg ho with
    wr := fun p hp => by rcases List.mem_cons.mp hp with rfl | hp; exact hx; exact k _ _ (O.wr p hp)
    wI := fun p hp => by rcases List.mem_cons.mp hp with rfl | hp; exact nI; exact O.wI p hp
    nd := by
      show (x :: st.W.map Prod.fst).Nodup
      refine List.nodup_cons.mpr ⟨fun h => ?_, O.nd⟩
      obtain ⟨p, hp, e⟩ := List.mem_map.mp h
      have := O.wr p hp
      rw [e, hn] at this; cases this
    LW := fun p hp => by
      rcases List.mem_cons.mp hp with rfl | hp
      · rintro rfl
        obtain ⟨o, _, _, h, _⟩ := O.ns
        rw [hn] at h; cases h
      · exact O.LW p hp
    fI := fun a ha => ⟨(O.fI a ha).1, fun p hp => by
      rcases List.mem_cons.mp hp with rfl | hp
      · rintro rfl
        obtain ⟨e, he, hf⟩ := List.mem_filterMap.mp ha
        obtain ⟨_, L, o, _, _, h2, h3, _⟩ := O.ff e he
        rw [hf] at h2; cases h2; rw [hn] at h3; cases h3
      · exact (O.fI a ha).2 p hp⟩
    xW := fun p hp => by rcases List.mem_cons.mp hp with rfl | hp; exact O.size_none _ hn; exact O.xW p hp }
theorem Ok.fix {x : Addr} {o : Obj} {I : Hp} {W : Ws} {m : Mp} (O : Ok G c ⟨m, I, (x, o) :: W⟩ s) : Ok G c ⟨m, fun a => if a = x then some o else I a, W⟩ s :=
  have hnd := List.nodup_cons.mp O.nd
  have ne : ∀ p ∈ W, p.1 ≠ x := fun p hp e => hnd.1 (List.mem_map.mpr ⟨p, hp, e⟩)
  have nx := O.wI (x, o) (.head _)
  { O with
    b := fun a o' h => by
      show (if a = x then some o else I a) = _
      by_cases e : a = x
      · subst e; have := O.b _ _ h; rw [nx] at this; cases this
      · rw [if_neg e]; exact O.b _ _ h
    im := fun a o' (h : (if a = x then some o else I a) = _) => by
      by_cases e : a = x
      · subst e; rw [if_pos rfl] at h; cases h; exact O.wr _ (.head _)
      · rw [if_neg e] at h; exact O.im _ _ h
    wr := fun p hp => O.wr p (.tail _ hp)
    wI := fun p hp => by
      show (if p.1 = x then some o else I p.1) = none
      rw [if_neg (ne p hp)]; exact O.wI p (.tail _ hp)
    nd := hnd.2
    LI := by
      show (if c.L = x then some o else I c.L) = none
      rw [if_neg fun e => O.LW _ (.head _) e.symm]; exact O.LI
    LW := fun p hp => O.LW p (.tail _ hp)
    fI := fun a ha => ⟨by
      show (if a = x then some o else I a) = none
      rw [if_neg fun e => (O.fI a ha).2 _ (.head _) e.symm]; exact (O.fI a ha).1, fun p hp => (O.fI a ha).2 p (.tail _ hp)⟩
    xW := fun p hp => O.xW p (.tail _ hp)
    sub := fun a o' h => by
      show (if a = x then some o else I a) = _
      by_cases e : a = x
      · subst e; have := O.sub _ _ h; rw [nx] at this; cases this
      · rw [if_neg e]; exact O.sub _ _ h
    new := fun a o' (h : (if a = x then some o else I a) = _) => by
      by_cases e : a = x
      · subst e; exact .inr (O.xW _ (.head _))
      · rw [if_neg e] at h; exact O.new _ _ h }
theorem Ok.set {m' : Mp} (O : Ok G c st s) {s' : Shared} (hn : s'.heap.Ns c.L m') (hs : Heap.SameBut c.L s.heap s'.heap) (hg : s'.gens = s.gens) (ho : s'.os = s.os) : Ok G c { st with m := m' } s' where
  b := O.b
  ns := hn
  im := fun a o h => (hs.2 a fun e => by subst e; have := O.LI; rw [h] at this; cases this).trans (O.im a o h)
  wr := fun p h => (hs.2 p.1 (O.LW p h)).trans (O.wr p h)
  wI := O.wI
  nd := O.nd
  LI := O.LI
  LW := O.LW
  fI := O.fI
  ff := fun e he => by
    obtain ⟨h1, L, o, es, ep, h2, h3, h4⟩ := O.ff e he
    by_cases q : L = c.L
    · obtain ⟨o', es', ep', k1, k2, _⟩ := hn
      exact ⟨h1, L, o', es', ep', h2, q ▸ k1, k2⟩
    · exact ⟨h1, L, o, es, ep, h2, (hs.2 L q).trans h3, h4⟩
  keep := fun a o h n => (hs.2 a fun e => by subst e; have := O.xL; rw [h] at this; cases this).trans (O.keep a o h n)
  keepf := fun a o h => by
    obtain ⟨sl, k⟩ := O.keepf a o h
    exact ⟨sl, (hs.2 a fun e => by subst e; have := O.xL; rw [h] at this; cases this).trans k⟩
  xW := O.xW
  xL := O.xL
  sub := O.sub
  new := O.new
  gb := hg ▸ O.gb
  gk := hg ▸ O.gk
  os := ho.trans O.os
  fk := O.fk
  w0 := fun a ha e => by
    by_cases q : a = c.L
    · subst q
      obtain ⟨o, _, _, h, _⟩ := hn
      rw [e] at h; cases h
    · exact O.w0 a ha ((hs.2 a q).symm.trans e)
  gl := O.gl
  bl := O.bl
theorem Ok.turned {x : Addr} {o o' : Obj} {I : Hp} {W1 W2 : Ws} {m : Mp} (O : Ok G c ⟨m, I, W1 ++ (x, o) :: W2⟩ s) {s' : Shared} (hs : Heap.SameBut x s.heap s'.heap) (hx' : s'.heap.get? x = some o') (hg : s'.gens = s.gens) (ho : s'.os = s.os) :
    Ok G c ⟨m, I, W1 ++ (x, o') :: W2⟩ s' :=
  have hm : (x, o) ∈ W1 ++ (x, o) :: W2 := by simp
  have nI := O.wI _ hm
  have same : ∀ a, a ≠ x → s'.heap.get? a = s.heap.get? a := fun a e => hs.2 a e
  have nd := O.nd
  have fst : (W1 ++ (x, o') :: W2).map Prod.fst = (W1 ++ (x, o) :: W2).map Prod.fst := by simp
  have sim : ∀ p ∈ W1 ++ (x, o') :: W2, p = (x, o') ∨ (p ∈ W1 ++ (x, o) :: W2 ∧ p.1 ≠ x) := fun p hp => by
    have hd : x ∉ (W1 ++ W2).map Prod.fst := by
      have := O.nd
      simp only [List.map_append, List.map_cons, List.nodup_append, List.nodup_cons, List.mem_cons, List.mem_append] at this ⊢
      rintro (h | h)
      · exact this.2.2 _ h _ (.inl rfl) rfl
      · exact this.2.1.1 h
    rcases List.mem_append.mp hp with h | h
    · exact .inr ⟨List.mem_append_left _ h, fun e => hd (List.mem_map.mpr ⟨p, List.mem_append_left _ h, e⟩)⟩
    · rcases List.mem_cons.mp h with rfl | h
      · exact .inl rfl
      · exact .inr ⟨List.mem_append_right _ (.tail _ h), fun e => hd (List.mem_map.mpr ⟨p, List.mem_append_right _ h, e⟩)⟩
  have adr : ∀ p ∈ W1 ++ (x, o') :: W2, ∃ q ∈ W1 ++ (x, o) :: W2, q.1 = p.1 := fun p hp => by
    rcases sim p hp with rfl | h
    · exact ⟨_, hm, rfl⟩
    · exact ⟨p, h.1, rfl⟩
  have xL : x ≠ c.L := O.LW _ hm
  { b := O.b
    ns := by
      obtain ⟨oL, es, ep, h, r⟩ := O.ns
      exact ⟨oL, es, ep, (same _ (Ne.symm xL)).trans h, r⟩
    im := fun a oa h => (same a fun e => by subst e; have := nI; rw [h] at this; cases this).trans (O.im a oa h)
    wr := fun p hp => by
      rcases sim p hp with rfl | ⟨h, e⟩
      · exact hx'
      · exact (same _ e).trans (O.wr p h)
    wI := fun p hp => by obtain ⟨q, hq, e⟩ := adr p hp; exact e ▸ O.wI q hq
    nd := by rw [show ((⟨m, I, W1 ++ (x, o') :: W2⟩ : St).W.map Prod.fst) = _ from fst]; exact O.nd
    LI := O.LI
    LW := fun p hp => by obtain ⟨q, hq, e⟩ := adr p hp; exact e ▸ O.LW q hq
    fI := fun a ha => ⟨(O.fI a ha).1, fun p hp => by obtain ⟨q, hq, e⟩ := adr p hp; exact e ▸ (O.fI a ha).2 q hq⟩
    ff := fun e he => by
      obtain ⟨h1, L, ob, es, ep, h2, h3, h4⟩ := O.ff e he
      refine ⟨h1, L, ob, es, ep, h2, (same _ fun q => ?_).trans h3, h4⟩
      exact (O.fI L (List.mem_filterMap.mpr ⟨e, he, h2⟩)).2 _ hm q.symm
    keep := fun a oa h n => (same a fun e => by subst e; have := O.xW _ hm; rw [h] at this; cases this).trans (O.keep a oa h n)
    keepf := fun a oa h => by
      obtain ⟨sl, k⟩ := O.keepf a oa h
      exact ⟨sl, (same a fun e => by subst e; have := O.xW _ hm; rw [h] at this; cases this).trans k⟩
    xW := fun p hp => by obtain ⟨q, hq, e⟩ := adr p hp; exact e ▸ O.xW q hq
    xL := O.xL
    sub := O.sub
    new := O.new
    gb := hg ▸ O.gb
    gk := hg ▸ O.gk
    os := ho.trans O.os
    fk := O.fk
    w0 := fun a ha e => by
      by_cases q : a = x
      · subst q
        rw [hx'] at e; cases e
      · exact O.w0 a ha ((same a q).symm.trans e)
    gl := O.gl
    bl := O.bl }
section rules
variable {A : Around} {E : VP}
noncomputable def ov (l : List (Str × Value)) (m : Mp) : Mp := fun y => match l.lookup y with
  | some v => some v
  | none => m y
theorem ov_cons {x : Str} {v : Value} {l : List (Str × Value)} {m : Mp} : (fun y => if y = x then some v else ov l m y) = ov ((x, v) :: l) m := by
  funext y
  unfold ov
  rw [List.lookup_cons]
  by_cases h : y = x
  · subst h; simp
  · rw [if_neg h, beq_eq_false_iff_ne.mpr h]
theorem r_store {x : Str} {v : Value} {Q : Unit → Shared → Prop} {l : List (Str × Value)} {m : Mp} {I : Hp} {W : Ws} (O : Ok G c ⟨ov l m, I, W⟩ s) (hl : c.env.kindOf x = some .local)
    (h : ∀ s', Ok G c ⟨ov ((x, v) :: l) m, I, W⟩ s' → Q () s') : wpAny (model G.prog G.w) A (storeName c.env x v) Q E s :=
  wpAny_storeName_local hl O.ns (fun h' hn hs => h _ (ov_cons ▸ O.set (s' := { s with heap := h', toks := s.toks + 1 }) hn hs rfl rfl))
    (by show (c.fd.scope.kind == .class || (c.fd.scope.kind == .module && _)) = false; rw [O.fk]; rfl)
theorem Ok.over {m : Mp} {I : Hp} {W : Ws} (O : Ok G c ⟨m, I, W⟩ s) : Ok G c ⟨ov [] m, I, W⟩ s := O
theorem r_load {x : Str} {v : Value} {Q : VP} (O : Ok G c st s) (hl : c.env.kindOf x = some .local) (hv : st.m x = some v) (h : Q v s) :
    wpAny (model G.prog G.w) A (loadName c.env x) Q E s := wpAny_loadName_local O.fk hl O.ns hv h
theorem r_name {x : Str} {v : Value} {pos : Pos} {Q : VP} (O : Ok G c st s) (hl : c.env.kindOf x = some .local) (hv : st.m x = some v) (h : Q v s)
    (hd : (x == ("__debug__" : Str)) = false := by decide +kernel) : wpAny (model G.prog G.w) A (eval (.Name x pos) c.env) Q E s := wpAny_Name (r_load O hl hv h) hd
theorem Ok.keepB (O : Ok G c st s) : ∀ b o, G.B0.get? b = some o → s.heap.get? b = some o := fun b o h => O.im _ _ (O.b _ _ h)
theorem mg_ofK {n : Str} {v : Value} (e : nsIn G.K mainGlobals n = some (some v)) : G.mg n = some v := mg_of G.X G.T.g e
theorem r_glob {x : Str} {v : Value} {pos : Pos} {Q : VP} (O : Ok G c st s) (hx : c.env.kindOf x = some .globalImplicit) (e : nsIn G.K mainGlobals x = some (some v)) (h : Q v s)
    (hd : (x == ("__debug__" : Str)) = false := by decide +kernel) : wpAny (model G.prog G.w) A (eval (.Name x pos) c.env) Q E s :=
  Name_function_global O.fk hx (loadGlobal_global (env := c.env) (mg := G.mg) (by show s.heap.Ns c.fd.globals G.mg; rw [O.gl]; exact G.T.g.keeps O.keepB) (mg_ofK e) h) hd
theorem r_blt {x : Str} {v : Value} {pos : Pos} {Q : VP} (O : Ok G c st s) (hx : c.env.kindOf x = some .globalImplicit) (e : nsIn G.K mainGlobals x = some none) (hv : bootBuiltins x = some v) (h : Q v s)
    (hn : x ≠ "__name__" := by decide +kernel) (hd : (x == ("__debug__" : Str)) = false := by decide +kernel) : wpAny (model G.prog G.w) A (eval (.Name x pos) c.env) Q E s :=
  Name_function_global O.fk hx (loadGlobal_builtin (env := c.env) (mg := G.mg) (mb := G.mb) (by show s.heap.Ns c.fd.globals G.mg; rw [O.gl]; exact G.T.g.keeps O.keepB) (mg_none_of G.X G.T.g e)
    (by show s.heap.Ns c.fd.builtins G.mb; rw [O.bl]; exact G.T.b.keeps O.keepB) ((G.T.builtins x hn).trans hv) h) hd
end rules
structure Ex where
  a : Addr
  tb : Addr
  cls : Value
  dx : Option Addr
  cx : Value := .none
inductive TrX (x : Ex) (fl : Value) (h : Heap) : Prop
  | mk (oe : Obj) (vs : Array Value) (oT : Obj) (ts : Array Value) (h1 : h.get? x.a = some oe) (h2 : oe.cls = x.cls) (h3 : oe.dict = x.dx) (h4 : oe.data = .fields vs) (h5 : vs[1]? = some (.ref x.tb) ∧ vs[2]? = some x.cx) (h6 : x.tb ≠ x.a) (h7 : h.get? x.tb = some oT) (h8 : oT.data = .fields ts) (h9 : ts[3]? = some fl) : TrX x fl h
noncomputable def Flies (I : Hp) (W : Ws) (x : Ex) (s : Shared) : Prop :=
  TrX x .none s.heap ∧
    (I x.a = none ∧ I x.tb = none) ∧ (∀ p ∈ W, p.1 ≠ x.a ∧ p.1 ≠ x.tb)
noncomputable def Cl (G : Base) (f : Value) (args : List Value) (hd : Option Value) (d u : Nat) (I : Hp) (W : Ws) (Q : Value → Hp → Ws → Prop) (E : Ex → Hp → Ws → Prop) : Prop :=
  ∀ (A : Around) (fr : List Env) (s : Shared), Bud A hd fr d u → Pre G fr I W s →
    wpAny (model G.prog G.w) A (call f args) (fun v s' => ∃ I' W', Ret fr I W s I' W' s' ∧ Q v I' W')
      (fun e s' => ∃ x I' W', Ret fr I W s I' W' s' ∧ e = .ref x.a ∧ (s.heap.get? x.a = none ∧ s.heap.get? x.tb = none) ∧ Flies I' W' x s' ∧ E x I' W') s
theorem Ok.back {m : Mp} {I I' : Hp} {Wc Wr W' : Ws} {s' : Shared} (O : Ok G c ⟨m, I, Wc ++ Wr⟩ s) (R : Ret (c.env :: c.outer) I Wc s I' W' s') : Ok G c ⟨m, I', W' ++ Wr⟩ s' := by
  have nd := O.nd
  simp only [List.map_append, List.nodup_append] at nd
  have apart : ∀ p ∈ Wc, ∀ q ∈ Wr, p.1 ≠ q.1 := fun p hp q hq => nd.2.2 _ (List.mem_map.mpr ⟨p, hp, rfl⟩) _ (List.mem_map.mpr ⟨q, hq, rfl⟩)
  have fasE : fas (c.env :: c.outer) = c.L :: fas c.outer := rfl
  have offW : ∀ a, (∀ p ∈ Wc ++ Wr, p.1 ≠ a) → ∀ p ∈ Wc, p.1 ≠ a := fun a h p hp => h p (List.mem_append_left _ hp)
  have hext : ∀ a o, c.ext a = some o → ∀ p ∈ Wc, p.1 ≠ a := fun a o h p hp e => by
    have := O.xW p (List.mem_append_left _ hp); rw [e, h] at this; cases this
  have frW : ∀ a ∈ c.L :: fas c.outer, ∀ p ∈ Wc, p.1 ≠ a := fun a ha p hp => by
    rcases List.mem_cons.mp ha with rfl | ha
    · exact O.LW p (List.mem_append_left _ hp)
    · exact (O.fI a ha).2 p (List.mem_append_left _ hp)
  have stands : ∀ a ∈ c.L :: fas c.outer, ∃ o, s.heap.get? a = some o := fun a ha => by
    rcases List.mem_cons.mp ha with rfl | ha
    · obtain ⟨o, _, _, h, _⟩ := O.ns; exact ⟨o, h⟩
    · obtain ⟨e, he, hf⟩ := List.mem_filterMap.mp ha
      obtain ⟨_, L, o, _, _, h2, h3, _⟩ := O.ff e he
      rw [hf] at h2; cases h2; exact ⟨o, h3⟩
  have nI : ∀ a ∈ c.L :: fas c.outer, I' a = none := fun a ha => by
    cases q : I' a with
    | none => rfl
    | some o =>
      rcases R.newI a o q with h | h | ⟨p, hp, e⟩
      · rcases List.mem_cons.mp ha with rfl | ha
        · have : I c.L = none := O.LI; rw [h] at this; cases this
        · have : I a = none := (O.fI a ha).1; rw [h] at this; cases this
      · obtain ⟨o', h'⟩ := stands a ha; rw [h] at h'; cases h'
      · exact absurd e (frW a ha p hp)
  have nW : ∀ a ∈ c.L :: fas c.outer, ∀ p ∈ W', p.1 ≠ a := fun a ha p hp e => by
    rcases R.newW p hp with h | ⟨q, hq, e'⟩
    · obtain ⟨o', h'⟩ := stands a ha; rw [← e, h] at h'; cases h'
    · exact frW a ha q hq (e'.trans e)
  have rW : ∀ q ∈ Wr, ∀ p ∈ W', p.1 ≠ q.1 := fun q hq p hp e => by
    rcases R.newW p hp with h | ⟨r, hr, e'⟩
    · have := O.wr q (List.mem_append_right _ hq); rw [← e, h] at this; cases this
    · exact apart r hr q hq (e'.trans e)
  exact
  { b := fun a o h => R.sub _ _ (O.b a o h)
    ns := by
      obtain ⟨o, es, ep, h1, h2, h3⟩ := O.ns
      obtain ⟨sl, h⟩ := R.keepf _ _ h1 (frW c.L (.head _))
      exact ⟨_, es, ep, h, h2, h3⟩
    im := R.im
    wr := fun p hp => by
      rcases List.mem_append.mp hp with hp | hp
      · exact R.wr p hp
      · refine R.keep _ _ (O.wr p (List.mem_append_right _ hp)) (fun q hq => apart q hq p hp) fun ha => ?_
        rw [fasE] at ha
        rcases List.mem_cons.mp ha with e | ha
        · exact O.LW p (List.mem_append_right _ hp) e
        · exact (O.fI _ ha).2 p (List.mem_append_right _ hp) rfl
    wI := fun p hp => by
      rcases List.mem_append.mp hp with hp | hp
      · exact R.wI p hp
      · cases q : I' p.1 with
        | none => exact q
        | some o =>
          rcases R.newI _ _ q with h | h | ⟨r, hr, e⟩
          · have : I p.1 = none := O.wI p (List.mem_append_right _ hp)
            rw [h] at this; cases this
          · have := O.wr p (List.mem_append_right _ hp); rw [h] at this; cases this
          · exact absurd e (apart r hr p hp)
    nd := by
      simp only [List.map_append, List.nodup_append]
      refine ⟨R.nd, nd.2.1, fun a ha b hb e => ?_⟩
      obtain ⟨p, hp, rfl⟩ := List.mem_map.mp ha
      obtain ⟨q, hq, rfl⟩ := List.mem_map.mp hb
      exact rW q hq p hp e
    LI := nI _ (.head _)
    LW := fun p hp => by
      rcases List.mem_append.mp hp with hp | hp
      · exact nW _ (.head _) p hp
      · exact O.LW p (List.mem_append_right _ hp)
    fI := fun a ha => ⟨nI a (.tail _ ha), fun p hp => by
      rcases List.mem_append.mp hp with hp | hp
      · exact nW a (.tail _ ha) p hp
      · exact (O.fI a ha).2 p (List.mem_append_right _ hp)⟩
    ff := fun e he => by
      obtain ⟨h1, L, o, es, ep, h2, h3, h4⟩ := O.ff e he
      obtain ⟨sl, h⟩ := R.keepf _ _ h3 (frW L (.tail _ (List.mem_filterMap.mpr ⟨e, he, h2⟩)))
      exact ⟨h1, L, _, es, ep, h2, h, h4⟩
    keep := fun a o h n => R.keep _ _ (O.keep a o h n) (hext a o h) fun ha => by
      rw [fasE] at ha
      rcases List.mem_cons.mp ha with e | ha
      · have : c.ext c.L = none := O.xL
        rw [← e, h] at this; cases this
      · exact n ha
    keepf := fun a o h => by
      obtain ⟨sl, h'⟩ := O.keepf a o h
      obtain ⟨sl', h''⟩ := R.keepf _ _ h' (hext a o h)
      exact ⟨sl', h''⟩
    xW := fun p hp => by
      rcases List.mem_append.mp hp with hp | hp
      · rcases R.newW p hp with h | ⟨q, hq, e⟩
        · exact O.size_none _ h
        · exact e ▸ O.xW q (List.mem_append_left _ hq)
      · exact O.xW p (List.mem_append_right _ hp)
    xL := O.xL
    sub := fun a o h => R.sub _ _ (O.sub a o h)
    new := fun a o h => by
      rcases R.newI a o h with h | h | ⟨p, hp, e⟩
      · exact O.new a o h
      · exact .inr (O.size_none _ h)
      · exact .inr (e ▸ O.xW p (List.mem_append_left _ hp))
    gb := R.gb
    gk := fun k hk => (R.gk k (by
      rcases Nat.lt_or_ge k s.gens.size with h | h
      · exact h
      · have := O.gk k hk
        rw [Array.getElem?_eq_none h, Array.getElem?_eq_getElem hk] at this; cases this)).trans (O.gk k hk)
    os := R.os.trans O.os
    fk := O.fk
    w0 := fun a ha e => by
      cases q : s.heap.get? a with
      | none => exact O.w0 a ha q
      | some o =>
        by_cases z : ∃ p ∈ Wc, p.1 = a
        · obtain ⟨p, hp, rfl⟩ := z; exact R.al p hp e
        · obtain ⟨sl, h⟩ := R.keepf a o q fun p hp e' => z ⟨p, hp, e'⟩
          rw [e] at h; cases h
    gl := O.gl
    bl := O.bl }
theorem r_call {A : Around} {m : Mp} {I : Hp} {Wc Wr : Ws} {f : Value} {args : List Value} {hd : Option Value} {d u : Nat} {Q : VP} {E : VP} {E' : Ex → Hp → Ws → Prop}
    (O : Ok G c ⟨m, I, Wc ++ Wr⟩ s) (B : Bud A hd (c.env :: c.outer) d u)
    (C : Cl G f args hd d u I Wc (fun v I' W' => ∀ s', Ok G c ⟨m, I', W' ++ Wr⟩ s' → (∀ a o, I a = some o → I' a = some o) → Q v s') E')
    (hE : ∀ x I' W' s', Ok G c ⟨m, I', W' ++ Wr⟩ s' → (∀ a o, I a = some o → I' a = some o) → Flies I' (W' ++ Wr) x s' → (s.heap.get? x.a = none ∧ s.heap.get? x.tb = none) → E' x I' W' → E (.ref x.a) s') :
    wpAny (model G.prog G.w) A (call f args) Q E s := by
  have nd := O.nd
  simp only [List.map_append, List.nodup_append] at nd
  have apart : ∀ p ∈ Wc, ∀ q ∈ Wr, p.1 ≠ q.1 := fun p hp q hq => nd.2.2 _ (List.mem_map.mpr ⟨p, hp, rfl⟩) _ (List.mem_map.mpr ⟨q, hq, rfl⟩)
  have fasE : fas (c.env :: c.outer) = c.L :: fas c.outer := rfl
  have P : Pre G (c.env :: c.outer) I Wc s :=
    { b := O.b, im := O.im, wr := fun p hp => O.wr p (List.mem_append_left _ hp), wI := fun p hp => O.wI p (List.mem_append_left _ hp), nd := nd.1
      fI := fun a ha => by
        rw [fasE] at ha
        rcases List.mem_cons.mp ha with rfl | ha
        · exact ⟨O.LI, fun p hp => O.LW p (List.mem_append_left _ hp)⟩
        · exact ⟨(O.fI a ha).1, fun p hp => (O.fI a ha).2 p (List.mem_append_left _ hp)⟩
      ff := fun e he => by
        rcases List.mem_cons.mp he with rfl | he
        · obtain ⟨o, es, ep, h1, h2, _⟩ := O.ns
          exact ⟨by show c.fd.scope.kind ≠ .module; rw [O.fk]; decide, c.L, o, es, ep, rfl, h1, h2⟩
        · exact O.ff e he
      gb := O.gb }
  have back : ∀ I' W' s', Ret (c.env :: c.outer) I Wc s I' W' s' → Ok G c ⟨m, I', W' ++ Wr⟩ s' := fun I' W' s' R => O.back R
  refine wpAny_mono (C A _ s B P) (fun v s' h => ?_) fun e s' h => ?_
  · obtain ⟨I', W', R, h⟩ := h
    exact h s' (back I' W' s' R) R.sub
  · obtain ⟨x, I', W', R, rfl, hn, hf, h⟩ := h
    refine hE x I' W' s' (back I' W' s' R) R.sub ?_ hn h
    refine ⟨hf.1, hf.2.1, fun p hp => ?_⟩
    rcases List.mem_append.mp hp with hp | hp
    · exact hf.2.2 p hp
    · have hw := O.wr p (List.mem_append_right _ hp)
      exact ⟨fun e => (by rw [e, hn.1] at hw; cases hw), fun e => (by rw [e, hn.2] at hw; cases hw)⟩
/-! exceptions in an activation -/
noncomputable def Off (c : Fm) (st : St) (a : Addr) : Prop := st.I a = none ∧ (∀ p ∈ st.W, p.1 ≠ a) ∧ c.ext a = none ∧ a ∉ c.W0
theorem Off.ne_L {a : Addr} (O : Ok G c st s) {o : Obj} {vs : Array Value} (ho : s.heap.get? a = some o) (hd : o.data = .fields vs) : a ∉ c.L :: fas c.outer := fun h => by
  rcases List.mem_cons.mp h with rfl | h
  · obtain ⟨o', _, _, h1, h2, _⟩ := O.ns
    rw [ho] at h1; cases h1; rw [hd] at h2; cases h2
  · obtain ⟨e, he, hf⟩ := List.mem_filterMap.mp h
    obtain ⟨_, L, o', _, _, h2, h3, h4⟩ := O.ff e he
    rw [hf] at h2; cases h2; rw [ho] at h3; cases h3; rw [hd] at h4; cases h4
theorem Ok.loose (O : Ok G c st s) {s' : Shared}
    (k : ∀ a o, s.heap.get? a = some o → ¬ Off c st a ∨ a ∈ c.L :: fas c.outer → (a ∉ c.L :: fas c.outer → s'.heap.get? a = some o) ∧ ∃ sl, s'.heap.get? a = some { o with slots := sl })
    (hg : s'.gens = s.gens) (ho : s'.os = s.os) : Ok G c st s' where
  b := O.b
  ns := by
    obtain ⟨o, es, ep, h1, h2, h3⟩ := O.ns
    obtain ⟨_, sl, h⟩ := k _ _ h1 (.inr (.head _))
    exact ⟨_, es, ep, h, h2, h3⟩
  im := fun a o h => (k a o (O.im a o h) (.inl fun f => by rw [f.1] at h; cases h)).1 fun ha => by
    rcases List.mem_cons.mp ha with rfl | ha
    · have : st.I c.L = none := O.LI
      rw [h] at this; cases this
    · have : st.I a = none := (O.fI a ha).1
      rw [h] at this; cases this
  wr := fun p hp => (k _ _ (O.wr p hp) (.inl fun f => f.2.1 p hp rfl)).1 fun ha => by
    rcases List.mem_cons.mp ha with e | ha
    · exact O.LW p hp e
    · exact (O.fI _ ha).2 p hp rfl
  wI := O.wI
  nd := O.nd
  LI := O.LI
  LW := O.LW
  fI := O.fI
  ff := fun e he => by
    obtain ⟨h1, L, o, es, ep, h2, h3, h4⟩ := O.ff e he
    obtain ⟨_, sl, h⟩ := k _ _ h3 (.inr (.tail _ (List.mem_filterMap.mpr ⟨e, he, h2⟩)))
    exact ⟨h1, L, _, es, ep, h2, h, h4⟩
  keep := fun a o h n => (k a o (O.keep a o h n) (.inl fun f => by rw [f.2.2.1] at h; cases h)).1 fun ha => by
    rcases List.mem_cons.mp ha with rfl | ha
    · have : c.ext c.L = none := O.xL
      rw [h] at this; cases this
    · exact n ha
  keepf := fun a o h => by
    obtain ⟨sl, h'⟩ := O.keepf a o h
    obtain ⟨_, sl', h''⟩ := k a _ h' (.inl fun f => by rw [f.2.2.1] at h; cases h)
    exact ⟨sl', h''⟩
  xW := O.xW
  xL := O.xL
  sub := O.sub
  new := O.new
  gb := hg ▸ O.gb
  gk := hg ▸ O.gk
  os := ho.trans O.os
  fk := O.fk
  w0 := fun a ha e => by
    cases q : s.heap.get? a with
    | none => exact O.w0 a ha q
    | some o =>
      obtain ⟨_, sl, h⟩ := k a o q (.inl fun f => f.2.2.2 ha)
      rw [e] at h; cases h
  gl := O.gl
  bl := O.bl
inductive NwX (x : Ex) (h : Heap) : Prop
  | mk (oe : Obj) (vs : Array Value) (h1 : h.get? x.a = some oe) (h2 : oe.cls = x.cls) (h3 : oe.dict = x.dx) (h4 : oe.data = .fields vs) (h5 : vs[1]? = some .none ∧ vs[2]? = some x.cx) : NwX x h
noncomputable def NewX (c : Fm) (st : St) (x : Ex) (s : Shared) : Prop :=
  NwX x s.heap ∧ Off c st x.a
noncomputable def Tr (c : Fm) (st : St) (x : Ex) (fl : Value) (s : Shared) : Prop :=
  TrX x fl s.heap ∧ Off c st x.a ∧ Off c st x.tb
theorem size_free (h : Heap) : h.get? h.objs.size = none := by
  cases q : h.get? h.objs.size with
  | none => rfl
  | some o => exact absurd (Heap.lt_size q) (Nat.lt_irrefl _)
theorem off_fresh (O : Ok G c st s) {a : Addr} (h : s.heap.get? a = none) : Off c st a :=
  have n : st.I a = none := by
    cases q : st.I a with
    | none => rfl
    | some o =>
      have := O.im _ _ q
      rw [h] at this; cases this
  have w : ∀ p ∈ st.W, p.1 ≠ a := fun p hp e => by
    have := O.wr p hp
    rw [e, h] at this; cases this
  ⟨n, w, O.size_none a h, fun ha => O.w0 a ha h⟩
section exc
variable {A : Around} {E : VP}
theorem funFrames_of (O : Ok G c st s) : ∀ {l : List Env}, (∀ e ∈ l, e ∈ c.env :: c.outer) → s.heap.FunFrames {} l
  | [], _ => trivial
  | e :: r, h => by
    have hr := funFrames_of O fun x hx => h x (.tail _ hx)
    rcases List.mem_cons.mp (h e (.head _)) with rfl | he
    · obtain ⟨o, es, ep, h1, h2, _⟩ := O.ns
      exact ⟨by show c.fd.scope.kind ≠ .module; rw [O.fk]; decide, ⟨c.L, o, rfl, rfl, h1, fun vs q => by rw [h2] at q; cases q⟩, hr⟩
    · obtain ⟨h1, L, o, es, ep, h2, h3, h4⟩ := O.ff e he
      exact ⟨h1, ⟨L, o, h2, rfl, h3, fun vs q => by rw [h4] at q; cases q⟩, hr⟩
theorem r_entryF {x : Ex} {oe : Obj} {vs : Array Value} {head : Value} {hadNext : Bool} {env : Env} {rest : List Env} {L : Addr} {Q : Unit → Shared → Prop} (O : Ok G c st s) (hfr : A.frames = some (env :: rest)) (hff : s.heap.FunFrames {} (env :: rest)) (hL : env.frame = some L)
    (hsub : ∀ a ∈ (env :: rest).filterMap (·.frame), a ∈ c.L :: fas c.outer ∨ Off c st a) (hne : x.a ∉ (env :: rest).filterMap (·.frame))
    (he : s.heap.get? x.a = some oe) (h1 : oe.cls = x.cls) (h2 : oe.dict = x.dx) (hd : oe.data = .fields vs) (hsz : 1 < vs.size) (hcx : vs[2]? = some x.cx) (ho : Off c st x.a)
    (h : ∀ s' tb, Ok G c st s' → Tr c st { x with tb := tb } (rawInt L) s' → Q () s') :
    wpAny (model G.prog G.w) A (do let a ← frameOf env; let pl ← entryPlaceOf L hadNext; let b ← EntryCells.newEntry head a .none (rawInt L) .none pl; setField (.ref x.a) 1 b) Q E s := by
  have hne' := Off.ne_L O he hd
  refine wpAny_bind (wpAny_frameOf_fun hfr hff hL fun h₁ hs₁ => ?_)
  refine wpAny_bind (wpAny_entryPlaceOf fun pl hpl => ?_)
  unfold EntryCells.newEntry newFields
  refine wpAny_bind (wpAny_newObj_type ?_ (hpl.sizeOk5 _ _ _ _ _))
  have O₁ : Ok G c st { s with heap := h₁ } := O.loose (fun a o e f => ⟨fun n => (hs₁.2.1 a fun m => by
    rcases hsub a m with q | q
    · exact n q
    · exact f.elim (fun z => z q) n).trans e, hs₁.2.2 a o e⟩) rfl rfl
  have he₁ : h₁.get? x.a = some oe := (hs₁.2.1 _ hne).trans he
  have hf : h₁.get? h₁.objs.size = none := size_free h₁
  have O₂ := O₁.own (x := h₁.objs.size) (o := { cls := .type "traceback", dict := none, data := .fields ([head, .ref L, .none, rawInt L, .none] ++ (if pl.isEmpty then List.replicate 6 Value.none else pl)).toArray })
    (s' := { s with heap := h₁.push { cls := .type "traceback", dict := none, data := .fields ([head, .ref L, .none, rawInt L, .none] ++ (if pl.isEmpty then List.replicate 6 Value.none else pl)).toArray } })
    (fun a o e => Heap.get?_push_of_some _ e) hf (Heap.get?_push_size h₁ rfl) rfl rfl
  have he₂ := Heap.get?_push_of_some (h := h₁) { cls := .type "traceback", dict := none, data := .fields ([head, .ref L, .none, rawInt L, .none] ++ (if pl.isEmpty then List.replicate 6 Value.none else pl)).toArray } he₁
  refine wpAny_setField he₂ hd hsz ?_
  have hTe : h₁.objs.size ≠ x.a := Nat.ne_of_gt (Heap.lt_size he₁)
  have hd₃ := Obj.data_mapFields hd (·.setIfInBounds 1 (Value.ref h₁.objs.size))
  have he₃ := Heap.get?_update_self (Obj.mapFields (·.setIfInBounds 1 (Value.ref h₁.objs.size))) he₂ (Obj.isFreed_of_fields hd₃)
  have hT₃ := (Heap.get?_update_other (h₁.push { cls := .type "traceback", dict := none, data := .fields ([head, .ref L, .none, rawInt L, .none] ++ (if pl.isEmpty then List.replicate 6 Value.none else pl)).toArray })
    (Obj.mapFields (·.setIfInBounds 1 (Value.ref h₁.objs.size))) (Ne.symm hTe)).trans (Heap.get?_push_size h₁ rfl)
  have oT : Off c st h₁.objs.size := off_fresh O₁ hf
  refine h _ h₁.objs.size (O₁.loose (fun a o e f => ?_) rfl rfl) ⟨⟨_, _, _, _, he₃, (Obj.cls_mapFields _ _).trans h1, ?_, hd₃, ⟨by simp [hsz], by rw [Array.getElem?_setIfInBounds_ne (by decide)]; exact hcx⟩, hTe, hT₃, rfl, ?_⟩, ho, oT⟩
  · have na : a ≠ x.a := by
      rintro rfl
      rcases f with f | f
      · exact f ho
      · exact hne' f
    have := (Heap.get?_update_other (h₁.push { cls := .type "traceback", dict := none, data := .fields ([head, .ref L, .none, rawInt L, .none] ++ (if pl.isEmpty then List.replicate 6 Value.none else pl)).toArray })
      (Obj.mapFields (·.setIfInBounds 1 (Value.ref h₁.objs.size))) (Ne.symm na)).trans (Heap.get?_push_of_some _ e)
    exact ⟨fun _ => this, o.slots, this⟩
  · obtain ⟨a1, a2, a3, a4⟩ := oe; cases hd; exact h2
  · first | (simp; done) | (rcases hpl with rfl | ⟨_, _, _, _, _, _, _, rfl⟩ <;> simp)
theorem r_entry {x : Ex} {oe : Obj} {vs : Array Value} {head : Value} {hadNext : Bool} {Q : Unit → Shared → Prop} (O : Ok G c st s) (hfr : A.frames = some (c.env :: c.outer))
    (he : s.heap.get? x.a = some oe) (h1 : oe.cls = x.cls) (h2 : oe.dict = x.dx) (hd : oe.data = .fields vs) (hsz : 1 < vs.size) (hcx : vs[2]? = some x.cx) (ho : Off c st x.a)
    (h : ∀ s' tb, Ok G c st s' → Tr c st { x with tb := tb } (rawInt c.L) s' → Q () s') :
    wpAny (model G.prog G.w) A (do let a ← frameOf c.env; let pl ← entryPlaceOf c.L hadNext; let b ← EntryCells.newEntry head a .none (rawInt c.L) .none pl; setField (.ref x.a) 1 b) Q E s :=
  r_entryF O hfr (funFrames_of O fun _ h => h) rfl (fun _ h => .inl h) (Off.ne_L O he hd) he h1 h2 hd hsz hcx ho h
theorem tr_hand {x : Ex} {fl fl' : Value} (O : Ok G c st s) (T : Tr c st x fl s) :
    Ok G c st { s with heap := s.heap.update x.tb (Obj.mapFields (·.setIfInBounds 3 fl')) } ∧ Tr c st x fl' { s with heap := s.heap.update x.tb (Obj.mapFields (·.setIfInBounds 3 fl')) } := by
  obtain ⟨⟨oe, vs, oT, ts, h1, h2, h3, h4, h5, h6, h7, h8, h9⟩, o1, o2⟩ := T
  have hne := Off.ne_L O h7 h8
  have hz : 3 < ts.size := (Array.getElem?_eq_some_iff.mp h9).1
  refine ⟨O.loose (fun a o e f => ?_) rfl rfl, ⟨oe, vs, _, _, (Heap.get?_update_other _ _ h6).trans h1, h2, h3, h4, h5, h6, Heap.get?_update_self _ h7 (Obj.isFreed_of_fields (Obj.data_mapFields h8 _)), Obj.data_mapFields h8 _, by simp [hz]⟩, o1, o2⟩
  have na : x.tb ≠ a := by
    rintro rfl
    rcases f with f | f
    · exact f o2
    · exact hne f
  have := (Heap.get?_update_other s.heap (Obj.mapFields (·.setIfInBounds 3 fl')) na).trans e
  exact ⟨fun _ => this, o.slots, this⟩
theorem r_setFlight {x : Ex} {fl : Value} {fo : Option Addr} {Q : Unit → Shared → Prop} (O : Ok G c st s) (T : Tr c st x fl s)
    (h : ∀ s', Ok G c st s' → Tr c st x (fo.elim .none fun f => rawInt f) s' → Q () s') : wpAny (model G.prog G.w) A (setFlight (.ref x.a) fo) Q E s := by
  have K := tr_hand (fl' := fo.elim .none fun f => rawInt f) O T
  obtain ⟨⟨oe, vs, oT, ts, h1, h2, h3, h4, h5, h6, h7, h8, h9⟩, o1, o2⟩ := T
  unfold setFlight
  refine wpAny_bind (wpAny_field h1 h4 h5.1 ?_)
  rw [if_pos (show (Value.ref x.tb != Value.none) = true from by simp)]
  exact wpAny_setField h7 h8 (Array.getElem?_eq_some_iff.mp h9).1 (h _ K.1 K.2)
noncomputable def InX (c : Fm) (st : St) (x : Ex) (s : Shared) : Prop := NewX c st x s ∨ Tr c st x .none s ∨ Tr c st x (rawInt c.L) s
theorem r_note {x : Ex} {Q : Unit → Shared → Prop} (O : Ok G c st s) (hfr : A.frames = some (c.env :: c.outer)) (X : InX c st x s)
    (h : ∀ s' tb, Ok G c st s' → Tr c st { x with tb := tb } (rawInt c.L) s' → Q () s') : wpAny (model G.prog G.w) A (noteFrame (.ref x.a) c.env) Q E s := by
  have hf : c.env.frame = some c.L := rfl
  unfold noteFrame
  simp only [hf]
  rcases X with ⟨⟨oe, vs, h1, h2, h3, h4, h5⟩, o1⟩ | X | X
  · refine wpAny_bind (wpAny_field h1 h4 h5.1 ?_)
    rw [if_neg (by decide)]
    exact r_entry O hfr h1 h2 h3 h4 (Array.getElem?_eq_some_iff.mp h5.1).1 h5.2 o1 h
  · have K := tr_hand (fl' := .none) O X
    obtain ⟨⟨oe, vs, oT, ts, h1, h2, h3, h4, h5, h6, h7, h8, h9⟩, o1, o2⟩ := X
    refine wpAny_bind (wpAny_field h1 h4 h5.1 ?_)
    rw [if_pos (show (Value.ref x.tb != Value.none) = true from by simp)]
    refine wpAny_bind (wpAny_field h7 h8 h9 ?_)
    rw [if_neg (show ¬ ((Value.none == rawInt c.L) = true) from by simp [rawInt])]
    refine wpAny_bind (wpAny_setField h7 h8 (Array.getElem?_eq_some_iff.mp h9).1 ?_)
    obtain ⟨O', ⟨⟨oe', vs', oT', ts', k1, k2, k3, k4, k5, k6, k7, k8, k9⟩, p1, p2⟩⟩ := K
    exact r_entry O' hfr k1 k2 k3 k4 (Array.getElem?_eq_some_iff.mp k5.1).1 k5.2 p1 h
  · have X' := X
    obtain ⟨⟨oe, vs, oT, ts, h1, h2, h3, h4, h5, h6, h7, h8, h9⟩, o1, o2⟩ := X
    refine wpAny_bind (wpAny_field h1 h4 h5.1 ?_)
    rw [if_pos (show (Value.ref x.tb != Value.none) = true from by simp)]
    refine wpAny_bind (wpAny_field h7 h8 h9 ?_)
    rw [if_pos (show (rawInt c.L == rawInt c.L) = true from by simp)]
    exact wpAny_pure (h s x.tb O X')
theorem r_leaving {x : Ex} {Q : Unit → Shared → Prop} (O : Ok G c st s) (hfr : A.frames = some (c.env :: c.outer)) (X : InX c st x s)
    (h : ∀ s' tb, Ok G c st s' → Tr c st { x with tb := tb } .none s' → Q () s') : wpAny (model G.prog G.w) A (leaving c.env (.ref x.a)) Q E s := by
  unfold leaving
  refine wpAny_bind (r_note O hfr X fun s' tb O' T' => ?_)
  exact r_setFlight (x := { x with tb := tb }) O' T' fun s'' O'' T'' => h s'' tb O'' T''
theorem r_leavingG {x : Ex} {cenv : Env} {C : Addr} {oC : Obj} {Q : Unit → Shared → Prop} (O : Ok G c st s) (hfr : A.frames = some (cenv :: c.env :: c.outer)) (hf : cenv.frame = some C) (hk : cenv.scope.kind ≠ .module)
    (hC : s.heap.get? C = some oC) (hd : ∀ vs, oC.data ≠ .fields vs) (ho : Off c st C) (T : Tr c st x .none s)
    (h : ∀ s' tb, Ok G c st s' → Tr c st { x with tb := tb } .none s' → Q () s') : wpAny (model G.prog G.w) A (leaving cenv (.ref x.a)) Q E s := by
  unfold leaving
  refine wpAny_bind ?_
  have K := tr_hand (fl' := .none) O T
  obtain ⟨⟨oe, vs, oT, ts, h1, h2, h3, h4, h5, h6, h7, h8, h9⟩, o1, o2⟩ := T
  unfold noteFrame
  simp only [hf]
  refine wpAny_bind (wpAny_field h1 h4 h5.1 ?_)
  rw [if_pos (show (Value.ref x.tb != Value.none) = true from by simp)]
  refine wpAny_bind (wpAny_field h7 h8 h9 ?_)
  rw [if_neg (show ¬ ((Value.none == rawInt C) = true) from by simp [rawInt])]
  refine wpAny_bind (wpAny_setField h7 h8 (Array.getElem?_eq_some_iff.mp h9).1 ?_)
  obtain ⟨O', ⟨⟨oe', vs', oT', ts', k1, k2, k3, k4, k5, k6, k7, k8, k9⟩, p1, p2⟩⟩ := K
  have n1 : x.tb ≠ C := fun q => by rw [q, hC] at h7; cases h7; exact hd _ h8
  have hC' := (Heap.get?_update_other s.heap (Obj.mapFields (·.setIfInBounds 3 .none)) n1).trans hC
  have ff : Heap.FunFrames (s.heap.update x.tb (Obj.mapFields (·.setIfInBounds 3 .none))) {} (cenv :: c.env :: c.outer) := ⟨hk, ⟨C, oC, hf, rfl, hC', hd⟩, funFrames_of O' fun _ h => h⟩
  have e1 : (cenv :: c.env :: c.outer).filterMap (·.frame) = C :: c.L :: fas c.outer := by rw [List.filterMap_cons, hf]; rfl
  refine r_entryF O' hfr ff hf (fun a ha => ?_) (fun ha => ?_) k1 k2 k3 k4 (Array.getElem?_eq_some_iff.mp k5.1).1 k5.2 p1 fun s2 tb O2 T2 => ?_
  · rw [e1] at ha
    rcases List.mem_cons.mp ha with rfl | ha
    · exact .inr ho
    · exact .inl ha
  · rw [e1] at ha
    rcases List.mem_cons.mp ha with q | ha
    · rw [q, hC] at h1; cases h1; exact hd _ h4
    · exact Off.ne_L O h1 h4 ha
  · exact r_setFlight (x := { x with tb := tb }) (fo := none) O2 T2 fun s3 O3 T3 => h s3 tb O3 T3
end exc
inductive EndX (G : Base) (c : Fm) (E : Ex → Hp → Ws → Prop) (e : Value) (s' : Shared) : Prop
  | mk (x : Ex) (m' : Mp) (I' : Hp) (W' : Ws) (h1 : e = .ref x.a) (h2 : Ok G c ⟨m', I', W'⟩ s') (h3 : InX c ⟨m', I', W'⟩ x s') (h4 : ∀ tb, E { x with tb := tb } I' W') : EndX G c E e s'
noncomputable def flv : Flow → Value
  | .ret v => v
  | _ => .none
inductive EndQ (G : Base) (c : Fm) (Q : Value → Hp → Ws → Prop) (fl : Flow) (s' : Shared) : Prop
  | mk (m' : Mp) (I' : Hp) (W' : Ws) (h1 : Ok G c ⟨m', I', W'⟩ s') (h2 : Q (flv fl) I' W') : EndQ G c Q fl s'
noncomputable abbrev fmOf (fd : FuncData) (a : Addr) (fr : List Env) (s : Shared) (I : Hp) (W : Ws) : Fm :=
  { fd := fd, L := s.heap.objs.size, fa := a, outer := fr, ext := fun b => if b ∈ W.map Prod.fst then none else s.heap.get? b, I0 := I, W0 := W.map Prod.fst, os := s.os, gs := s.gens }
theorem fm_some {fd : FuncData} {a : Addr} {fr : List Env} {s : Shared} {I : Hp} {W : Ws} {b : Addr} {o : Obj} (e : (fmOf fd a fr s I W).ext b = some o) : b ∉ W.map Prod.fst ∧ s.heap.get? b = some o := by
  have e : (if b ∈ W.map Prod.fst then none else s.heap.get? b) = some o := e
  by_cases q : b ∈ W.map Prod.fst
  · rw [if_pos q] at e; cases e
  · rw [if_neg q] at e; exact ⟨q, e⟩
theorem fm_none {fd : FuncData} {a : Addr} {fr : List Env} {s : Shared} {I : Hp} {W : Ws} {b : Addr} (e : (fmOf fd a fr s I W).ext b = none) : b ∈ W.map Prod.fst ∨ s.heap.get? b = none := by
  have e : (if b ∈ W.map Prod.fst then none else s.heap.get? b) = none := e
  by_cases q : b ∈ W.map Prod.fst
  · exact .inl q
  · rw [if_neg q] at e; exact .inr e
theorem fm_old {fd : FuncData} {a : Addr} {fr : List Env} {s : Shared} {I : Hp} {W : Ws} {b : Addr} {o : Obj} (e : s.heap.get? b = some o) (n : ∀ p ∈ W, p.1 ≠ b) : (fmOf fd a fr s I W).ext b = some o := by
  show (if b ∈ W.map Prod.fst then none else s.heap.get? b) = some o
  rw [if_neg fun hm => (by obtain ⟨p, hp, q⟩ := List.mem_map.mp hm; exact n p hp q)]; exact e
theorem enter_ok {fd : FuncData} {a : Addr} {fr : List Env} {s : Shared} {I : Hp} {W : Ws} {m : Mp} {h₀ : Heap} {k : Nat} (P : Pre G fr I W s) (hns : h₀.Ns s.heap.objs.size m) (hk₀ : ∀ b o, s.heap.get? b = some o → h₀.get? b = some o)
    (hk : fd.scope.kind = .function) (hgl : fd.globals = mainGlobals) (hbl : fd.builtins = builtinsNs) : Ok G (fmOf fd a fr s I W) ⟨m, I, W⟩ { s with heap := h₀, toks := k } :=
  have hL : s.heap.get? s.heap.objs.size = none := size_free s.heap
  { b := P.b, ns := hns, im := fun a o e => hk₀ _ _ (P.im a o e), wr := fun p hp => hk₀ _ _ (P.wr p hp), wI := P.wI, nd := P.nd
    LI := by
      cases q : I s.heap.objs.size with
      | none => exact q
      | some o => have := P.im _ _ q; rw [hL] at this; cases this
    LW := fun p hp e => by have := P.wr p hp; rw [e] at this; rw [hL] at this; cases this
    fI := P.fI
    ff := fun e he => by obtain ⟨h1, L, o, es, ep, h2, h3, h4⟩ := P.ff e he; exact ⟨h1, L, o, es, ep, h2, hk₀ _ _ h3, h4⟩
    keep := fun a o e _ => hk₀ _ _ (fm_some e).2
    keepf := fun a o e => ⟨o.slots, hk₀ _ _ (fm_some e).2⟩
    xW := fun p hp => if_pos (List.mem_map.mpr ⟨p, hp, rfl⟩)
    xL := by
      show (if s.heap.objs.size ∈ W.map Prod.fst then none else s.heap.get? s.heap.objs.size) = none
      rw [hL]; split <;> rfl
    sub := fun _ _ e => e
    new := fun _ _ e => .inl e
    gb := P.gb, gk := fun _ _ => rfl, os := rfl, fk := hk, gl := hgl, bl := hbl
    w0 := fun a ha e => by
      obtain ⟨p, hp, rfl⟩ := List.mem_map.mp ha
      have := hk₀ _ _ (P.wr p hp)
      rw [e] at this; cases this }
theorem enter_ret {fd : FuncData} {a : Addr} {fr : List Env} {s s' : Shared} {I I' : Hp} {W W' : Ws} {m' : Mp} (O' : Ok G (fmOf fd a fr s I W) ⟨m', I', W'⟩ s') : Ret fr I W s I' W' s' :=
  { sub := O'.sub, im := O'.im, wr := O'.wr, wI := O'.wI, nd := O'.nd
    keep := fun a o e n f => O'.keep a o (fm_old e n) f
    keepf := fun a o e n => O'.keepf a o (fm_old e n)
    newI := fun a o e => by
      rcases O'.new a o e with h | h
      · exact .inl h
      · rcases fm_none h with h | h
        · obtain ⟨p, hp, q⟩ := List.mem_map.mp h; exact .inr (.inr ⟨p, hp, q⟩)
        · exact .inr (.inl h)
    newW := fun p hp => by
      rcases fm_none (O'.xW p hp) with h | h
      · obtain ⟨q, hq, e⟩ := List.mem_map.mp h; exact .inr ⟨q, hq, e⟩
      · exact .inl h
    gb := O'.gb, gk := O'.gk, os := O'.os
    al := fun p hp => O'.w0 _ (List.mem_map.mpr ⟨p, hp, rfl⟩) }
theorem enter_fresh {fd : FuncData} {a : Addr} {fr : List Env} {s : Shared} {I I' : Hp} {W W' : Ws} {m' : Mp} {b : Addr} (f : Off (fmOf fd a fr s I W) ⟨m', I', W'⟩ b) : s.heap.get? b = none := by
  rcases fm_none f.2.2.1 with h | h
  · exact absurd h f.2.2.2
  · exact h
theorem enter_bud {fd : FuncData} {a : Addr} {fr : List Env} {s : Shared} {I : Hp} {W : Ws} {A : Around} {hd : Option Value} {d u : Nat} (B : Bud A hd fr (d + 1) (u + 3)) : Bud (A.deeper (fmOf fd a fr s I W).env) hd ((fmOf fd a fr s I W).env :: fr) d u :=
  ⟨B.h, by show A.frames.map (_ :: ·) = _; rw [B.f]; rfl, by show A.depth + 1 + d < _; have := B.d; omega, by show A.units + 3 + u < _; have := B.u; omega⟩
theorem enter_x {fd : FuncData} {a : Addr} {fr : List Env} {s s' : Shared} {I : Hp} {W : Ws} {A : Around} {hd : Option Value} {d u : Nat} {E : Ex → Hp → Ws → Prop} {e : Value} {E2 : VP} (B : Bud A hd fr (d + 1) (u + 3)) (he : EndX G (fmOf fd a fr s I W) E e s') :
    wpAny (model G.prog G.w) (A.deeper (fmOf fd a fr s I W).env) (leaving (fmOf fd a fr s I W).env e) (fun _ s' => ∃ x I' W', Ret fr I W s I' W' s' ∧ e = .ref x.a ∧ (s.heap.get? x.a = none ∧ s.heap.get? x.tb = none) ∧ Flies I' W' x s' ∧ E x I' W') E2 s' := by
  obtain ⟨x, m', I', W', e', O', X, he⟩ := he
  subst e'
  exact r_leaving (c := fmOf fd a fr s I W) (A := A.deeper (fmOf fd a fr s I W).env) (st := ⟨m', I', W'⟩) O' (enter_bud B).f X fun s'' tb O'' T =>
    ⟨{ x with tb := tb }, I', W', enter_ret O'', rfl, ⟨enter_fresh T.2.1, enter_fresh T.2.2⟩, ⟨T.1, ⟨T.2.1.1, T.2.2.1⟩, fun p hp => ⟨T.2.1.2.1 p hp, T.2.2.2.1 p hp⟩⟩, he tb⟩
theorem enter {a : Addr} {o : Obj} {fd : FuncData} {body : List Stmt} {args : List Value} {binds : List (Str × Value)} {hd : Option Value} {d u : Nat} {I : Hp} {W : Ws} {Q : Value → Hp → Ws → Prop} {E : Ex → Hp → Ws → Prop}
    (hI : (∀ a o, G.B0.get? a = some o → I a = some o) → I a = some o) (ho : o.data = .func fd) (hb : fd.body = .stmts body)
    (hcd : G.B0.CodeRec fd.code fd.qualname) (hbind : ∀ s : Shared, (∀ a o, G.B0.get? a = some o → s.heap.get? a = some o) → BindsTo s fd ⟨args, []⟩ binds)
    (hcell : ∀ x ∈ fd.scope.names, x.2 ≠ .cell) (hloc : ∀ x ∈ binds, fd.scope.names.lookup x.1 = some .local)
    (hco : fd.scope.isCoroutine = false) (hgen : fd.scope.isGenerator = false) (hk : fd.scope.kind = .function) (hgl : fd.globals = mainGlobals) (hbl : fd.builtins = builtinsNs)
    (h : ∀ (c : Fm) (A : Around) (s₁ : Shared), c.fd = fd → c.fa = a → Ok G c ⟨fun x => binds.reverse.lookup x, I, W⟩ s₁ → Bud A hd (c.env :: c.outer) d u →
      wpAny (model G.prog G.w) A (execs body c.env) (EndQ G c Q) (EndX G c E) s₁) :
    Cl G (.ref a) args hd (d + 1) (u + 3) I W Q E := by
  intro A fr s B P
  have kB : ∀ a o, G.B0.get? a = some o → s.heap.get? a = some o := fun a o e => P.im _ _ (P.b _ _ e)
  refine wpAny_call (codeAny_call_def (by have := B.d; lia) (P.im _ _ (hI P.b)) ho (G.T.nolimit.keeps kB) (hcd.keeps kB) hb (hbind s kB) hcell hloc (fun h₀ hns hk₀ => ?_) hco hgen hk)
  refine wpAny_mono (h (fmOf fd a fr s I W) _ _ rfl rfl (enter_ok P hns hk₀ hk hgl hbl) (enter_bud B)) (fun fl s' he => ?_) fun e s' he => enter_x B he
  obtain ⟨m', I', W', O', hq⟩ := he
  refine ⟨I', W', enter_ret O', ?_⟩
  cases fl <;> exact hq
noncomputable abbrev NQ (M : Model) (A : Around) (rest : List Stmt) (env : Env) (Q : Flow → Shared → Prop) (E : VP) : Flow → Shared → Prop := fun f s' => match f with | .next => wpAny M A (execs rest env) Q E s' | f => Q f s'
theorem e_cons {M : Model} {A : Around} {st : Stmt} {rest : List Stmt} {env : Env} {Q : Flow → Shared → Prop} {E : VP} {s : Shared} (h : wpAny M A (exec st env) (NQ M A rest env Q E) E s) : wpAny M A (execs (st :: rest) env) Q E s := wpAny_execs_cons h
noncomputable abbrev stOf {G : Base} {c : Fm} {st : St} {s : Shared} (_ : Ok G c st s) : St := st
end
section
variable {G : Base} {c : Fm} {st : St} {s : Shared} {A : Around} {E : VP}
inductive ESt (G : Base) (c : Fm) (E : Ex → St → Prop) (e : Value) (s' : Shared) : Prop
  | mk (x : Ex) (st' : St) (h1 : e = .ref x.a) (h2 : Ok G c st' s') (h3 : InX c st' x s') (h4 : ∀ tb, E { x with tb := tb } st') : ESt G c E e s'
noncomputable abbrev NoE : Ex → St → Prop := fun _ _ => False
theorem ESt.noted {E₁ : Ex → St → Prop} (hfr : A.frames = some (c.env :: c.outer)) {e : Value} {s' : Shared} (h : ESt G c E₁ e s') :
    notedBy (model G.prog G.w) A c.env (cameBackBy (model G.prog G.w) A c.env (ESt G c E₁)) e s' := by
  obtain ⟨x, st', rfl, O, X, he⟩ := h
  refine r_note O hfr X fun s'' tb O' T => ?_
  unfold cameBackBy
  have T' := T
  obtain ⟨⟨oe, vs, oT, ts, h1, h2, h3, h4, h5, h6, h7, h8, h9⟩, o1, o2⟩ := T'
  refine wpAny_bind (wpAny_field h1 h4 h5.1 ?_)
  rw [if_neg (show ¬ (Value.ref tb == Value.none) = true from by simp)]
  exact r_setFlight (x := { x with tb := tb }) (fo := some c.L) O' T fun s3 O3 T3 => ⟨{ x with tb := tb }, st', rfl, O3, .inr (.inr T3), fun tb' => he tb'⟩
theorem Ok.perm {W' : Ws} {m : Mp} {I : Hp} {W : Ws} (O : Ok G c ⟨m, I, W⟩ s) (hp : W'.Perm W) : Ok G c ⟨m, I, W'⟩ s :=
  { O with
    wr := fun p h => O.wr p (hp.mem_iff.mp h)
    wI := fun p h => O.wI p (hp.mem_iff.mp h)
    nd := (hp.map Prod.fst).nodup_iff.mpr O.nd
    LW := fun p h => O.LW p (hp.mem_iff.mp h)
    fI := fun a ha => ⟨(O.fI a ha).1, fun p h => (O.fI a ha).2 p (hp.mem_iff.mp h)⟩
    xW := fun p h => O.xW p (hp.mem_iff.mp h) }
theorem Ok.drop {m : Mp} {I : Hp} {W W1 : Ws} (O : Ok G c ⟨m, I, W1 ++ W⟩ s) : Ok G c ⟨m, I, W⟩ s :=
  { O with
    wr := fun p h => O.wr p (List.mem_append_right _ h)
    wI := fun p h => O.wI p (List.mem_append_right _ h)
    nd := by
      have := O.nd
      simp only [List.map_append, List.nodup_append] at this
      exact this.2.1
    LW := fun p h => O.LW p (List.mem_append_right _ h)
    fI := fun a ha => ⟨(O.fI a ha).1, fun p h => (O.fI a ha).2 p (List.mem_append_right _ h)⟩
    xW := fun p h => O.xW p (List.mem_append_right _ h) }
@[reducible] noncomputable def Fm.re (c : Fm) (I : Hp) : Fm := { c with I0 := I }
theorem Ok.re (O : Ok G c st s) : Ok G (c.re st.I) st s :=
  { O with sub := fun _ _ h => h, new := fun _ _ h => .inl h, ff := O.ff }
theorem Ok.unre {I : Hp} {st' : St} {s' : Shared} (O : Ok G c st s) (hI : I = st.I) (O' : Ok G (c.re I) st' s') : Ok G c st' s' := by
  subst hI
  exact { O' with
    sub := fun a o h => O'.sub a o (O.sub a o h)
    new := fun a o h => (O'.new a o h).elim (fun h => O.new a o h) .inr
    ff := O'.ff }
inductive LoopI (G : Base) (c : Fm) (n : Nat) (wr : List Addr) (Sx : Nat → Heap → Prop) (J : Nat → St → Prop) (k : Nat) (s' : Shared) : Prop
  | mk (i : Nat) (st' : St) (Wi' : Ws) (h1 : k = n + 1 - i) (h2 : i ≤ n) (h3 : Sx i s'.heap) (h4 : J i st') (h5 : Wi'.map Prod.fst = wr) (h6 : Ok G c ⟨st'.m, st'.I, Wi' ++ st'.W⟩ s') : LoopI G c n wr Sx J k s'
theorem loop_core {x : Str} {px : Pos} {it : Addr} {fp wr : List Addr} {n : Nat} {P : Nat → Value → Prop} {Sx : Nat → Heap → Prop} {Wi : Ws} {W0 : Ws} {m : Mp} {I : Hp} {R : Result → Shared → Prop} {E₁ : Ex → St → Prop} {B : (Flow → Shared → Prop) → (Value → Shared → Prop) → Shared → Prop}
    (hB : ∀ Q Q' E E' s, B Q E s → (∀ f s, Q f s → Q' f s) → (∀ e s, E e s → E' e s) → B Q' E' s)
    (J : Nat → St → Prop) (Wk : Walks G.prog G.w A it fp wr n P Sx) (hlive : ∀ i h, Sx i h → ∀ b ∈ wr, ∃ o, h.get? b = some o)
    (hx : c.env.kindOf x = some .local) (hfr : A.frames = some (c.env :: c.outer))
    (O : Ok G c ⟨m, I, Wi ++ W0⟩ s) (hWi : Wi.map Prod.fst = wr) (hw0 : ∀ b ∈ wr, b ∉ c.W0) (hfp : ∀ b ∈ fp, b ∉ wr → ∃ o, I b = some o) (h0 : Sx 0 s.heap) (j0 : J 0 ⟨m, I, W0⟩)
    (turn : ∀ i v st' Wi' s', i < n → P i v → J i st' → Ok G (c.re I) ⟨ov [(x, v)] st'.m, st'.I, Wi' ++ st'.W⟩ s' →
      B (fun f s3 => match f with
        | .next | .cont => ∃ st3, J (i + 1) st3 ∧ Ok G (c.re I) ⟨st3.m, st3.I, Wi' ++ st3.W⟩ s3
        | .brk => R (.ok .next) s3
        | .ret v => R (.ok (.ret v)) s3) (ESt G (c.re I) E₁) s')
    (done : ∀ st' s', J n st' → Ok G (c.re I) st' s' → R (.ok .next) s')
    (hE : ∀ e s', ESt G (c.re I) E₁ e s' → notedBy (model G.prog G.w) A c.env (fun e s' => R (.error e) s') e s') :
    ∃ (Iv : Nat → Shared → Prop) (k : Nat), Iv k s ∧ ∀ n s, Iv n s → wpAny (model G.prog G.w) A (pyNext (.ref it)) (fun r s₁ => match r with
      | none => wpAny (model G.prog G.w) A (execs [] c.env) (fun f s₃ => R (.ok f) s₃) (notedBy (model G.prog G.w) A c.env fun e s' => R (.error e) s') s₁
      | some v => wpAny (model G.prog G.w) A (assign (.Name x px) c.env v) (fun _ s₂ => B (fun f s₃ => match f with
          | .next | .cont => ∃ m, m < n ∧ Iv m s₃
          | .brk => R (.ok .next) s₃
          | .ret v => R (.ok (.ret v)) s₃) (notedBy (model G.prog G.w) A c.env fun e s' => R (.error e) s') s₂) (notedBy (model G.prog G.w) A c.env fun e s' => R (.error e) s') s₁) (notedBy (model G.prog G.w) A c.env fun e s' => R (.error e) s') s := by
  have key : ∀ (i : Nat) (st' : St) (Wi' : Ws) (s' s'' : Shared), Ok G (c.re I) ⟨st'.m, st'.I, Wi' ++ st'.W⟩ s' → Wi'.map Prod.fst = wr → Sx i s''.heap → (∀ b o, b ∉ wr → s'.heap.get? b = some o → s''.heap.get? b = some o) → s''.gens = s'.gens → s''.os = s'.os →
      ∃ Wi'', Wi''.map Prod.fst = wr ∧ Ok G (c.re I) ⟨st'.m, st'.I, Wi'' ++ st'.W⟩ s'' := by
    intro i st' Wi' s' s'' O' hw hs hk hg ho
    refine ⟨wr.map fun b => (b, (s''.heap.get? b).getD default), ?_, ?_⟩
    · rw [List.map_map]; exact List.map_id' _
    have inW : ∀ b ∈ wr, ∃ p ∈ Wi' ++ st'.W, p.1 = b := fun b hb => by
      rw [← hw] at hb
      obtain ⟨p, hp, e⟩ := List.mem_map.mp hb
      exact ⟨p, List.mem_append_left _ hp, e⟩
    have notI : ∀ a o, st'.I a = some o → a ∉ wr := fun a o h hm => by
      obtain ⟨p, hp, rfl⟩ := inW a hm
      have : st'.I p.1 = none := O'.wI p hp
      rw [h] at this; cases this
    have notX : ∀ a o, c.ext a = some o → a ∉ wr := fun a o h hm => by
      obtain ⟨p, hp, rfl⟩ := inW a hm
      have : c.ext p.1 = none := O'.xW p hp
      rw [h] at this; cases this
    have notL : c.L ∉ wr := fun hm => by
      obtain ⟨p, hp, e⟩ := inW _ hm
      exact O'.LW p hp e
    have notF : ∀ a ∈ fas c.outer, a ∉ wr := fun a ha hm => by
      obtain ⟨p, hp, e⟩ := inW a hm
      exact (O'.fI a ha).2 p hp e
    have nd := O'.nd
    simp only [List.map_append, List.nodup_append, hw] at nd
    have sub : ∀ p ∈ (wr.map fun b => (b, (s''.heap.get? b).getD default)) ++ st'.W, (p.1 ∈ wr ∧ s''.heap.get? p.1 = some p.2) ∨ (p ∈ st'.W ∧ p.1 ∉ wr) := fun p hp => by
      rcases List.mem_append.mp hp with h | h
      · obtain ⟨b, hb, rfl⟩ := List.mem_map.mp h
        obtain ⟨o, ho⟩ := hlive i _ hs b hb
        exact .inl ⟨hb, by rw [ho]; rfl⟩
      · exact .inr ⟨h, fun hm => nd.2.2 _ hm _ (List.mem_map.mpr ⟨p, h, rfl⟩) rfl⟩
    have adr : ∀ p ∈ (wr.map fun b => (b, (s''.heap.get? b).getD default)) ++ st'.W, ∃ q ∈ Wi' ++ st'.W, q.1 = p.1 := fun p hp => by
      rcases sub p hp with h | h
      · exact inW _ h.1
      · exact ⟨p, List.mem_append_right _ h.1, rfl⟩
    exact
    { b := O'.b
      ns := O'.ns.at' fun o e => hk _ _ notL e
      im := fun a o h => hk _ _ (notI a o h) (O'.im a o h)
      wr := fun p hp => by
        rcases sub p hp with h | h
        · exact h.2
        · exact hk _ _ h.2 (O'.wr p (List.mem_append_right _ h.1))
      wI := fun p hp => by obtain ⟨q, hq, e⟩ := adr p hp; exact e ▸ O'.wI q hq
      nd := by
        simp only [List.map_append, List.map_map, List.nodup_append]
        rw [show (wr.map (Prod.fst ∘ fun b => (b, (s''.heap.get? b).getD default))) = wr from List.map_id' _]
        exact nd
      LI := O'.LI
      LW := fun p hp => by obtain ⟨q, hq, e⟩ := adr p hp; exact e ▸ O'.LW q hq
      fI := fun a ha => ⟨(O'.fI a ha).1, fun p hp => by obtain ⟨q, hq, e⟩ := adr p hp; exact e ▸ (O'.fI a ha).2 q hq⟩
      ff := fun e he => by
        obtain ⟨h1, L, o, es, ep, h2, h3, h4⟩ := O'.ff e he
        exact ⟨h1, L, o, es, ep, h2, hk _ _ (notF L (List.mem_filterMap.mpr ⟨e, he, h2⟩)) h3, h4⟩
      keep := fun a o h n => hk _ _ (notX a o h) (O'.keep a o h n)
      keepf := fun a o h => by
        obtain ⟨sl, e⟩ := O'.keepf a o h
        exact ⟨sl, hk _ _ (notX a o h) e⟩
      xW := fun p hp => by obtain ⟨q, hq, e⟩ := adr p hp; exact e ▸ O'.xW q hq
      xL := O'.xL
      sub := O'.sub
      new := O'.new
      gb := hg ▸ O'.gb
      gk := hg ▸ O'.gk
      os := ho.trans O'.os
      fk := O'.fk
      w0 := fun a ha e => by
        by_cases q : a ∈ wr
        · obtain ⟨o, ho⟩ := hlive i _ hs a q
          rw [ho] at e; cases e
        · cases z : s'.heap.get? a with
          | none => exact O'.w0 a ha z
          | some o => rw [hk _ _ q z] at e; cases e
      gl := O'.gl
      bl := O'.bl }
  refine ⟨LoopI G (c.re I) n wr Sx J, n + 1,
    ⟨0, ⟨m, I, W0⟩, Wi, rfl, Nat.zero_le _, h0, j0, hWi, O.re⟩, ?_⟩
  rintro k s' ⟨i, st', Wi', rfl, hi, hs, hj, hw, O'⟩
  by_cases hlt : i < n
  · refine Wk.item i _ _ _ hlt hs fun v h₁ tk₁ hP hs₁ hk₁ => ?_
    obtain ⟨Wi'', hw'', O₁⟩ := key (i + 1) st' Wi' s' { s' with heap := h₁, toks := tk₁ } O' hw hs₁ hk₁ rfl rfl
    refine wpAny_assign_Name (r_store (c := c.re I) (l := []) (m := st'.m) O₁ hx fun s₂ O₂ => ?_)
    refine hB _ _ _ _ _ (turn i v st' Wi'' s₂ hlt hP hj O₂) (fun f s3 hf => ?_) hE
    have fin : (∃ st3, J (i + 1) st3 ∧ Ok G (c.re I) ⟨st3.m, st3.I, Wi'' ++ st3.W⟩ s3) → ∃ m, m < n + 1 - i ∧ LoopI G (c.re I) n wr Sx J m s3 := by
      rintro ⟨st3, hj3, O3⟩
      refine ⟨n + 1 - (i + 1), Nat.sub_lt_sub_left (Nat.lt_succ_of_lt hlt) (Nat.lt_succ_self i), i + 1, st3, Wi'', rfl, hlt, ?_, hj3, hw'', O3⟩
      refine Wk.frame _ _ _ hs₁ fun b hb o e => ?_
      by_cases q : b ∈ wr
      · rw [← hw''] at q
        obtain ⟨p, hp, rfl⟩ := List.mem_map.mp q
        have e1 := O₁.wr p (List.mem_append_left _ hp)
        have e3 := O3.wr p (List.mem_append_left _ hp)
        have : h₁.get? p.1 = some p.2 := e1
        rw [e] at this; cases this; exact e3
      · obtain ⟨o', ho'⟩ := hfp b hb q
        have e1 : h₁.get? b = some o' := O₁.im _ _ (O₁.sub _ _ ho')
        rw [e] at e1; cases e1
        exact O3.im _ _ (O3.sub _ _ ho')
    cases f with
    | next => exact fin hf
    | cont => exact fin hf
    | brk => exact hf
    | ret v => exact hf
  · have hin : i = n := Nat.le_antisymm hi (Nat.le_of_not_lt hlt)
    subst hin
    refine Wk.done _ _ _ hs fun h₁ tk₁ hk₁ => wpAny_execs_nil ?_
    have inW : ∀ b ∈ wr, ∃ p ∈ Wi' ++ st'.W, p.1 = b := fun b hb => by
      rw [← hw] at hb
      obtain ⟨p, hp, e⟩ := List.mem_map.mp hb
      exact ⟨p, List.mem_append_left _ hp, e⟩
    have nd := O'.nd
    simp only [List.map_append, List.nodup_append, hw] at nd
    refine done st' { s' with heap := h₁, toks := tk₁ } hj ?_
    have Od := O'.drop
    have no : ∀ a, (∃ p ∈ wr, p = a) → (∀ o, st'.I a ≠ some o) ∧ (∀ o, c.ext a ≠ some o) ∧ a ≠ c.L ∧ a ∉ fas c.outer := fun a ⟨b, hb, e⟩ => by
      subst e
      obtain ⟨p, hp, rfl⟩ := inW b hb
      refine ⟨fun o h => ?_, fun o h => ?_, O'.LW p hp, fun h => (O'.fI _ h).2 p hp rfl⟩
      · have : st'.I p.1 = none := O'.wI p hp
        rw [h] at this; cases this
      · have : c.ext p.1 = none := O'.xW p hp
        rw [h] at this; cases this
    exact { Od with
      ns := Od.ns.at' fun o e => hk₁ _ _ (fun hm => (no _ ⟨_, hm, rfl⟩).2.2.1 rfl) e
      im := fun a o h => hk₁ _ _ (fun hm => (no _ ⟨_, hm, rfl⟩).1 o h) (Od.im a o h)
      wr := fun p hp => hk₁ _ _ (fun hm => nd.2.2 _ hm _ (List.mem_map.mpr ⟨p, hp, rfl⟩) rfl) (Od.wr p hp)
      ff := fun e he => by
        obtain ⟨h1, L, o, es, ep, h2, h3, h4⟩ := Od.ff e he
        exact ⟨h1, L, o, es, ep, h2, hk₁ _ _ (fun hm => (no _ ⟨_, hm, rfl⟩).2.2.2 (List.mem_filterMap.mpr ⟨e, he, h2⟩)) h3, h4⟩
      keep := fun a o h n => hk₁ _ _ (fun hm => (no _ ⟨_, hm, rfl⟩).2.1 o h) (Od.keep a o h n)
      keepf := fun a o h => by
        obtain ⟨sl, e⟩ := Od.keepf a o h
        exact ⟨sl, hk₁ _ _ (fun hm => (no _ ⟨_, hm, rfl⟩).2.1 o h) e⟩
      w0 := fun a ha e => by
        cases z : s'.heap.get? a with
        | none => exact Od.w0 a ha z
        | some o => rw [hk₁ _ _ (fun hm => hw0 _ hm ha) z] at e; cases e }
theorem loop_for {x : Str} {px : Pos} {body : List Stmt} {it : Addr} {fp wr : List Addr} {n : Nat} {P : Nat → Value → Prop} {Sx : Nat → Heap → Prop} {Wi : Ws} {W0 : Ws} {m : Mp} {I : Hp} {R : Result → Shared → Prop} {E₁ : Ex → St → Prop}
    (J : Nat → St → Prop) (Wk : Walks G.prog G.w A it fp wr n P Sx) (hlive : ∀ i h, Sx i h → ∀ b ∈ wr, ∃ o, h.get? b = some o)
    (hx : c.env.kindOf x = some .local) (hfr : A.frames = some (c.env :: c.outer))
    (O : Ok G c ⟨m, I, Wi ++ W0⟩ s) (hWi : Wi.map Prod.fst = wr) (hw0 : ∀ b ∈ wr, b ∉ c.W0) (hfp : ∀ b ∈ fp, b ∉ wr → ∃ o, I b = some o) (h0 : Sx 0 s.heap) (j0 : J 0 ⟨m, I, W0⟩)
    (turn : ∀ i v st' Wi' s', i < n → P i v → J i st' → Ok G (c.re I) ⟨ov [(x, v)] st'.m, st'.I, Wi' ++ st'.W⟩ s' →
      wpAny (model G.prog G.w) A (execs body c.env) (fun f s3 => match f with
        | .next | .cont => ∃ st3, J (i + 1) st3 ∧ Ok G (c.re I) ⟨st3.m, st3.I, Wi' ++ st3.W⟩ s3
        | .brk => R (.ok .next) s3
        | .ret v => R (.ok (.ret v)) s3) (ESt G (c.re I) E₁) s')
    (done : ∀ st' s', J n st' → Ok G (c.re I) st' s' → R (.ok .next) s')
    (hE : ∀ e s', ESt G (c.re I) E₁ e s' → notedBy (model G.prog G.w) A c.env (fun e s' => R (.error e) s') e s') :
    codeAny (model G.prog G.w) A (.forLoop (.Name x px) (.ref it) body [] c.env) R s :=
  let ⟨Iv, k, h, t⟩ := loop_core (B := fun Q E s => wpAny (model G.prog G.w) A (execs body c.env) Q E s) (fun _ _ _ _ _ h a b => wpAny_mono h a b) (px := px) J Wk hlive hx hfr O hWi hw0 hfp h0 j0 turn done hE
  codeAny_forLoop Iv t k h
end
section
variable {G : Base} {c : Fm} {st : St} {s : Shared} {A : Around} {E : VP} {env : Env}
/-! constants -/
theorem r_int {i : Int} {k : Nat} {pos : Pos} {Q : VP} (O : Ok G c st s) (h : ∀ t s', Ok G c st s' → Q (.int i t) s') : wpAny (model G.prog G.w) A (eval (.Constant (.int i) k pos) env) Q E s :=
  wpAny_Constant_int (h _ _ O.toks)
theorem r_bytes {b : List UInt8} {k : Nat} {pos : Pos} {Q : VP} (O : Ok G c st s) (h : ∀ t s', Ok G c st s' → Q (.bytes b.toArray t) s') : wpAny (model G.prog G.w) A (eval (.Constant (.bytes b) k pos) env) Q E s :=
  Constant_bytes (h _ _ O.toks)
theorem r_none {k : Nat} {pos : Pos} {Q : VP} (h : Q .none s) : wpAny (model G.prog G.w) A (eval (.Constant .none k pos) env) Q E s := Constant_none h
theorem r_bool {b : Bool} {k : Nat} {pos : Pos} {Q : VP} (h : Q (.bool b) s) : wpAny (model G.prog G.w) A (eval (.Constant (.bool b) k pos) env) Q E s := Constant_bool h
/-! ints -/
variable {a b : Int} {t u : Tok}
theorem r_add {Q : VP} (O : Ok G c st s) (h : ∀ t s', Ok G c st s' → Q (.int (a + b) t) s') : wpAny (model G.prog G.w) A (binaryOp .Add (.int a t) (.int b u)) Q E s := AutoIntOps.add_0 (h _ _ O.toks)
theorem r_sub {Q : VP} (O : Ok G c st s) (h : ∀ t s', Ok G c st s' → Q (.int (a - b) t) s') : wpAny (model G.prog G.w) A (binaryOp .Sub (.int a t) (.int b u)) Q E s := AutoIntOps.sub_0 (h _ _ O.toks)
theorem r_fdiv {Q : VP} (O : Ok G c st s) (hb : 0 < b ∧ b < 1073741824) (h : ∀ t s', Ok G c st s' → Q (.int (a / b) t) s') : wpAny (model G.prog G.w) A (binaryOp .FloorDiv (.int a t) (.int b u)) Q E s :=
  AutoIntOps.floordiv_1 (by simp; lia) (by rw [PyProof.noPylong_small (by lia)]; decide) (by
    show Q (.int (a.fdiv b) _) _
    rw [Int.fdiv_eq_ediv_of_nonneg _ (by lia)]
    exact h _ _ O.toks)
theorem r_mod {Q : VP} (O : Ok G c st s) (hb : 0 < b) (h : ∀ t s', Ok G c st s' → Q (.int (a % b) t) s') : wpAny (model G.prog G.w) A (binaryOp .Mod (.int a t) (.int b u)) Q E s :=
  AutoIntOps.mod_1 (by simp; lia) (by
    show Q (.int (a.fmod b) _) _
    rw [Int.fmod_eq_emod_of_nonneg _ (by lia)]
    exact h _ _ O.toks)
/-! lists -/
@[reducible] noncomputable def lst (vs : List Value) (n : Nat) : Obj := { cls := .type "list", data := .seq vs.toArray n }
@[reducible] noncomputable def tup (vs : List Value) : Obj := { cls := .type "tuple", data := .seq vs.toArray }
theorem r_newList {vs : List Value} {Q : VP} {m : Mp} {I : Hp} {W : Ws} (O : Ok G c ⟨m, I, W⟩ s) (hz : vs.length ≤ sizeLine) (h : ∀ a s', Ok G c ⟨m, I, (a, lst vs 0) :: W⟩ s' → Q (.ref a) s') :
    wpAny (model G.prog G.w) A (newList vs) Q E s :=
  wpAny_newObj_type (h _ _ (O.own (s' := { s with heap := s.heap.push (lst vs 0) }) (fun _ _ e => Heap.get?_push_of_some _ e) (size_free _) (Heap.get?_push_size _ rfl) rfl rfl)) (by show vs.toArray.size ≤ sizeLine; simpa using hz)
theorem r_newTuple {vs : List Value} {Q : VP} {m : Mp} {I : Hp} {W : Ws} (O : Ok G c ⟨m, I, W⟩ s) (hz : vs.length ≤ sizeLine) (h : ∀ a s', Ok G c ⟨m, I, (a, tup vs) :: W⟩ s' → Q (.ref a) s') :
    wpAny (model G.prog G.w) A (newTuple vs) Q E s :=
  wpAny_newObj_type (h _ _ (O.own (s' := { s with heap := s.heap.push (tup vs) }) (fun _ _ e => Heap.get?_push_of_some _ e) (size_free _) (Heap.get?_push_size _ rfl) rfl rfl)) (by show vs.toArray.size ≤ sizeLine; simpa using hz)
theorem mid {x : Addr × Obj} {W1 W2 : Ws} : x ∈ W1 ++ x :: W2 := by simp
theorem r_getAppend {l : Addr} {vs : List Value} {n : Nat} {pl : Sem Bool} {Q : Value × List Value → Shared → Prop} {m : Mp} {I : Hp} {W : Ws} (O : Ok G c ⟨m, I, W⟩ s) (hm : (l, lst vs n) ∈ W) (h : Q (.builtin "list.append", [.ref l]) s) :
    wpAny (model G.prog G.w) A (getMethod (.ref l) "append" pl) Q E s := getMethod_list_append (O.wr _ hm) rfl rfl h
theorem r_append {l : Addr} {vs : List Value} {n : Nat} {v : Value} {Q : VP} {m : Mp} {I : Hp} {W1 W2 : Ws} (O : Ok G c ⟨m, I, W1 ++ (l, lst vs n) :: W2⟩ s) (hz : vs.length ≤ sizeLine)
    (h : ∀ s' n', Ok G c ⟨m, I, W1 ++ (l, lst (vs ++ [v]) n') :: W2⟩ s' → Q .none s') : wpAny (model G.prog G.w) A (call (.builtin "list.append") [.ref l, v]) Q E s :=
  append_at (D := l) (its := vs.toArray) (n := n) (hsz := by rw [List.size_toArray]; exact hz) (O.wr (l, lst vs n) (by simp)) fun h' hs hx => h _ (n + 1) (O.turned (s' := { s with heap := h' }) (o' := lst (vs ++ [v]) (n + 1)) hs (by rw [hx]; simp) rfl rfl)
/-! calls of the text's defs -/
theorem callW {f : Value} {pos : Pos} {first : List Value} {e : Expr} {rest : List Expr} {Q : VP} {P : Heap → Prop}
    (hk : ∀ h, P h → ∃ k, (k = Keeper.frame ∨ k = Keeper.machine ∨ k = Keeper.boundFrame) ∧ Looks (model G.prog G.w) h (keeperOf f) k)
    (h : wpAny (model G.prog G.w) A (spliced (backTo pos (starEach (e :: rest) env))) (fun vs s₁ => P s₁.heap ∧ wpAny (model G.prog G.w) A (call f (first ++ vs)) Q E s₁) E s)
    (he : starEach (e :: rest) env = (false, eval e env) :: starEach rest env := by rfl) (hplain : (backTo pos (starEach rest env)).any (·.1) = false := by rfl) :
    wpAny (model G.prog G.w) A (callWith pos f first (backTo pos (starEach (e :: rest) env)) []) Q E s := by
  rw [he] at h ⊢
  exact callWith_of (by show ((false || (backTo pos (starEach rest env)).any (·.1)) || false) = false; rw [hplain]; rfl) hk (evalArgs_plain h)
theorem enterK {a : Addr} {name qual : Str} {params : Arguments} {body : List Stmt} {scope : Scope} {dV kV doc pm cdv ct oc : Value} {an od : Option Addr} {osl : Array (Option Value)}
    {args : List Value} {binds : List (Str × Value)} {hd : Option Value} {d u : Nat} {I : Hp} {W : Ws} {Q : Value → Hp → Ws → Prop} {E : Ex → Hp → Ws → Prop}
    (hlk : G.K.lookup a = some ⟨oc, od, .func (fnOf name qual params body scope dV kV doc pm an cdv ct), osl⟩) (hcd : codeIn G.K cdv qual = true)
    (hbind : bindArgs (fnOf name qual params body scope dV kV doc pm an cdv ct) ⟨args, []⟩ = pure binds)
    (hcell : (scope.names.all fun x => decide (x.2 ≠ .cell)) = true) (hloc : (binds.all fun x => decide (scope.names.lookup x.1 = some .local)) = true)
    (hco : scope.isCoroutine = false) (hgen : scope.isGenerator = false) (hk : scope.kind = .function)
    (h : ∀ (c : Fm) (A : Around) (s₁ : Shared), c.fd.scope = scope → Ok G c ⟨ov binds.reverse fun _ => none, I, W⟩ s₁ → Bud A hd (c.env :: c.outer) d u →
      wpAny (model G.prog G.w) A (execs body c.env) (EndQ G c Q) (EndX G c E) s₁) :
    Cl G (.ref a) args hd (d + 1) (u + 3) I W Q E :=
  enter (fun b => b _ _ (G.X _ _ hlk)) rfl rfl (codeRec_of G.X hcd) (fun _ _ => BindsTo.of_eq hbind) (fun x hx => of_decide_eq_true (List.all_eq_true.mp hcell x hx)) (locs hloc) hco hgen hk rfl rfl
    fun c A s₁ h1 _ O B => h c A s₁ (by rw [h1]) (by
      have e : (ov binds.reverse fun _ => none) = fun x => binds.reverse.lookup x := by
        funext y; unfold ov; cases binds.reverse.lookup y <;> rfl
      rw [e]; exact O) B
theorem kd {sc : Scope} {x : Str} {k : NameKind} (hs : c.fd.scope = sc) (h : sc.names.lookup x = some k := by rfl) : c.env.kindOf x = some k := by
  show c.fd.scope.names.lookup x = some k
  rw [hs]; exact h
/-! loops -/
theorem ESt.unre {E₁ : Ex → St → Prop} {I : Hp} {e : Value} {s' : Shared} (O : Ok G c st s) (hI : I = st.I) (h : ESt G (c.re I) E₁ e s') : ESt G c E₁ e s' := by
  obtain ⟨x, st', a, b, d, f⟩ := h
  exact ⟨x, st', a, O.unre hI b, d, f⟩
noncomputable def TurnQ (G : Base) (c : Fm) (J : St → Prop) (Wi : Ws) (Q : Flow → Shared → Prop) (f : Flow) (s3 : Shared) : Prop := match f with
  | .next | .cont => ∃ st3 : St, J st3 ∧ Ok G c ⟨st3.m, st3.I, Wi ++ st3.W⟩ s3
  | .brk => Q .next s3
  | .ret v => Q (.ret v) s3
theorem rangeSmall {n : Int} (hn : 0 ≤ n ∧ n < 2 ^ 60) (sz : Builtin.Range.rangeSize 0 n 1 = n) : Builtin.Range.small 0 n 1 = true := by
  have f : ∀ k : Int, 0 ≤ k → k < 2 ^ 62 → Builtin.Range.rangeFitsLong k = true := fun k h1 h2 => by
    unfold Builtin.Range.rangeFitsLong
    simp; lia
  unfold Builtin.Range.small
  rw [sz, f 0 (by lia) (by lia), f n hn.1 (by lia), f 1 (by lia) (by lia)]
  simp [f (n + (1 - 1)) (by lia) (by lia), f n hn.1 (by lia)]
theorem r_range_loop {x : Str} {px : Pos} {body : List Stmt} {n : Int} {t : Tok} {m : Mp} {I : Hp} {W : Ws} {Q : Flow → Shared → Prop} {E₁ : Ex → St → Prop} (J : Nat → St → Prop) (hh : A.handled = none)
    (O : Ok G c ⟨m, I, W⟩ s) (hx : c.env.kindOf x = some .local) (hfr : A.frames = some (c.env :: c.outer)) (hn : 0 ≤ n ∧ n < 2 ^ 60) (j0 : J 0 ⟨m, I, W⟩)
    (turn : ∀ (i : Nat) t st' Wi s', i < n.toNat → J i st' → Ok G (c.re I) ⟨ov [(x, .int i t)] st'.m, st'.I, Wi ++ st'.W⟩ s' →
      wpAny (model G.prog G.w) A (execs body c.env) (TurnQ G (c.re I) (J (i + 1)) Wi Q) (ESt G (c.re I) E₁) s')
    (done : ∀ st' s', J n.toNat st' → Ok G c st' s' → (∀ a o, I a = some o → st'.I a = some o) → Q .next s') :
    wpAny (model G.prog G.w) A (call (.type "range") [.int n t]) (fun xv s₁ => wpAny (model G.prog G.w) A (pyIter xv) (fun it s₂ =>
      codeAny (model G.prog G.w) A (.forLoop (.Name x px) it body [] c.env) (fun r s' => match r with | .ok f => Q f s' | .error e => cameBackBy (model G.prog G.w) A c.env (ESt G c E₁) e s') s₂) (ESt G c E₁) s₁) (ESt G c E₁) s := by
  refine call_range_1 ?_
  have sz : Builtin.Range.rangeSize 0 n 1 = n := by rw [rangeSize_one]; split <;> lia
  refine wpAny_pyIter_range (Heap.get?_push_size _ rfl) (rangeSmall hn sz) ?_
  rw [sz]
  have O₁ : Ok G c ⟨m, I, W⟩ { s with heap := s.heap.push { cls := .type "range", data := .fields #[.int 0 s.toks, .int n t, .int 1 (s.toks + 1)] }, toks := s.toks + 1 + 1 } := O.grown (fun _ _ e => Heap.get?_push_of_some _ e) rfl rfl
  have hf := size_free (s.heap.push { cls := .type "range", data := .fields #[.int 0 s.toks, .int n t, .int 1 (s.toks + 1)] })
  have O₂ := O₁.own (s' := { s with heap := (s.heap.push { cls := .type "range", data := .fields #[.int 0 s.toks, .int n t, .int 1 (s.toks + 1)] }).push { cls := .type "range_iterator", data := .fields #[rawInt 0, rawInt n, rawInt 1] }, toks := s.toks + 1 + 1 })
    (fun _ _ e => Heap.get?_push_of_some _ e) hf (Heap.get?_push_size _ rfl) rfl rfl
  have hn' : (n.toNat : Int) = n := Int.toNat_of_nonneg hn.1
  refine loop_for (Wi := [_]) (wr := [_]) J (Walks.range hh _ 0 1 n.toNat) (fun i h e b hb => ?_) hx hfr O₂ rfl (fun b hb => ?_) (fun b hb h => absurd hb h) ?_ j0
    (fun i v st' Wi' s' hi hP hJ O' => ?_) (fun st' s' hJ O' => done st' s' hJ (O₂.unre rfl O') fun a o e => O'.sub a o e) fun e s' he => ESt.noted hfr (ESt.unre O rfl he)
  · rw [List.mem_singleton.mp hb]; exact ⟨_, e⟩
  · rw [List.mem_singleton.mp hb]; exact (off_fresh O₁ hf).2.2.2
  · show (((s.heap.push _).push _).get? _ = some _)
    simp only [Int.ofNat_zero, Int.zero_mul, Int.add_zero, Int.sub_zero, hn']
    exact Heap.get?_push_size _ rfl
  · obtain ⟨tk, rfl⟩ := hP
    have e : (0 : Int) + (i : Int) * 1 = i := by lia
    rw [e] at O'
    refine wpAny_mono (turn i tk st' Wi' s' hi hJ O') (fun f s3 h => ?_) fun _ _ h => h
    cases f <;> exact h
theorem Ok.still (O : Ok G c st s) : interactive c.env = false := by
  show (c.fd.scope.kind == .module && _) = false
  rw [O.fk]; rfl
noncomputable abbrev EQ (Q : Flow → Shared → Prop) : VP := fun v s' => match v with | .ref _ => False | _ => Q .next s'
theorem r_expr {e : Expr} {pos : Pos} {Q : Flow → Shared → Prop} (O : Ok G c st s) (h : wpAny (model G.prog G.w) A (eval e c.env) (EQ Q) E s)
    (hs : swapsWith e none pos.line c.env = pure false := by rfl) : wpAny (model G.prog G.w) A (exec (.Expr e pos) c.env) Q E s := wpAny_Expr h O.still hs
end
section
variable {G : Base} {c : Fm} {st : St} {s : Shared} {A : Around} {E : VP} {env : Env}
/-! bytes -/
section bytes
variable {x y : List UInt8} {t u : Tok}
theorem r_addB {Q : VP} (O : Ok G c st s) (hz : x.length + y.length ≤ 16777216) (h : ∀ t s', Ok G c st s' → Q (.bytes (x ++ y).toArray t) s') :
    wpAny (model G.prog G.w) A (binaryOp .Add (.bytes x.toArray t) (.bytes y.toArray u)) Q E s :=
  KBy.add_bytes (by simpa using hz) fun t' k => by
    have := h t' { s with toks := k } O.toks
    simpa using this
theorem r_lenB {Q : VP} (O : Ok G c st s) (hz : x.length ≤ 16777216) (h : ∀ t s', Ok G c st s' → Q (.int x.length t) s') : wpAny (model G.prog G.w) A (call (.builtin "len") [.bytes x.toArray t]) Q E s :=
  KBw.len_K (ks := KBw.bInts x.toArray) rfl (by rw [KBw.ints_length]; simp; lia) (by
    rw [KBw.ints_length]
    have := h (s.toks + 1) { s with toks := s.toks + 1 + 1 } O.toks
    simpa using this)
theorem r_eqB {Q : VP} (h : Q (.bool (x == y)) s) : wpAny (model G.prog G.w) A (compareOp .Eq (.bytes x.toArray t) (.bytes y.toArray u)) Q E s :=
  eq_bytes h
theorem r_neB {Q : VP} (h : Q (.bool (x != y)) s) : wpAny (model G.prog G.w) A (compareOp .NotEq (.bytes x.toArray t) (.bytes y.toArray u)) Q E s :=
  ne_bytes h
theorem r_itemB {value slice : PySem.Expr} {i : Int} {Q : VP} (O : Ok G c st s) (hz : x.length ≤ 16777216) (hi : 0 ≤ i ∧ i < x.length) (h : ∀ t s', Ok G c st s' → Q (.int ((x.getD i.toNat 0).toNat : Nat) t) s')
    (hs : subscripted slice false (.bytes x.toArray t) (.int i u) = operate [.bytes x.toArray t, .int i u] (getItem (.bytes x.toArray t) (.int i u)) := by with_unfolding_all rfl)
    (ht : ∀ r, letTemporaryGo value (.bytes x.toArray t) r = pure () := by intro _; with_unfolding_all rfl) :
    wpAny (model G.prog G.w) A (subscriptTail value slice (.bytes x.toArray t) (.int i u)) Q E s :=
  KBy.item_N (by lia) hi.1 hi.2 (h _ _ O.toks) hs ht
noncomputable def cut (x : List UInt8) (lo hi : Option Int) : List UInt8 := (x.drop (lo.elim 0 (clipAt x.length))).take (hi.elim x.length (clipAt x.length) - lo.elim 0 (clipAt x.length))
theorem r_sliceB {value slice : PySem.Expr} {l v : Value} {lo hi : Option Int} {Q : VP} (O : Ok G c st s) (hz : x.length ≤ 16777216) (hl : IsPart l lo) (hu : IsPart v hi) (h : ∀ t s', Ok G c st s' → Q (.bytes (cut x lo hi).toArray t) s')
    (hs : subscripted slice false (.bytes x.toArray t) (.ref s.heap.objs.size) = operate [.ref s.heap.objs.size, .bytes x.toArray t] (getItem (.bytes x.toArray t) (.ref s.heap.objs.size)) := by with_unfolding_all rfl)
    (ht : ∀ r, letTemporaryGo value (.bytes x.toArray t) r = pure () := by intro _; with_unfolding_all rfl) :
    wpAny (model G.prog G.w) A (subscriptTail value slice (.bytes x.toArray t) (.ref s.heap.objs.size)) Q E { s with heap := s.heap.push { cls := .type "slice", data := .fields #[l, v, .none] } } :=
  tail_of_ItemOn ⟨"bytes", _, FB.slot_bytes_getitem.lookup, typeIs_bytes _ _ _, getItem_meets (typeIs_bytes _ _ _) (by decide) FB.slot_bytes_getitem FB.entry_bytes_getitem (FB.args_bytes_getitem_2 _ _) (KBc.meets_slice2 _ t _ hl hu)
    ⟨Heap.IsSliceOf.new _ _ _ _, by rw [sizeLine_eq]; exact Nat.le_trans (KBc.size_picked_le _ _ _) (by simpa using hz), fun t' k => by
      rw [KBc.picked_eq]
      have := h t' { s with heap := s.heap.push { cls := .type "slice", data := .fields #[l, v, .none] }, toks := k } (O.grown (fun _ _ e => Heap.get?_push_of_some _ e) rfl rfl)
      simpa [cut] using this⟩⟩ hs ht
theorem r_mulB {n : Int} {Q : VP} (O : Ok G c st s) (hx : x ≠ []) (hl : x.length ≤ 16) (hn : -1048576 ≤ n ∧ n ≤ 1048576) (h : ∀ t s', Ok G c st s' → Q (.bytes ((List.replicate n.toNat x).flatten).toArray t) s') :
    wpAny (model G.prog G.w) A (binaryOp .Mult (.bytes x.toArray t) (.int n u)) Q E s :=
  PySem.W.bytes_mul_any hx hn.1 hn.2 hl fun t' k => h t' { s with toks := k } O.toks
theorem r_bytesOf {l : Addr} {vs : List Value} {ns : List Int} {n : Nat} {Q : VP} (O : Ok G c st s) (ho : s.heap.get? l = some (lst vs n)) (hi : IntsAre vs ns) (hr : ∀ n ∈ ns, 0 ≤ n ∧ n < 256) (hz : ns.length ≤ 16777216) (hh : A.handled = none)
    (h : ∀ t s', Ok G c st s' → Q (.bytes (ns.map fun n => n.toNat.toUInt8).toArray t) s') : wpAny (model G.prog G.w) A (call (.type "bytes") [.ref l]) Q E s :=
  call_bytes_ints ⟨_, ho, rfl, n, rfl⟩ hi hr (by rw [hi.length, sizeLine_eq]; exact hz) hh fun h' t k hk => h t { s with heap := h', toks := k } (O.grown hk rfl rfl)
end bytes
/-! isinstance -/
theorem r_isi {x cl t : Value} {b : Bool} {H : Heap → Prop} {Q : VP} (Z : KitX G.K x t H) (O : Ok G c st s) (p : H s.heap) (e : kitOne G.K t cl = some b) (hx : x ≠ .builtin "__main__.__loader__#opaque") (h : ∀ s', Ok G c st s' → Q (.bool b) s') :
    wpAny (model G.prog G.w) A (call (.builtin "isinstance") [x, cl]) Q E s := kia_one Z (G.X.keeps O.keepB) p e hx fun tk => h { s with toks := tk } O.toks
theorem r_isiT {x t : Value} {b : Bool} {H : Heap → Prop} {tp : Addr} {its : List Value} {Q : VP} (Z : KitX G.K x t H) (O : Ok G c st s) (p : H s.heap) (ht : s.heap.get? tp = some (tup its)) (e : kitAny G.K t its = some b)
    (hx : x ≠ .builtin "__main__.__loader__#opaque") (h : ∀ s', Ok G c st s' → Q (.bool b) s') :
    wpAny (model G.prog G.w) A (call (.builtin "isinstance") [x, .ref tp]) Q E s := kia_tup Z (G.X.keeps O.keepB) p ht e hx fun tk => h { s with toks := tk } O.toks
example : kitOne G.K (.type "bytes") (.type "bytes") = some true := by rfl
example : kitAny G.K (.type "bytes") [.type "bytes", .type "bytearray"] = some true := by rfl
example : kitAny G.K (.type "list") [.type "bytes", .type "bytearray"] = some false := by first | rfl | decide +kernel
example : kitAny G.K (.type "list") [.type "list", .type "tuple"] = some true := by rfl
end
section
variable {G : Base} {c : Fm} {st : St} {s : Shared} {A : Around} {E : VP} {env : Env}
theorem isL {l : Addr} {vs : List Value} {n : Nat} {h : Heap} (e : h.get? l = some (lst vs n)) : h.IsList l vs.toArray := ⟨_, e, rfl, n, rfl⟩
theorem isT {l : Addr} {vs : List Value} {h : Heap} (e : h.get? l = some (tup vs)) : IsTup h l vs.toArray := ⟨_, e, rfl, 0, rfl⟩
theorem lstLen {vs : List Value} (h : vs.length ≤ 16777216) : ((vs.toArray.size : Nat) : Int) < 2 ^ 63 := by rw [List.size_toArray]; lia
theorem r_lenL {l : Addr} {vs : List Value} {n : Nat} {Q : VP} (O : Ok G c st s) (e : s.heap.get? l = some (lst vs n)) (hz : vs.length ≤ 16777216) (h : ∀ t s', Ok G c st s' → Q (.int vs.length t) s') :
    wpAny (model G.prog G.w) A (call (.builtin "len") [.ref l]) Q E s :=
  call_len_list (isL e) (lstLen hz) (by simpa using h (s.toks + 1) { s with toks := s.toks + 1 + 1 } O.toks)
theorem r_truthyL {l : Addr} {vs : List Value} {n : Nat} {Q : Bool → Shared → Prop} (O : Ok G c st s) (e : s.heap.get? l = some (lst vs n)) (hz : vs.length ≤ 16777216) (h : ∀ s', Ok G c st s' → Q (decide (0 < vs.length)) s') :
    wpAny (model G.prog G.w) A (truthy (.ref l)) Q E s :=
  wpAny_truthy_list (isL e) (lstLen hz) (by
    have := h { s with toks := s.toks + 1 + 1 } O.toks
    have e : (!vs.toArray.isEmpty) = decide (0 < vs.length) := by cases vs <;> simp
    rw [e]; exact this)
theorem r_itemL {value slice : PySem.Expr} {l : Addr} {vs : List Value} {n : Nat} {k : Int} {u : Tok} {v : Value} {Q : VP} (e : s.heap.get? l = some (lst vs n)) (hz : vs.length ≤ 16777216) (hk : 0 ≤ k) (hv : vs[k.toNat]? = some v) (h : Q v s)
    (hs : subscripted slice false (.ref l) (.int k u) = operate [.ref l, .int k u] (getItem (.ref l) (.int k u)) := by with_unfolding_all rfl) (hg : ∀ r, letTemporaryGo value (.ref l) r = pure () := by intro _; with_unfolding_all rfl) :
    wpAny (model G.prog G.w) A (subscriptTail value slice (.ref l) (.int k u)) Q E s :=
  item_list (isL e) hk (by have := (List.getElem?_eq_some_iff.mp hv).1; lia) (by simpa using hv) h hs hg
theorem r_itemT {value slice : PySem.Expr} {l : Addr} {vs : List Value} {k : Int} {u : Tok} {v : Value} {Q : VP} (e : s.heap.get? l = some (tup vs)) (hz : vs.length ≤ 16777216) (hk : 0 ≤ k) (hv : vs[k.toNat]? = some v) (h : Q v s)
    (hs : subscripted slice false (.ref l) (.int k u) = operate [.ref l, .int k u] (getItem (.ref l) (.int k u)) := by with_unfolding_all rfl) (hg : ∀ r, letTemporaryGo value (.ref l) r = pure () := by intro _; with_unfolding_all rfl) :
    wpAny (model G.prog G.w) A (subscriptTail value slice (.ref l) (.int k u)) Q E s :=
  item_tuple (j := k.toNat) (isT e) (by lia) (by have := (List.getElem?_eq_some_iff.mp hv).1; lia) (by
    have := (List.getElem?_eq_some_iff.mp hv).1
    have h1 : ¬ k < 0 := by lia
    have h2 : k < vs.length := by lia
    simp [seqIndex?, h1, h2, hk]) (by simpa using hv) h hs hg
theorem r_itemLneg {value slice : PySem.Expr} {l : Addr} {vs : List Value} {n : Nat} {k : Int} {u : Tok} {v : Value} {Q : VP} (e : s.heap.get? l = some (lst vs n)) (hz : vs.length ≤ 16777216) (hk : k < 0 ∧ -(vs.length : Int) ≤ k) (hv : vs[(k + vs.length).toNat]? = some v) (h : Q v s)
    (hs : subscripted slice false (.ref l) (.int k u) = operate [.ref l, .int k u] (getItem (.ref l) (.int k u)) := by with_unfolding_all rfl) (hg : ∀ r, letTemporaryGo value (.ref l) r = pure () := by intro _; with_unfolding_all rfl) :
    wpAny (model G.prog G.w) A (subscriptTail value slice (.ref l) (.int k u)) Q E s :=
  subscriptTail_ops (isL e).typeIs list_getitem_lookup (wpAny_getItem_list_neg (isL e) hk.1 (by rw [List.size_toArray]; exact hk.2) (by lia) (by rw [List.size_toArray]; simpa using hv) h) hs hg
theorem r_sliceL {value slice : PySem.Expr} {l : Addr} {vs : List Value} {n : Nat} {vl vu : Value} {lo hi : Option Int} {Q : VP} {m : Mp} {I : Hp} {W : Ws} (O : Ok G c ⟨m, I, W⟩ s) (e : s.heap.get? l = some (lst vs n)) (hz : vs.length ≤ 16777216) (pl : IsPart vl lo) (pu : IsPart vu hi)
    (h : ∀ a s', Ok G c ⟨m, I, (a, lst (slicePick vs.toArray lo hi none).toList 0) :: W⟩ s' → Q (.ref a) s')
    (hs : subscripted slice false (.ref l) (.ref s.heap.objs.size) = operate [.ref s.heap.objs.size, .ref l] (getItem (.ref l) (.ref s.heap.objs.size)) := by with_unfolding_all rfl)
    (ht : ∀ r, letTemporaryGo value (.ref l) r = pure () := by intro _; with_unfolding_all rfl) :
    wpAny (model G.prog G.w) A (subscriptTail value slice (.ref l) (.ref s.heap.objs.size)) Q E { s with heap := s.heap.push { cls := .type "slice", data := .fields #[vl, vu, .none] } } := by
  have hl := isL e
  refine subscriptTail_ops (Heap.IsList.typeIs (s := { s with heap := s.heap.push { cls := .type "slice", data := .fields #[vl, vu, .none] } }) (hl.push _)) list_getitem_lookup
    (wpAny_getItem_list_slice (hl.push _) (Heap.IsSliceOf.new ..) pl pu .none (by simp) ?_ (by rw [List.size_toArray, sizeLine_eq]; exact hz)) hs ht
  have O₁ : Ok G c ⟨m, I, W⟩ { s with heap := s.heap.push { cls := .type "slice", data := .fields #[vl, vu, .none] } } := O.grown (fun _ _ e => Heap.get?_push_of_some _ e) rfl rfl
  exact h _ _ (O₁.own (s' := { s with heap := (s.heap.push { cls := .type "slice", data := .fields #[vl, vu, .none] }).push (lst (slicePick vs.toArray lo hi none).toList 0) }) (fun _ _ e => Heap.get?_push_of_some _ e) (size_free _) (Heap.get?_push_size _ rfl) rfl rfl)
/-! methods of an own list -/
theorem r_getML {name : Str} {id : String} {pl : Sem Bool} {l : Addr} {vs : List Value} {n : Nat} {Q : Value × List Value → Shared → Prop} (slot : Slot "list" name id) (hty : typeOf (.builtin id) = pure (.type "method_descriptor"))
    (e : s.heap.get? l = some (lst vs n)) (h : Q (.builtin id, [.ref l]) s) : wpAny (model G.prog G.w) A (getMethod (.ref l) name pl) Q E s :=
  getMethod_list_of slot hty (isL e) (by
    first
    | exact ⟨_, e, rfl⟩
    | (intro a o h1 h2; cases h1; rw [e] at h2; cases h2; rfl)
    | (intro o h2; rw [e] at h2; cases h2; rfl)) h
theorem r_insert0 {l : Addr} {vs : List Value} {n : Nat} {v : Value} {u : Tok} {Q : VP} {m : Mp} {I : Hp} {W1 W2 : Ws} (O : Ok G c ⟨m, I, W1 ++ (l, lst vs n) :: W2⟩ s) (hz : vs.length ≤ 16777216)
    (h : ∀ s' n', Ok G c ⟨m, I, W1 ++ (l, lst (v :: vs) n') :: W2⟩ s' → Q .none s') : wpAny (model G.prog G.w) A (call (.builtin "list.insert") [.ref l, .int 0 u, v]) Q E s := by
  have e := O.wr (l, lst vs n) mid
  refine call_meets PySem.F.slot_list_insert ⟨_, e, rfl⟩ PySem.F.entry_list_insert (PySem.F.args_list_insert_3 _ _ _) (AutoSeq1.list_insert_list_int_val_1 l vs.toArray n 0 u v (by decide) (by rw [List.size_toArray, sizeLine_eq]; exact hz)) ⟨e, ?_⟩
  exact h _ _ (O.turned (s' := { s with heap := s.heap.update l (Obj.mapSeq fun xs => have k := if (0 : Int) < 0 then ((0 : Int) + (xs.size : Int)).toNat else min (0 : Int).toNat xs.size; (xs.extract 0 k).push v ++ xs.extract k) })
    (o' := lst (v :: vs) (n + 1)) (Heap.SameBut.update ..) ((Heap.get?_update_self _ e rfl).trans (by simp [Obj.mapSeq])) rfl rfl)
theorem r_pop {l : Addr} {vs : List Value} {n : Nat} {v : Value} {pos : Pos} {Q : VP} {m : Mp} {I : Hp} {W1 W2 : Ws} (O : Ok G c ⟨m, I, W1 ++ (l, lst (vs ++ [v]) n) :: W2⟩ s) (hz : vs.length < 16777216)
    (h : ∀ s' n', Ok G c ⟨m, I, W1 ++ (l, lst vs n') :: W2⟩ s' → Q v s') : wpAny (model G.prog G.w) A (callWith pos (.builtin "list.pop") [.ref l] [] []) Q E s := by
  have e := O.wr (l, lst (vs ++ [v]) n) mid
  have hsz : (vs ++ [v]).toArray.size = vs.length + 1 := by simp
  refine PySem.P.pop_list (items := (vs ++ [v]).toArray) (n := n) (y := v) e (by simp) ?_ (by rw [hsz, sizeLine_eq]; lia)
  exact h _ _ (O.turned (s' := { s with heap := s.heap.update l (Obj.mapSeq fun xs => xs.eraseIdxIfInBounds ((vs ++ [v]).toArray.size - 1)) })
    (o' := lst vs (n + 1)) (Heap.SameBut.update ..) ((Heap.get?_update_self _ e rfl).trans (by
      have q : (vs ++ [v]).eraseIdx vs.length = vs := by rw [List.eraseIdx_append_of_length_le (Nat.le_refl _)]; simp
      simp [Obj.mapSeq, q])) rfl rfl)
theorem r_addL {l b : Addr} {vs ws : List Value} {n n2 : Nat} {Q : VP} {m : Mp} {I : Hp} {W : Ws} (O : Ok G c ⟨m, I, W⟩ s) (e1 : s.heap.get? l = some (lst vs n)) (e2 : s.heap.get? b = some (lst ws n2)) (hz : vs.length + ws.length ≤ 16777216)
    (h : ∀ a s', Ok G c ⟨m, I, (a, lst (vs ++ ws) 0) :: W⟩ s' → Q (.ref a) s') : wpAny (model G.prog G.w) A (binaryOp .Add (.ref l) (.ref b)) Q E s := by
  have e : vs.toArray ++ ws.toArray = (vs ++ ws).toArray := by simp
  refine concat_meets ⟨_, e1, rfl⟩ ⟨_, e2, rfl⟩ noFill_list_add seq_list_add PySem.F.slot_list_add PySem.F.entry_list_add (PySem.F.args_list_add_2 _ _) (list_addW l b vs.toArray ws.toArray n n2 none none #[] #[] (by rw [List.size_toArray, List.size_toArray, sizeLine_eq]; exact hz)) ⟨e1, e2, ?_⟩
  rw [e]
  exact h _ _ (O.own (s' := { s with heap := s.heap.push (lst (vs ++ ws) 0) }) (fun _ _ e => Heap.get?_push_of_some _ e) (size_free _) (Heap.get?_push_size _ rfl) rfl rfl)
theorem r_unpack {elts : List PySem.Expr} {x1 : Nat} {pos : Pos} {a : Addr} {vs : List Value} {Q : Unit → Shared → Prop} (O : Ok G c st s) (e : s.heap.get? a = some (tup vs)) (hh : A.handled = none)
    (hn : (assignEach elts env).length = vs.length) (hstar : (assignEach elts env).findIdx? (·.1) = none)
    (h : ∀ s', Ok G c st s' → wpAny (model G.prog G.w) A (assignInOrder ((assignEach elts env).map (·.2)) vs) Q E s') : wpAny (model G.prog G.w) A (assign (.Tuple elts x1 pos) env (.ref a)) Q E s := by
  refine assign_Tuple_tuple hh (isT e) (by rw [List.size_toArray]; exact hn) hstar fun h' he => ?_
  exact h { s with heap := h' } (O.grown (fun a o q => he a o (Nat.ne_of_lt (Heap.lt_size q)) q) rfl rfl)
noncomputable abbrev WQ (G : Base) (c : Fm) (J : Nat → St → Prop) (k : Nat) (Q : Flow → Shared → Prop) : Flow → Shared → Prop := fun f s₃ => match f with
  | .next | .cont => ∃ k' st3, k' < k ∧ J k' st3 ∧ Ok G c st3 s₃
  | .brk => Q .next s₃
  | .ret v => Q (.ret v) s₃
theorem r_while {test : PySem.Expr} {body : List Stmt} {pos : Pos} {m : Mp} {I : Hp} {W : Ws} {Q : Flow → Shared → Prop} {E₁ : Ex → St → Prop} (J : Nat → St → Prop) (k : Nat) (O : Ok G c ⟨m, I, W⟩ s) (hfr : A.frames = some (c.env :: c.outer)) (j0 : J k ⟨m, I, W⟩)
    (turn : ∀ k st' s', J k st' → Ok G (c.re I) st' s' → wpAny (model G.prog G.w) A (isTrue test c.env (eval test c.env)) (fun b s₂ =>
      if b then wpAny (model G.prog G.w) A (execs body c.env) (WQ G (c.re I) J k Q) (ESt G (c.re I) E₁) s₂
        else Q .next s₂) (ESt G (c.re I) E₁) s') :
    wpAny (model G.prog G.w) A (exec (.While test body [] pos) c.env) Q (ESt G c E₁) s := by
  refine wpAny_While (codeAny_whileLoop (fun k s' => ∃ st', J k st' ∧ Ok G (c.re I) st' s') ?_ k ⟨_, j0, O.re⟩)
  rintro k s' ⟨st', hj, O'⟩
  have hE : ∀ e s', ESt G (c.re I) E₁ e s' → notedBy (model G.prog G.w) A c.env (fun e s' => cameBackBy (model G.prog G.w) A c.env (ESt G c E₁) e s') e s' := fun e s' h => ESt.noted hfr (ESt.unre O rfl h)
  refine wpAny_mono (turn k st' s' hj O') (fun b s₂ h₂ => ?_) hE
  cases b with
  | false => exact wpAny_execs_nil h₂
  | true =>
    refine wpAny_mono h₂ (fun f s₃ h₃ => ?_) hE
    cases f with
    | next => obtain ⟨k', st3, h1, h2, h3⟩ := h₃; exact ⟨k', h1, st3, h2, h3⟩
    | cont => obtain ⟨k', st3, h1, h2, h3⟩ := h₃; exact ⟨k', h1, st3, h2, h3⟩
    | brk => exact h₃
    | ret v => exact h₃
variable {G : Base} {c : Fm} {st : St} {s : Shared} {A : Around} {E : VP} {env : Env}
theorem sz_small {n : Nat} (h : n ≤ 1000000) : n ≤ sizeLine := by rw [sizeLine_eq]; lia
theorem ite_dec {p X Y : Prop} [Decidable p] (h1 : p → X) (h2 : ¬ p → Y) : if (decide p) = true then X else Y := by
  by_cases h : p
  · rw [decide_eq_true h, if_pos rfl]; exact h1 h
  · rw [decide_eq_false h, if_neg (by simp)]; exact h2 h
theorem ite_t {X Y : Prop} (h : X) : if true = true then X else Y := by rw [if_pos rfl]; exact h
theorem ite_f {X Y : Prop} (h : Y) : if false = true then X else Y := by rw [if_neg (by simp)]; exact h
theorem ite_b {b : Bool} {X Y : Prop} (h1 : b = true → X) (h2 : b = false → Y) : if b = true then X else Y := by
  cases b
  · exact ite_f (h2 rfl)
  · exact ite_t (h1 rfl)
theorem Cl.le {f : Value} {args : List Value} {hd : Option Value} {d u d' u' : Nat} {I : Hp} {W : Ws} {Q : Value → Hp → Ws → Prop} {E : Ex → Hp → Ws → Prop} (h : Cl G f args hd d u I W Q E) (h1 : d ≤ d') (h2 : u ≤ u') : Cl G f args hd d' u' I W Q E :=
  fun A fr s B P => h A fr s ⟨B.h, B.f, Nat.lt_of_le_of_lt (by lia) B.d, Nat.lt_of_le_of_lt (by lia) B.u⟩ P
noncomputable abbrev DQ (G : Base) (A : Around) (f : Value) (first : List Value) (Q E : VP) : List Value → Shared → Prop := fun vs s => G.K.In s.heap ∧ wpAny (model G.prog G.w) A (call f (first ++ vs)) Q E s
theorem r_def {a : Addr} {pos : Pos} {e : PySem.Expr} {rest : List PySem.Expr} {Q : VP} (hk : keepIn G.K (.ref a) = true)
    (h : wpAny (model G.prog G.w) A (spliced (backTo pos (starEach (e :: rest) env))) (DQ G A (.ref a) [] Q E) E s)
    (he : starEach (e :: rest) env = (false, eval e env) :: starEach rest env := by rfl) (hplain : (backTo pos (starEach rest env)).any (·.1) = false := by rfl) :
    wpAny (model G.prog G.w) A (callWith pos (.ref a) [] (backTo pos (starEach (e :: rest) env)) []) Q E s :=
  callW (keeps_K hk) h he hplain
theorem Ok.In (O : Ok G c st s) : G.K.In s.heap := G.X.keeps O.keepB
theorem r_pure {m : Mp} {I : Hp} {W : Ws} {f : Value} {args : List Value} {hd : Option Value} {d u : Nat} {Q : VP}
    (O : Ok G c ⟨m, I, W⟩ s) (B : Bud A hd (c.env :: c.outer) d u)
    (C : Cl G f args hd d u I [] (fun v I' W' => ∀ s', Ok G c ⟨m, I', W' ++ W⟩ s' → (∀ a o, I a = some o → I' a = some o) → Q v s') (fun _ _ _ => False)) :
    wpAny (model G.prog G.w) A (call f args) Q E s := r_call (Wc := []) O B C fun _ _ _ _ _ _ _ _ h => h.elim
noncomputable abbrev TQ (M : Model) (A : Around) (Q : Bool → Shared → Prop) (E : VP) : VP := fun c s => wpAny M A (truthy c) Q E s
noncomputable abbrev LQ {α : Type} (M : Model) (A : Around) (f : α → Sem Value) (Q E : VP) : α → Shared → Prop := fun v s => wpAny M A (f v) Q E s
theorem c_t1 {pos : Pos} {T : String} {e : PySem.Expr} {rest : List PySem.Expr} {Q : VP}
    (h : wpAny (model G.prog G.w) A (spliced (backTo pos (starEach (e :: rest) env))) (LQ (model G.prog G.w) A (fun vs : List Value => call (.type T) vs) Q E) E s)
    (he : starEach (e :: rest) env = (false, eval e env) :: starEach rest env := by rfl) (hplain : (backTo pos (starEach rest env)).any (·.1) = false := by rfl) :
    wpAny (model G.prog G.w) A (callWith pos (.type T) [] (backTo pos (starEach (e :: rest) env)) []) Q E s := PyProof.Rows.callWith_type1 h he hplain
theorem c_b1 {pos : Pos} {id : String} {e : PySem.Expr} {rest : List PySem.Expr} {Q : VP}
    (h : wpAny (model G.prog G.w) A (spliced (backTo pos (starEach (e :: rest) env))) (LQ (model G.prog G.w) A (fun vs : List Value => call (.builtin id) vs) Q E) E s)
    (he : starEach (e :: rest) env = (false, eval e env) :: starEach rest env := by rfl) (hplain : (backTo pos (starEach rest env)).any (·.1) = false := by rfl) :
    wpAny (model G.prog G.w) A (callWith pos (.builtin id) [] (backTo pos (starEach (e :: rest) env)) []) Q E s := PyProof.Rows.callWith_builtin1 h he hplain
theorem c_m1 {pos : Pos} {id : String} {first : List Value} {e : PySem.Expr} {rest : List PySem.Expr} {Q : VP}
    (h : wpAny (model G.prog G.w) A (spliced (backTo pos (starEach (e :: rest) env))) (LQ (model G.prog G.w) A (fun vs : List Value => call (.builtin id) (first ++ vs)) Q E) E s)
    (he : starEach (e :: rest) env = (false, eval e env) :: starEach rest env := by rfl) (hplain : (backTo pos (starEach rest env)).any (·.1) = false := by rfl) :
    wpAny (model G.prog G.w) A (callWith pos (.builtin id) first (backTo pos (starEach (e :: rest) env)) []) Q E s := PyProof.Rows.callWith_method1 h he hplain
theorem r_seq {st1 : Stmt} {rest : List Stmt} {Q : Flow → Shared → Prop} (P : Shared → Prop) (h : wpAny (model G.prog G.w) A (exec st1 env) (fun f s' => match f with | .next => P s' | f => Q f s') E s)
    (k : ∀ s', P s' → wpAny (model G.prog G.w) A (execs rest env) Q E s') : wpAny (model G.prog G.w) A (execs (st1 :: rest) env) Q E s :=
  wpAny_execs_cons (wpAny_mono h (fun f s' h' => by cases f <;> first | exact k s' h' | exact h') fun _ _ h => h)
theorem r_guard {st1 : Stmt} {rest : List Stmt} {Q : Flow → Shared → Prop} (O : Ok G c st s) (P : Prop) (h : wpAny (model G.prog G.w) A (exec st1 env) (fun f s' => match f with | .next => Ok G c st s' ∧ P | f => Q f s') E s)
    (k : ∀ s', Ok G c st s' → P → wpAny (model G.prog G.w) A (execs rest env) Q E s') : wpAny (model G.prog G.w) A (execs (st1 :: rest) env) Q E s :=
  r_seq (fun s' => Ok G c st s' ∧ P) h fun s' h => k s' h.1 h.2
/-! the library's rules with short names for what is asked behind them -/
section
variable {M : Model}
noncomputable abbrev BQ (M : Model) (A : Around) (env : Env) (r : PySem.Expr) (f : Value → Value → Sem Value) (Q E : VP) : VP := fun a s => wpAny M A (eval r env) (LQ M A (f a) Q E) E s
noncomputable abbrev SQ2 (Q : List Value → Shared → Prop) (v : Value) : List Value → Shared → Prop := fun vs s => Q (v :: vs) s
noncomputable abbrev SQ (M : Model) (A : Around) (env : Env) (pos : Pos) (rest : List PySem.Expr) (Q : List Value → Shared → Prop) (E : VP) : VP := fun v s => wpAny M A (spliced (backTo pos (starEach rest env))) (SQ2 Q v) E s
noncomputable abbrev CQ (M : Model) (A : Around) (env : Env) (pos : Pos) (args : List PySem.Expr) (Q E : VP) : VP := fun f s => wpAny M A (callWith pos f [] (backTo pos (starEach args env)) []) Q E s
noncomputable abbrev MQ2 (M : Model) (A : Around) (env : Env) (pos : Pos) (args : List PySem.Expr) (Q E : VP) : Value × List Value → Shared → Prop := fun fx s => wpAny M A (callWith pos fx.1 fx.2 (backTo pos (starEach args env)) []) Q E s
noncomputable abbrev MQ (M : Model) (A : Around) (env : Env) (pos : Pos) (name : Str) (pl : Sem Bool) (args : List PySem.Expr) (Q E : VP) : VP := fun ov s => wpAny M A (getMethod ov name pl) (MQ2 M A env pos args Q E) E s
noncomputable abbrev AQ (M : Model) (A : Around) (env : Env) (x : Str) (rest : List Stmt) (Q : Flow → Shared → Prop) (E : VP) : VP := fun v s => wpAny M A (storeName env x v) (fun _ s' => wpAny M A (execs rest env) Q E s') E s
noncomputable abbrev GQ (M : Model) (A : Around) (attr : Str) (Q E : VP) : VP := fun o s => wpAny M A (getAttr o attr true) Q E s
noncomputable abbrev IAQ (M : Model) (A : Around) (env : Env) (rest : List PySem.Expr) (pos : Pos) (whole : Sem Value) (Q : Bool → Shared → Prop) (E : VP) : Bool → Shared → Prop := fun c s => if c then wpAny M A (isTrue (.BoolOp .And rest pos) env whole) Q E s else Q false s
noncomputable abbrev IOQ (M : Model) (A : Around) (env : Env) (rest : List PySem.Expr) (pos : Pos) (whole : Sem Value) (Q : Bool → Shared → Prop) (E : VP) : Bool → Shared → Prop := fun c s => if c then Q true s else wpAny M A (isTrue (.BoolOp .Or rest pos) env whole) Q E s
noncomputable abbrev VQ3 (Q : VP) (l u : Value) : VP := fun st s₃ => Q (.ref s₃.heap.objs.size) { s₃ with heap := s₃.heap.push { cls := .type "slice", data := .fields #[l, u, st] } }
noncomputable abbrev VQ2 (M : Model) (A : Around) (env : Env) (step : Option PySem.Expr) (Q E : VP) (l : Value) : VP := fun u s => wpAny M A (evalPart step env) (VQ3 Q l u) E s
noncomputable abbrev VQ1 (M : Model) (A : Around) (env : Env) (upper step : Option PySem.Expr) (Q E : VP) : VP := fun l s => wpAny M A (evalPart upper env) (VQ2 M A env step Q E l) E s
theorem e_bin {l r : PySem.Expr} {op : Operator} {pos : Pos} {Q : VP} (h : wpAny M A (eval l env) (BQ M A env r (binaryOp op) Q E) E s) : wpAny M A (eval (.BinOp l op r pos) env) Q E s := wpAny_BinOp h
theorem e_cmp {l r : PySem.Expr} {op : CmpOp} {pos : Pos} {Q : VP} (h : wpAny M A (eval l env) (BQ M A env r (compareOp op) Q E) E s) (hm : behindInMarks op r = false := by with_unfolding_all rfl) : wpAny M A (eval (.Compare l [op] [r] pos) env) Q E s := wpAny_Compare1 h hm
theorem e_icmp {l r : PySem.Expr} {op : CmpOp} {pos : Pos} {whole : Sem Value} {Q : Bool → Shared → Prop} (h : wpAny M A (eval l env) (BQ M A env r (compareOp op) (TQ M A Q E) E) E s) (hm : behindInMarks op r = false := by with_unfolding_all rfl) : wpAny M A (isTrue (.Compare l [op] [r] pos) env whole) Q E s := wpAny_isTrue_Compare1 h hm
theorem e_sub {value slice : PySem.Expr} {pos : Pos} {Q : VP} (h : wpAny M A (eval value env) (BQ M A env slice (subscriptTail value slice) Q E) E s) : wpAny M A (eval (.Subscript value slice pos) env) Q E s := Subscript_ h
theorem e_more {e : PySem.Expr} {rest : List PySem.Expr} {pos : Pos} {Q : List Value → Shared → Prop} (h : wpAny M A (eval e env) (SQ M A env pos rest Q E) E s) (he : starEach (e :: rest) env = (false, eval e env) :: starEach rest env := by rfl) : wpAny M A (spliced (backTo pos (starEach (e :: rest) env))) Q E s := spliced_more h he
theorem e_call {func : PySem.Expr} {args : List PySem.Expr} {pos : Pos} {Q : VP} (h : wpAny M A (eval func env) (CQ M A env pos args Q E) E s)
    (he : eval (.Call func args [] pos) env = (do callWith pos (← eval func env) [] (backTo pos (starEach args env)) (backToKw pos (keywordEach [] env))) := by rfl) : wpAny M A (eval (.Call func args [] pos) env) Q E s := Call_ h he
theorem e_meth {o : PySem.Expr} {name : Str} {apos pos : Pos} {args : List PySem.Expr} {pl : Sem Bool} {Q : VP} (h : wpAny M A (eval o env) (MQ M A env pos name pl args Q E) E s)
    (he : eval (.Call (.Attribute o name apos) args [] pos) env = (do
      let ov ← eval o env
      standAt apos.atName
      let (f, first) ← holding [ov] (getMethod ov name pl)
      callWith pos f first (backTo pos (starEach args env)) []) := by rfl) : wpAny M A (eval (.Call (.Attribute o name apos) args [] pos) env) Q E s := MethodCall_ h he
theorem e_tup {elts : List PySem.Expr} {k : Nat} {pos : Pos} {Q : VP} (h : wpAny M A (spliced (backTo pos (starEach elts env))) (LQ M A newTuple Q E) E s) : wpAny M A (eval (.Tuple elts k pos) env) Q E s := Tuple_ h
theorem e_lst {elts : List PySem.Expr} {pos : Pos} {Q : VP} (h : wpAny M A (spliced (backTo pos (starEach elts env))) (LQ M A newList Q E) E s) : wpAny M A (eval (.List elts pos) env) Q E s := List_ h
theorem e_plain {e : PySem.Expr} {whole : Sem Value} {Q : Bool → Shared → Prop} (h : wpAny M A whole (TQ M A Q E) E s) (he : isTrue e env whole = (do let v ← whole; standAt e.pos; holding [v] (truthy v)) := by rfl) : wpAny M A (isTrue e env whole) Q E s := isTrue_plain h he
theorem e_and {x : PySem.Expr} {rest : List PySem.Expr} {pos : Pos} {whole : Sem Value} {Q : Bool → Shared → Prop} (h : wpAny M A (isTrue x env (eval x env)) (IAQ M A env rest pos whole Q E) E s) : wpAny M A (isTrue (.BoolOp .And (x :: rest) pos) env whole) Q E s := isTrue_and h
theorem e_or {x : PySem.Expr} {rest : List PySem.Expr} {pos : Pos} {whole : Sem Value} {Q : Bool → Shared → Prop} (h : wpAny M A (isTrue x env (eval x env)) (IOQ M A env rest pos whole Q E) E s) : wpAny M A (isTrue (.BoolOp .Or (x :: rest) pos) env whole) Q E s := isTrue_or h
theorem e_slc {lower upper step : Option PySem.Expr} {p : Pos} {Q : VP} (h : wpAny M A (evalPart lower env) (VQ1 M A env upper step Q E) E s) : wpAny M A (eval (.Slice lower upper step p) env) Q E s := wpAny_Slice h
theorem e_att {n attr : Str} {np pos : Pos} {Q : VP} (h : wpAny M A (eval (.Name n np) env) (GQ M A attr Q E) E s) : wpAny M A (eval (.Attribute (.Name n np) attr pos) env) Q E s := Attribute_name h
theorem k_asg {x : Str} {pos' pos : Pos} {value : PySem.Expr} {rest : List Stmt} {Q : Flow → Shared → Prop} (h : wpAny M A (eval value env) (AQ M A env x rest Q E) E s) (hs : swapsWith value (some (.Name x pos')) pos.line env = pure false := by rfl) :
    wpAny M A (execs (.Assign [.Name x pos'] value pos :: rest) env) Q E s := e_cons (wpAny_Assign_Name h hs)
theorem k_ret {e : PySem.Expr} {pos : Pos} {rest : List Stmt} {Q : Flow → Shared → Prop} (h : wpAny M A (eval e env) (fun v => Q (.ret v)) E s) : wpAny M A (execs (.Return (some e) pos :: rest) env) Q E s := e_cons (wpAny_Return_some h)
end
theorem k_arg {x : Str} {v : Value} {p pos : Pos} {rest : List PySem.Expr} {Q : List Value → Shared → Prop} (O : Ok G c st s) (hl : c.env.kindOf x = some .local) (hv : st.m x = some v) (h : wpAny (model G.prog G.w) A (spliced (backTo pos (starEach rest c.env))) (SQ2 Q v) E s)
    (hd : (x == ("__debug__" : Str)) = false := by decide +kernel) : wpAny (model G.prog G.w) A (spliced (backTo pos (starEach (.Name x p :: rest) c.env))) Q E s := spliced_more (r_name O hl hv h hd)
theorem k_def {x : Str} {a : Addr} {p pos : Pos} {e1 : PySem.Expr} {rest : List PySem.Expr} {Q : VP} (O : Ok G c st s) (hx : c.env.kindOf x = some .globalImplicit) (e : nsIn G.K mainGlobals x = some (some (.ref a))) (hk : keepIn G.K (.ref a) = true)
    (h : wpAny (model G.prog G.w) A (spliced (backTo pos (starEach (e1 :: rest) c.env))) (DQ G A (.ref a) [] Q E) E s)
    (hd : (x == ("__debug__" : Str)) = false := by decide +kernel) (he : eval (.Call (.Name x p) (e1 :: rest) [] pos) c.env = (do callWith pos (← eval (.Name x p) c.env) [] (backTo pos (starEach (e1 :: rest) c.env)) (backToKw pos (keywordEach [] c.env))) := by rfl)
    (he2 : starEach (e1 :: rest) c.env = (false, eval e1 c.env) :: starEach rest c.env := by rfl) (hplain : (backTo pos (starEach rest c.env)).any (·.1) = false := by rfl) :
    wpAny (model G.prog G.w) A (eval (.Call (.Name x p) (e1 :: rest) [] pos) c.env) Q E s := Call_ (r_glob O hx e (r_def hk h he2 hplain) hd) he
theorem k_lenB {y : Str} {b : List UInt8} {t : Tok} {p p2 pos : Pos} {Q : VP} (O : Ok G c st s) (hx : c.env.kindOf "len" = some .globalImplicit) (e : nsIn G.K mainGlobals "len" = some none) (hl : c.env.kindOf y = some .local) (hv : st.m y = some (.bytes b.toArray t)) (hz : b.length ≤ 16777216)
    (h : ∀ t s', Ok G c st s' → Q (.int b.length t) s') (hd : (y == ("__debug__" : Str)) = false := by decide +kernel)
    (he : eval (.Call (.Name "len" p) [.Name y p2] [] pos) c.env = (do callWith pos (← eval (.Name "len" p) c.env) [] (backTo pos (starEach [.Name y p2] c.env)) (backToKw pos (keywordEach [] c.env))) := by rfl) :
    wpAny (model G.prog G.w) A (eval (.Call (.Name "len" p) [.Name y p2] [] pos) c.env) Q E s :=
  Call_ (r_blt O hx e PyProof.Rows.Boot.«len» (c_b1 (spliced_more (r_name O hl hv (spliced_none (r_lenB O hz h)) hd)))) he
theorem k_isi {y T : Str} {x cl t : Value} {b : Bool} {H : Heap → Prop} {p p2 p3 pos : Pos} {Q : VP} (O : Ok G c st s) (hx : c.env.kindOf "isinstance" = some .globalImplicit) (e : nsIn G.K mainGlobals "isinstance" = some none) (hl : c.env.kindOf y = some .local) (hv : st.m y = some x)
    (hx2 : c.env.kindOf T = some .globalImplicit) (e2 : nsIn G.K mainGlobals T = some none) (hb : bootBuiltins T = some cl) (Z : KitX G.K x t H) (hp : H s.heap) (hk : kitOne G.K t cl = some b) (hn : x ≠ .builtin "__main__.__loader__#opaque")
    (h : ∀ s', Ok G c st s' → Q (.bool b) s') (hd : (y == ("__debug__" : Str)) = false := by decide +kernel) (hn2 : T ≠ ("__name__" : Str) := by decide +kernel) (hd2 : (T == ("__debug__" : Str)) = false := by decide +kernel)
    (he : eval (.Call (.Name "isinstance" p) [.Name y p2, .Name T p3] [] pos) c.env = (do callWith pos (← eval (.Name "isinstance" p) c.env) [] (backTo pos (starEach [.Name y p2, .Name T p3] c.env)) (backToKw pos (keywordEach [] c.env))) := by rfl) :
    wpAny (model G.prog G.w) A (eval (.Call (.Name "isinstance" p) [.Name y p2, .Name T p3] [] pos) c.env) Q E s :=
  Call_ (r_blt O hx e PyProof.Rows.Boot.«isinstance» (c_b1 (spliced_more (r_name O hl hv (spliced_more (r_blt O hx2 e2 hb (spliced_none (r_isi Z O hp hk hn h)) hn2 hd2)) hd)))) he
end
section
theorem minL {a b c : Nat} (h : a ≤ c) : min a b ≤ c := Nat.le_trans (Nat.min_le_left _ _) h
theorem lt_dec {i n : Nat} (h : i < n) : n - (i + 1) < n - i := Nat.sub_lt_sub_left h (Nat.lt_succ_self i)
theorem sub_at {n i k : Nat} (h : n - i = k + 1) : n - (i + 1) = k := by rw [Nat.sub_succ, h]; rfl
theorem sub_up {n i : Nat} (h : i < n) : n - i = n - (i + 1) + 1 := by lia
theorem nxt_j {n i j : Nat} (hi : i < n) (hj : j < n) (e : n - (i + 1) = n - 1 - j) : j = i := by lia
theorem ilt (a n : Nat) : ((a : Int) < (n : Int)) ↔ a < n := Int.ofNat_lt
theorem icast {b n : Nat} (h : n ≤ b) : (b : Int) - (n : Int) = ((b - n : Nat) : Int) := (Int.ofNat_sub h).symm
noncomputable def be (n : Nat) : List Nat := if h : n = 0 then [] else be (n / 256) ++ [n % 256]
termination_by n
decreasing_by lia
theorem be_zero : be 0 = [] := by rw [be]; simp
theorem be_pos {n : Nat} (h : n ≠ 0) : be n = be (n / 256) ++ [n % 256] := by rw [be]; simp [h]
theorem be_lt : ∀ (n : Nat), ∀ d ∈ be n, d < 256 := by
  intro n
  induction n using Nat.strongRecOn with
  | ind n ih =>
    intro d hd
    by_cases h : n = 0
    · subst h; rw [be_zero] at hd; cases hd
    · rw [be_pos h] at hd
      rcases List.mem_append.mp hd with hd | hd
      · exact ih _ (by lia) d hd
      · rw [List.mem_singleton.mp hd]; lia
theorem be_len : ∀ (k n : Nat), n < 256 ^ k → (be n).length ≤ k := by
  intro k
  induction k with
  | zero => intro n h; have : n = 0 := by simpa using h
            subst this; rw [be_zero]; simp
  | succ k ih =>
    intro n h
    by_cases h0 : n = 0
    · subst h0; rw [be_zero]; simp
    · rw [be_pos h0, List.length_append, List.length_singleton]
      have := ih (n / 256) (by rw [Nat.pow_succ] at h; lia)
      lia
noncomputable def headF (base size : Nat) (longer : Bool) : List Nat :=
  if size < 56 ∧ longer = false then [base + size]
  else if size < 56 then [base + 56, size]
  else (base + 55 + ((if longer then 0 :: be size else be size).length)) :: (if longer then 0 :: be size else be size)
noncomputable def bytesOf (l : List Nat) : List UInt8 := l.map fun n => n.toUInt8
inductive It where
  | s (b : List UInt8)
  | l (ts : List It)
mutual
noncomputable def putF : It → Int → List UInt8 × Int
  | .s b, c =>
    let c1 := c - 1
    if b.length = 1 ∧ (b.getD 0 0).toNat < 128 then (if c1 = 0 then 129 :: b else b, c1)
    else (bytesOf (headF 128 b.length (c1 = 0)) ++ b, c1)
  | .l ts, c =>
    let c1 := c - 1
    let r := putL ts c1
    (bytesOf (headF 192 r.1.length (c1 = 0)) ++ r.1, r.2)
noncomputable def putL : List It → Int → List UInt8 × Int
  | [], c => ([], c)
  | t :: ts, c =>
    let r := putF t c
    let q := putL ts r.2
    (r.1 ++ q.1, q.2)
end
mutual
noncomputable def It.sz : It → Nat
  | .s b => b.length + 10
  | .l ts => It.szL ts + 10
noncomputable def It.szL : List It → Nat
  | [] => 0
  | t :: ts => t.sz + It.szL ts
end
mutual
noncomputable def It.dp : It → Nat
  | .s _ => 0
  | .l ts => It.dpL ts + 1
noncomputable def It.dpL : List It → Nat
  | [] => 0
  | t :: ts => max t.dp (It.dpL ts)
end
theorem headF_len (base size : Nat) (longer : Bool) (h : size < 256 ^ 8) : (headF base size longer).length ≤ 10 := by
  have := be_len 8 size h
  unfold headF
  split
  · simp
  · split
    · simp
    · split <;> simp <;> lia
mutual
theorem putF_len : ∀ (t : It) (c : Int), t.sz < 256 ^ 8 → (putF t c).1.length ≤ t.sz
  | .s b, c, h => by
    have hb : b.length < 256 ^ 8 := by rw [It.sz] at h; lia
    have := headF_len 128 b.length (decide (c - 1 = 0)) hb
    rw [putF, It.sz]
    split
    · split <;> simp <;> lia
    · simp [bytesOf]; lia
  | .l ts, c, h => by
    rw [It.sz] at h
    have h1 := putL_len ts (c - 1) (by lia)
    have := headF_len 192 (putL ts (c - 1)).1.length (decide (c - 1 = 0)) (by lia)
    rw [putF, It.sz]
    simp [bytesOf]; lia
theorem putL_len : ∀ (ts : List It) (c : Int), It.szL ts < 256 ^ 8 → (putL ts c).1.length ≤ It.szL ts
  | [], c, _ => by rw [putL]; simp
  | t :: ts, c, h => by
    rw [It.szL] at h
    have h1 := putF_len t c (by lia)
    have h2 := putL_len ts (putF t c).2 (by lia)
    rw [putL, It.szL]
    simp only [List.length_append]; lia
end
/-! an item in the heap -/
mutual
inductive Rep (I : Hp) : Value → It → Prop
  | s (b : List UInt8) (t : Tok) : Rep I (.bytes b.toArray t) (.s b)
  | l {a : Addr} {vs : List Value} {n : Nat} {ts : List It} : I a = some (lst vs n) → RepL I vs ts → Rep I (.ref a) (.l ts)
inductive RepL (I : Hp) : List Value → List It → Prop
  | nil : RepL I [] []
  | cons {v : Value} {vs : List Value} {t : It} {ts : List It} : Rep I v t → RepL I vs ts → RepL I (v :: vs) (t :: ts)
end
theorem Rep.mono {I I' : Hp} (h : ∀ a o, I a = some o → I' a = some o) {v : Value} {t : It} (r : Rep I v t) : Rep I' v t :=
  Rep.rec (motive_1 := fun v t _ => Rep I' v t) (motive_2 := fun vs ts _ => RepL I' vs ts) (fun b t => .s b t) (fun e _ ih => .l (h _ _ e) ih) .nil (fun _ _ a b => .cons a b) r
theorem RepL.mono {I I' : Hp} (h : ∀ a o, I a = some o → I' a = some o) {vs : List Value} {ts : List It} (r : RepL I vs ts) : RepL I' vs ts :=
  RepL.rec (motive_1 := fun v t _ => Rep I' v t) (motive_2 := fun vs ts _ => RepL I' vs ts) (fun b t => .s b t) (fun e _ ih => .l (h _ _ e) ih) .nil (fun _ _ a b => .cons a b) r
theorem RepL.length {I : Hp} {vs : List Value} {ts : List It} (r : RepL I vs ts) : vs.length = ts.length :=
  RepL.rec (motive_1 := fun _ _ _ => True) (motive_2 := fun vs ts _ => vs.length = ts.length) (fun _ _ => trivial) (fun _ _ _ => trivial) rfl (fun _ _ _ b => congrArg Nat.succ b) r
theorem RepL.snoc {I : Hp} {v : Value} {t : It} (q : Rep I v t) {vs : List Value} {ts : List It} (r : RepL I vs ts) : RepL I (vs ++ [v]) (ts ++ [t]) :=
  RepL.rec (motive_1 := fun _ _ _ => True) (motive_2 := fun vs ts _ => RepL I (vs ++ [v]) (ts ++ [t])) (fun _ _ => trivial) (fun _ _ _ => trivial) (.cons q .nil) (fun r _ _ b => .cons r b) r
theorem RepL.get {I : Hp} {vs : List Value} {ts : List It} {i : Nat} {v : Value} (r : RepL I vs ts) : vs[i]? = some v → ∃ t, ts[i]? = some t ∧ Rep I v t :=
  RepL.rec (motive_1 := fun _ _ _ => True) (motive_2 := fun vs ts _ => ∀ i v, vs[i]? = some v → ∃ t, ts[i]? = some t ∧ Rep I v t) (fun _ _ => trivial) (fun _ _ _ => trivial) (fun _ _ h => by simp at h)
    (fun r _ _ b i v h => by
      cases i with
      | zero => cases (show some _ = some _ from h); exact ⟨_, rfl, r⟩
      | succ i => exact b i v h) r i v
end
section
variable {G : Base} {c : Fm} {st : St} {s : Shared} {A : Around} {E : VP} {env : Env}
theorem r_list_loop {x : Str} {px : Pos} {body : List Stmt} {l : Addr} {vs : List Value} {nn : Nat} {m : Mp} {I : Hp} {W : Ws} {Q : Flow → Shared → Prop} {E₁ : Ex → St → Prop} (J : Nat → St → Prop) (hh : A.handled = none)
    (O : Ok G c ⟨m, I, W⟩ s) (hl : I l = some (lst vs nn)) (hx : c.env.kindOf x = some .local) (hfr : A.frames = some (c.env :: c.outer)) (j0 : J 0 ⟨m, I, W⟩)
    (turn : ∀ (i : Nat) v st' Wi s', vs[i]? = some v → J i st' → Ok G (c.re I) ⟨ov [(x, v)] st'.m, st'.I, Wi ++ st'.W⟩ s' →
      wpAny (model G.prog G.w) A (execs body c.env) (TurnQ G (c.re I) (J (i + 1)) Wi Q) (ESt G (c.re I) E₁) s')
    (done : ∀ st' s', J vs.length st' → Ok G c st' s' → (∀ a o, I a = some o → st'.I a = some o) → Q .next s') :
    wpAny (model G.prog G.w) A (pyIter (.ref l)) (fun it s₂ =>
      codeAny (model G.prog G.w) A (.forLoop (.Name x px) it body [] c.env) (fun r s' => match r with | .ok f => Q f s' | .error e => cameBackBy (model G.prog G.w) A c.env (ESt G c E₁) e s') s₂) (ESt G c E₁) s := by
  have e := O.im l _ hl
  refine wpAny_pyIter_list (isL e) ?_
  have hf := size_free s.heap
  have O₂ := O.own (s' := { s with heap := s.heap.push { cls := .type "list_iterator", data := .fields #[.ref l, .int 0 0] } }) (fun _ _ e => Heap.get?_push_of_some _ e) hf (Heap.get?_push_size _ rfl) rfl rfl
  have hne : l ≠ s.heap.objs.size := fun q => by rw [q, hf] at e; cases e
  refine loop_for (Wi := [_]) (wr := [_]) J (Walks.list hh _ l hne vs.toArray) (fun i h e b hb => ?_) hx hfr O₂ rfl (fun b hb => ?_) (fun b hb h => ?_) ?_ j0
    (fun i v st' Wi' s' hi hP hJ O' => ?_) (fun st' s' hJ O' => done st' s' (by simpa using hJ) (O₂.unre rfl O') fun a o e => O'.sub a o e) fun e s' he => ESt.noted hfr (ESt.unre O rfl he)
  · rw [List.mem_singleton.mp hb]; obtain ⟨o, ho, _⟩ := e.1; exact ⟨o, ho⟩
  · rw [List.mem_singleton.mp hb]; exact (off_fresh O hf).2.2.2
  · rcases List.mem_cons.mp hb with rfl | hb
    · exact absurd (.head _) h
    · rw [List.mem_singleton.mp hb]; exact ⟨_, hl⟩
  · exact ⟨⟨_, Heap.get?_push_size _ rfl, rfl, rfl⟩, isL (Heap.get?_push_of_some _ e)⟩
  · refine wpAny_mono (turn i v st' Wi' s' (by simpa using hP) hJ O') (fun f s3 h => ?_) fun _ _ h => h
    cases f <;> exact h
theorem p_none {M : Model} {Q : VP} (h : Q .none s) : wpAny M A (evalPart none env) Q E s := wpAny_pure h
theorem p_some {M : Model} {e : PySem.Expr} {Q : VP} (h : wpAny M A (eval e env) Q E s) : wpAny M A (evalPart (some e) env) Q E s := h
theorem clip_ge {n : Nat} {i : Int} (h : 0 ≤ i) : clipAt n i = min i.toNat n := by
  unfold clipAt
  rw [if_neg (Int.not_lt.mpr h)]
  obtain ⟨k, rfl⟩ := Int.eq_ofNat_of_zero_le h
  rw [Int.toNat_natCast]
  rcases Nat.le_total k n with q | q
  · rw [Nat.min_eq_left q, Int.min_eq_left (Int.ofNat_le.mpr q), Int.max_eq_right h, Int.toNat_natCast]
  · rw [Nat.min_eq_right q, Int.min_eq_right (Int.ofNat_le.mpr q), Int.max_eq_right (Int.natCast_nonneg n), Int.toNat_natCast]
theorem r_fbGet {pl : Sem Bool} {Q : Value × List Value → Shared → Prop} {m : Mp} {I : Hp} {W : Ws} (O : Ok G c ⟨m, I, W⟩ s)
    (e : findCls G.K (.type "int") (.type "type") (PySem.Str.ofString "from_bytes") = some (.get (.builtin "classmethod_descriptor.__get__") (.builtin "int.from_bytes") .none (.type "int")))
    (h : ∀ x s', Ok G c ⟨m, I, (x, KFB.bound) :: W⟩ s' → Q (.ref x, []) s') : wpAny (model G.prog G.w) A (getMethod (.type "int") (PySem.Str.ofString "from_bytes") pl) Q E s := by
  have X := G.X.keeps O.keepB
  have hstub : opaqueClassAbove (.type "int") = pure none := by unfold opaqueClassAbove; dsimp only; rw [show Manifest.isStub "int" = false by decide +kernel]; rfl
  have L0 : Looks (model G.prog G.w) s.heap (typeOf (.type "int")) (.type "type") := Looks.of_pure (by first | rfl | kernel_rfl)
  have hg : findIn G.K (.type "type") "__getattribute__" = some (some (.builtin "type.__getattribute__")) := type_tga
  unfold getMethod specialOf
  refine wpAny_bind (wpAny_bind (L0.here ((looks_findIn X hg).here ?_)))
  dsimp only
  rw [if_pos canon_tga]
  refine wpAny_bind (wpAny_mono (Q := fun v => Q (v, [])) (E := E) ?_ (fun _ _ z => wpAny_pure z) fun _ _ z => z)
  have LO : Looks (model G.prog G.w) s.heap (opaqueClassAbove (.type "int")) none := Looks.of_pure hstub
  refine cls_open X LO L0 hg (looks_hook X (r := none) (by rfl)) (by show subIn G.K _ _ = _; rfl) e ?_
  refine wpAny_bind (wpAny_holding (wpAny_call_entry KFB.slot_get KFB.type_fb KFB.entry_get (KFB.run_get ⟨_, rfl, wpAny_pure (wpAny_pure (h _ _ ?_))⟩) (KFB.args_get _ _ _)))
  exact O.toks.own (s' := { s with heap := s.heap.push KFB.bound, toks := s.toks + 1 }) (fun _ _ e => Heap.get?_push_of_some _ e) (size_free _) (Heap.get?_push_size _ rfl) rfl rfl
variable {G : Base} {c : Fm} {st : St} {s : Shared} {A : Around} {E : VP} {env : Env}
noncomputable def vD (x : List UInt8) : Nat := x.foldl (fun a b => a * 256 + b.toNat) 0
theorem vD_int (x : List UInt8) : KFB.value (KBw.bInts x.toArray) = (vD x : Int) := (KFB.fold_cast x 0).symm
theorem r_fbWith {pos : Pos} {u : Addr} {e : PySem.Expr} {rest : List PySem.Expr} {Q : VP}
    (h : wpAny (model G.prog G.w) A (spliced (backTo pos (starEach (e :: rest) env))) (fun vs s₁ => KFB.StandsAt u s₁.heap ∧ wpAny (model G.prog G.w) A (call (.ref u) vs) Q E s₁) E s)
    (he : starEach (e :: rest) env = (false, eval e env) :: starEach rest env := by rfl) (hplain : (backTo pos (starEach rest env)).any (·.1) = false := by rfl) :
    wpAny (model G.prog G.w) A (callWith pos (.ref u) [] (backTo pos (starEach (e :: rest) env)) []) Q E s := by
  rw [he] at h ⊢
  refine KFB.callWith_fields (by show (false || (backTo pos (starEach rest env)).any (·.1)) = false; rw [hplain]; rfl) ?_
  exact evalArgs_plain h
theorem r_str {x : PySem.Str} {k : Nat} {pos : Pos} {Q : VP} (O : Ok G c st s) (h : ∀ t s', Ok G c st s' → Q (.str x t) s') : wpAny (model G.prog G.w) A (eval (.Constant (.str x) k pos) env) Q E s := Constant_str (h _ _ O.toks)
theorem r_if {test : PySem.Expr} {body orelse : List Stmt} {pos : Pos} {Q : Flow → Shared → Prop} (_ : Ok G c st s) (P : Prop)
    (hc : wpAny (model G.prog G.w) A (isTrue test env (eval test env)) (fun b s' => Ok G c st s' ∧ (b = true ↔ P)) E s)
    (h1 : ∀ s', Ok G c st s' → P → wpAny (model G.prog G.w) A (execs body env) Q E s')
    (h2 : ∀ s', Ok G c st s' → ¬ P → wpAny (model G.prog G.w) A (execs orelse env) Q E s') :
    wpAny (model G.prog G.w) A (exec (.If test body orelse pos) env) Q E s := by
  refine wpAny_If (wpAny_mono hc (fun b s' h => ?_) fun _ _ h => h)
  cases b with
  | false => exact h2 s' h.1 fun p => by have := h.2.mpr p; cases this
  | true => exact h1 s' h.1 (h.2.mp rfl)
theorem iff_no {P : Prop} (h : ¬ P) : false = true ↔ P := ⟨fun e => (by cases e), fun p => (h p).elim⟩
theorem iff_yes {P : Prop} (h : P) : true = true ↔ P := ⟨fun _ => h, fun _ => rfl⟩
theorem iff_dec {p P : Prop} [Decidable p] (h : p ↔ P) : decide p = true ↔ P := by rw [decide_eq_true_iff]; exact h
theorem r_eqi {a b : Int} {t u : Tok} {Q : VP} (h : Q (.bool (decide (a = b))) s) : wpAny (model G.prog G.w) A (compareOp .Eq (.int a t) (.int b u)) Q E s := by
  refine eq_int ?_
  have : (a == b) = decide (a = b) := by by_cases q : a = b <;> simp [q]
  rw [this]; exact h
theorem r_nei {a b : Int} {t u : Tok} {Q : VP} (h : Q (.bool (decide (a ≠ b))) s) : wpAny (model G.prog G.w) A (compareOp .NotEq (.int a t) (.int b u)) Q E s := by
  refine ne_int ?_
  have : (a != b) = decide (a ≠ b) := by by_cases q : a = b <;> simp [q]
  rw [this]; exact h
theorem r_neg {a : Int} {t : Tok} {Q : VP} (O : Ok G c st s) (h : ∀ t s', Ok G c st s' → Q (.int (-a) t) s') : wpAny (model G.prog G.w) A (unaryOp .USub (.int a t)) Q E s := neg_int (h _ _ O.toks)
theorem r_last {value slice : PySem.Expr} {l : Addr} {vs : List Value} {n : Nat} {u : Tok} {v : Value} {Q : VP} (e : s.heap.get? l = some (lst (vs ++ [v]) n)) (hz : vs.length ≤ 1000000) (h : Q v s)
    (hs : subscripted slice false (.ref l) (.int (-1) u) = operate [.ref l, .int (-1) u] (getItem (.ref l) (.int (-1) u)) := by with_unfolding_all rfl) (hg : ∀ r, letTemporaryGo value (.ref l) r = pure () := by intro _; with_unfolding_all rfl) :
    wpAny (model G.prog G.w) A (subscriptTail value slice (.ref l) (.int (-1) u)) Q E s :=
  r_itemLneg e (by simp; lia) (by simp; lia) (by
    have : ((-1 : Int) + ((vs ++ [v]).length : Nat)).toNat = vs.length := by simp; lia
    rw [this]; simp) h hs hg
theorem Ok.fix' {x : Addr} {o : Obj} {I : Hp} {W1 W2 : Ws} {m : Mp} (O : Ok G c ⟨m, I, W1 ++ (x, o) :: W2⟩ s) : Ok G c ⟨m, fun a => if a = x then some o else I a, W1 ++ W2⟩ s :=
  (O.perm (W' := (x, o) :: (W1 ++ W2)) List.perm_middle.symm).fix
end
section
mutual
noncomputable def enc : It → List UInt8
  | .s b => if b.length = 1 ∧ (b.getD 0 0).toNat < 128 then b else bytesOf (headF 128 b.length false) ++ b
  | .l ts => bytesOf (headF 192 (encL ts).length false) ++ encL ts
noncomputable def encL : List It → List UInt8
  | [] => []
  | t :: ts => enc t ++ encL ts
end
mutual
theorem putF_enc : ∀ (t : It) (c : Int), c ≤ 0 → (putF t c).1 = enc t ∧ (putF t c).2 ≤ 0
  | .s b, c, h => by
    have e : ¬ c - 1 = 0 := by lia
    rw [putF, enc]
    by_cases q : b.length = 1 ∧ (b.getD 0 0).toNat < 128
    · simp only [if_pos q, if_neg e]; exact ⟨trivial, by lia⟩
    · simp only [if_neg q, e, decide_false]; exact ⟨trivial, by lia⟩
  | .l ts, c, h => by
    have e : ¬ c - 1 = 0 := by lia
    have := putL_enc ts (c - 1) (by lia)
    rw [putF, enc]
    simp only [e, decide_false, this.1]
    exact ⟨trivial, this.2⟩
theorem putL_enc : ∀ (ts : List It) (c : Int), c ≤ 0 → (putL ts c).1 = encL ts ∧ (putL ts c).2 ≤ 0
  | [], c, h => by rw [putL, encL]; exact ⟨rfl, h⟩
  | t :: ts, c, h => by
    have h1 := putF_enc t c h
    have h2 := putL_enc ts (putF t c).2 h1.2
    rw [putL, encL]
    simp only [h1.1, h2.1]
    exact ⟨trivial, h2.2⟩
end
theorem encL_append : ∀ a b, encL (a ++ b) = encL a ++ encL b
  | [], b => by rw [List.nil_append, encL, List.nil_append]
  | t :: a, b => by rw [List.cons_append, encL, encL, encL_append a b, List.append_assoc]
noncomputable def ofD (l : List Nat) : Nat := l.foldl (fun a d => a * 256 + d) 0
theorem ofD_snoc (l : List Nat) (d : Nat) : ofD (l ++ [d]) = ofD l * 256 + d := by simp [ofD]
theorem ofD_be (n : Nat) : ofD (be n) = n := by
  induction n using Nat.strongRecOn with
  | ind n ih =>
    by_cases h : n = 0
    · subst h; rw [be_zero]; rfl
    · rw [be_pos h, ofD_snoc, ih _ (by lia)]; lia
theorem be_head (n : Nat) (h : n ≠ 0) : ∃ d l, be n = d :: l ∧ d ≠ 0 := by
  induction n using Nat.strongRecOn with
  | ind n ih =>
    rw [be_pos h]
    by_cases q : n / 256 = 0
    · rw [q, be_zero]
      exact ⟨n % 256, [], rfl, by lia⟩
    · obtain ⟨d, l, e, hd⟩ := ih _ (by lia) q
      exact ⟨d, l ++ [n % 256], by rw [e]; rfl, hd⟩
theorem headF_short {base size : Nat} (h : size < 56) : headF base size false = [base + size] := by simp [headF, h]
theorem headF_long {base size : Nat} (h : 56 ≤ size) : headF base size false = (base + 55 + (be size).length) :: be size := by
  have : ¬ size < 56 := by lia
  simp [headF, this]
theorem szL_append : ∀ a b, It.szL (a ++ b) = It.szL a + It.szL b
  | [], b => by rw [List.nil_append, It.szL, Nat.zero_add]
  | t :: a, b => by rw [List.cons_append, It.szL, It.szL, szL_append a b, Nat.add_assoc]
theorem dpL_append : ∀ a b, It.dpL (a ++ b) = max (It.dpL a) (It.dpL b)
  | [], b => by rw [List.nil_append, It.dpL, Nat.zero_max]
  | t :: a, b => by rw [List.cons_append, It.dpL, It.dpL, dpL_append a b, Nat.max_assoc]
theorem sz_ge : ∀ t : It, 10 ≤ t.sz
  | .s b => by rw [It.sz]; lia
  | .l ts => by rw [It.sz]; lia
theorem len_szL : ∀ ts : List It, 10 * ts.length ≤ It.szL ts
  | [] => by rw [It.szL]; simp
  | t :: ts => by have := len_szL ts; have := sz_ge t; rw [It.szL, List.length_cons]; lia
end
section
variable {G : Base} {c : Fm} {st : St} {s : Shared} {A : Around} {E : VP} {env : Env}
theorem perm_in {α : Type} {x y : α} {U W : List α} : (U ++ x :: y :: W).Perm (y :: (U ++ x :: W)) := by
  have := List.perm_middle (a := y) (l₁ := U ++ [x]) (l₂ := W)
  simpa [List.append_assoc] using this
theorem sub_fix {I : Hp} {x : Addr} {o : Obj} (h : I x = none) : ∀ a o', I a = some o' → (fun a => if a = x then some o else I a) a = some o' := fun a o' e => by
  show (if a = x then some o else I a) = _
  by_cases q : a = x
  · subst q; rw [h] at e; cases e
  · rw [if_neg q]; exact e
variable {G : Base} {c : Fm} {st : St} {s : Shared} {A : Around} {E : VP} {env : Env}
variable {G : Base} {c : Fm} {s : Shared}
theorem Ok.unre0 {I : Hp} {m m' : Mp} {I' : Hp} {W W' : Ws} {s0 : Shared} (O0 : Ok G c ⟨m, I, W⟩ s0) (O : Ok G (c.re I) ⟨m', I', W'⟩ s) : Ok G c ⟨m', I', W'⟩ s := O0.unre rfl O
variable {G : Base} {c : Fm} {s : Shared}
theorem Ok.cW {m : Mp} {I : Hp} {W W' : Ws} (O : Ok G c ⟨m, I, W⟩ s) (h : W = W') : Ok G c ⟨m, I, W'⟩ s := h ▸ O
variable {G : Base} {c : Fm} {st : St} {s : Shared} {A : Around} {E : VP} {env : Env}
theorem tail_tmp {value slice : PySem.Expr} {o i : Value} {T id : String} {ops : List Value} {Q : VP} (hT : s.TypeIs o T)
    (hl : typeLookup (.type T) "__getitem__" = pure (some (.builtin id))) (h : wpAny (model G.prog G.w) A (getItem o i) Q E s)
    (hs : subscripted slice false o i = operate ops (getItem o i)) :
    wpAny (model G.prog G.w) A (subscriptTail value slice o i) Q E s := by
  unfold subscriptTail
  refine wpAny_bind ?_
  rw [getitemInPython_of_ne hT.not_modules]
  refine wpAny_bind (wpAny_specialOf hT hl ?_)
  have fin : wpAny (model G.prog G.w) A (subscripted slice false o i) (fun r s₃ => wpAny (model G.prog G.w) A (letTemporaryGo value o r >>= fun _ => pure r) Q E s₃) E s := by
    rw [hs]
    exact wpAny_operating (wpAny_mono h (fun r s₃ h₃ => wpAny_bind (wpAny_letTemporaryGo (wpAny_pure h₃))) fun _ _ x => x)
  first
    | exact wpAny_pure (wpAny_bind fin)
    | exact wpAny_bind (wpAny_pure (wpAny_bind fin))
    | exact wpAny_bind fin
theorem r_itemLt {value slice : PySem.Expr} {l : Addr} {vs : List Value} {n : Nat} {k : Int} {u : Tok} {v : Value} {Q : VP} (e : s.heap.get? l = some (lst vs n)) (hz : vs.length ≤ 16777216) (hk : 0 ≤ k) (hv : vs[k.toNat]? = some v) (h : Q v s)
    (hs : subscripted slice false (.ref l) (.int k u) = operate [.ref l, .int k u] (getItem (.ref l) (.int k u)) := by with_unfolding_all rfl) :
    wpAny (model G.prog G.w) A (subscriptTail value slice (.ref l) (.int k u)) Q E s :=
  tail_tmp (isL e).typeIs list_getitem_lookup (wpAny_getItem_list (isL e) hk (by have := (List.getElem?_eq_some_iff.mp hv).1; lia) (by simpa using hv) h) hs
theorem flat_len (n : Nat) (y : UInt8) : (List.replicate n [y]).flatten.length = n := by
  induction n with
  | zero => rfl
  | succ n ih => rw [List.replicate_succ, List.flatten_cons, List.length_append, ih]; simp; lia
end
section
section
variable {prog : Program} {w : World} {A : Around} {E : VP} {h : Heap} {g : Array GenState} {d : Drawn} {t : Nat} {os : OsState}
variable {nm q : Str} {C N : Addr} {bs bm bmB : List Value} {hdct : Bool} {sn : List Str} {sub : List Value} {ab : Bool} {col : Option Bool} {dd : Option Addr} {k0 k1 k2 k3 k5 : Option Value} {B newId initId : String}
noncomputable abbrev excObj (C : Addr) (t : Addr) (dx : Option Addr) : Obj := { cls := .ref C, dict := dx, data := .fields #[.ref t, .none, .none, .none, .bool false, .none] }
theorem type_call_own (F : ExcBaseFacts B newId initId bmB) (T : OwnTail h bmB bm) {rest : List Value} {fI : Addr} {Q : Fin → Shared → Prop}
    (hC : h.get? C = some (excClassObj nm q C N bs bm hdct sn sub ab col dd k0 k1 k2 k3 k5 newId))
    (hi : Looks (model prog w) h (typeLookup (.ref C) "__init__") (some (.ref fI))) (hb : ∀ self, Looks (model prog w) h (bindSpecial (.ref fI) self) (.ref fI, [self]))
    (hrest : rest.length ≤ sizeLine)
    (hq : wpAny (model prog w) A (call (.ref fI) (.ref (h.objs.size + 1) :: rest)) (fun v s' => v = .none ∧ Q (.done (.ret (.ref (h.objs.size + 1)))) s') E
      ⟨(h.push { cls := .type "tuple", data := .seq rest.toArray }).push (excObj C h.objs.size none), g, d, t, os⟩) :
    wpAny (model prog w) A (Builtin.«type.__call__» ⟨.ref C :: rest, []⟩) Q E ⟨h, g, d, t, os⟩ := by
  repeat (first | with_reducible refine wpAny_loadPart_at hC ?_ | with_reducible refine wpAny_madeBy_exc hC ?_ | wp_step)
  refine codeAny_call_builtin_code (Code.quiet_builtin _ F.quiet) (wpAny_check_new_subT F T hC ?_)
  refine codeAny_exc_new_subT F T hC ?_ hrest
  show wpAny _ _ _ _ _ _
  have hC₁ := Heap.get?_push_of_some { cls := .ref C, data := .fields #[.ref h.objs.size, .none, .none, .none, .bool false, .none] }
    (Heap.get?_push_of_some { cls := .type "tuple", data := .seq rest.toArray } hC)
  have k : ∀ b o, h.get? b = some o → ((h.push { cls := .type "tuple", data := .seq rest.toArray }).push { cls := .ref C, data := .fields #[.ref h.objs.size, .none, .none, .none, .bool false, .none] }).get? b = some o := fun b o e => Heap.get?_push_of_some _ (Heap.get?_push_of_some _ e)
  have hget : ((h.push { cls := .type "tuple", data := .seq rest.toArray }).push
      { cls := .ref C, data := .fields #[.ref h.objs.size, .none, .none, .none, .bool false, .none] }).get? (h.objs.size + 1) = some
      { cls := .ref C, data := .fields #[.ref h.objs.size, .none, .none, .none, .bool false, .none] } := by heap_get
  have hcC : (Value.ref C :: bm).contains (.ref C) = true := by simp
  unfold isInstance
  repeat (first | with_reducible refine wpAny_loadPart_at hget ?_ | (with_reducible refine wpAny_isSubtype_exc hC₁ ?_; rw [hcC]) | wp_step)
  show wpAny _ _ (typeLookup (.ref C) _) _ _ _
  refine (hi.keeps k).here ?_
  refine wpAny_holding (wpAny_bind (((hb (.ref (h.objs.size + 1))).keeps k).here ?_))
  refine wpAny_bind (wpAny_mono hq (fun v s' hv => ?_) fun _ _ z => z)
  obtain ⟨rfl, hv⟩ := hv
  obtain ⟨h', g', d', t', os'⟩ := s'
  wp_walk
  exact hv
theorem call_own (F : ExcBaseFacts B newId initId bmB) (T : OwnTail h bmB bm) {rest : List Value} {fI : Addr} {Q : VP}
    (hC : h.get? C = some (excClassObj nm q C N bs bm hdct sn sub ab col dd k0 k1 k2 k3 k5 newId))
    (hi : Looks (model prog w) h (typeLookup (.ref C) "__init__") (some (.ref fI))) (hb : ∀ self, Looks (model prog w) h (bindSpecial (.ref fI) self) (.ref fI, [self]))
    (hrest : rest.length ≤ sizeLine)
    (hq : wpAny (model prog w) (A.under (.builtin "type.__call__" ⟨.ref C :: rest, []⟩)) (call (.ref fI) (.ref (h.objs.size + 1) :: rest)) (fun v s' => v = .none ∧ Q (.ref (h.objs.size + 1)) s') E
      ⟨(h.push { cls := .type "tuple", data := .seq rest.toArray }).push (excObj C h.objs.size none), g, d, t, os⟩) :
    wpAny (model prog w) A (call (.ref C) rest) Q E ⟨h, g, d, t, os⟩ := by
  have f1 := tc_lookup
  have f2 := tc_bind (.ref C)
  have hT : (⟨h, g, d, t, os⟩ : Shared).TypeIs (.ref C) "type" := ⟨_, hC, rfl⟩
  refine wpAny_call (codeAny_of_tree ?_)
  show wpAny _ _ (callAny (.ref C) _) _ _ _
  repeat (any_goals (first | assumption | with_reducible refine wpAny_loadPart_at hC ?_ | wp_step))
  refine ⟨rfl, ?_⟩
  exact codeAny_call_builtin_at (Code.quiet_builtin _ (by decide +kernel)) entry_typeCall (wpAny_check_type_call_sub hC (type_call_own F T hC hi hb hrest hq))
end
theorem tc_weight (C : Addr) (rest : List Value) : Code.weight (.builtin "type.__call__" ⟨.ref C :: rest, []⟩) = 1 := by first | rfl | kernel_rfl
theorem tc_envs (C : Addr) (rest : List Value) : Code.envs (.builtin "type.__call__" ⟨.ref C :: rest, []⟩) = [] := by first | rfl | kernel_rfl
theorem tc_units (C : Addr) (rest : List Value) : Code.cUnits (.builtin "type.__call__" ⟨.ref C :: rest, []⟩) = 1 := by first | rfl | kernel_rfl
theorem Bud.under {A : Around} {hd : Option Value} {fr : List Env} {d u : Nat} (B : Bud A hd fr (d + 1) (u + 1)) (C : Addr) (rest : List Value) : Bud (A.under (.builtin "type.__call__" ⟨.ref C :: rest, []⟩)) hd fr d u where
  h := B.h
  f := by unfold Around.under; dsimp only; rw [tc_envs]; exact B.f
  d := by unfold Around.under; dsimp only; rw [tc_weight]; have := B.d; lia
  u := by unfold Around.under; dsimp only; rw [tc_units]; have := B.u; lia
namespace XF
theorem slot_get : Slot "wrapper_descriptor" "__get__" "wrapper_descriptor.__get__" :=
  .of (owner := "wrapper_descriptor") (n := "__get__") (by rw [typeLookup_type, builtinLookup_eq_fast]; kernel_rfl) (by decide +kernel) (by decide +kernel) (by decide +kernel)
    (by first | exact .inl (by decide +kernel) | exact .inr (by decide +kernel)) (by rw [isSubtype_type]; kernel_rfl)
theorem entry_get : entryFor table "wrapper_descriptor.__get__" = some Builtin.«wrapper_descriptor.__get__» := entryFor_of_tree (by kernel_rfl)
theorem args_get (a b c : Value) : argsOk "wrapper_descriptor.__get__" ⟨[a, b, c], []⟩ := by unfold argsOk; kernel_rfl
theorem type_ei : typeOf (.builtin "Exception.__init__") = pure (.type "wrapper_descriptor") := by show builtinType _ = _; rw [builtinType_eq_fast]; kernel_rfl
noncomputable def bound (x : Addr) : Obj := { cls := .type "method-wrapper", data := .fields #[.builtin "Exception.__init__", .ref x] }
section
variable {prog : Program} {w : World} {M : Model} {A : Around} {E : VP} {s : Shared} {h : Heap} {g : Array GenState} {d : Drawn} {t : Nat} {os : OsState}
theorem run_get {x C : Addr} {P : Fin → Shared → Prop} (hi : Looks M s.heap (isInstance (.ref x) (.type "Exception")) true) (h : P (.done (.ret (.ref s.heap.objs.size))) { s with heap := s.heap.push (bound x) }) :
    wpAny M A (Builtin.«wrapper_descriptor.__get__» ⟨[.builtin "Exception.__init__", .ref x, .ref C], []⟩) P E s := by
  unfold Builtin.«wrapper_descriptor.__get__»
  refine wpAny_bind (wpAny_of_eq (a := (.builtin "Exception.__init__", some (.ref x), some (.ref C))) (by first | rfl | kernel_rfl) ?_)
  show wpAny M A (_ >>= fun _ => _) P E s
  refine wpAny_bind ?_
  refine wpAny_bind (wpAny_of_eq (a := (PySem.Str.ofString "__init__", .type "Exception")) (by first | rfl | kernel_rfl) ?_)
  refine wpAny_bind (hi.here ?_)
  refine PySem.W.KFB.if_not rfl ?_
  refine wpAny_pure ?_
  exact wpAny_bind (wpAny_newObj_type (wpAny_pure h))
theorem super_ga {so D x C : Addr} {l₀ l : List Value} {K : Frag} {tk : Tok} {Q : Fin → Shared → Prop}
    (hso : h.get? so = some { cls := .type "super", dict := none, data := .fields #[.ref D, .ref x, .ref C], slots := #[] }) (hno : Looks M h (opaqueClassAbove (.ref C)) none)
    (hC : Looks M h (mroOf (.ref C)) l₀) (hl : (l₀.dropWhile (· != .ref D)).drop 1 = l) (X : K.In h)
    (hf : alongIn K "__init__" l = some (some (.builtin "Exception.__init__"))) (hi : Looks M h (isInstance (.ref x) (.type "Exception")) true) (hxC : x ≠ C) (hM : ∃ prog w, M = model prog w)
    (hq : Q (.done (.ret (.ref h.objs.size))) ⟨h.push (bound x), g, d, t, os⟩) :
    wpAny M A (Builtin.«super.__getattribute__» ⟨[.ref so, .str "__init__" tk], []⟩) Q E ⟨h, g, d, t, os⟩ := by
  obtain ⟨prog, w, rfl⟩ := hM
  have hlk := slot_get.lookup
  have hn : (("__init__" : PySem.Str) == ("__class__" : PySem.Str)) = false := by decide
  have hne : (Value.ref x == Value.ref C) = false := by simp [hxC]
  have hdt : ({ cls := .type "super", dict := none, data := .fields #[.ref D, .ref x, .ref C], slots := #[] } : Obj).data = .fields #[.ref D, .ref x, .ref C] := rfl
  have f0 : (#[.ref D, .ref x, .ref C] : Array Value)[0]? = some (.ref D) := rfl
  have f1 : (#[.ref D, .ref x, .ref C] : Array Value)[1]? = some (.ref x) := rfl
  have f2 : (#[.ref D, .ref x, .ref C] : Array Value)[2]? = some (.ref C) := rfl
  have hT := type_ei
  have hTi : (⟨h, g, d, t, os⟩ : Shared).TypeIs (.builtin "Exception.__init__") "wrapper_descriptor" := hT
  unfold Builtin.«super.__getattribute__»
  repeat (first
    | (with_reducible refine wpAny_field hso hdt f0 ?_) | (with_reducible refine wpAny_field hso hdt f1 ?_) | (with_reducible refine wpAny_field hso hdt f2 ?_)
    | (with_reducible refine ks_wpAny_notOpaque hno ?_)
    | (with_reducible refine Looks.at hC ?_; rw [hl])
    | (refine ks_forIn_along X (fun _ _ => rfl) rfl ?_ hf)
    | (with_reducible refine wpAny_typeOf hTi ?_)
    | (with_reducible refine wpAny_call_entry slot_get hTi entry_get ?_ (args_get _ _ _))
    | (with_reducible refine run_get (s := ⟨h, g, d, t, os⟩) hi ?_)
    | (with_reducible refine ⟨_, rfl, ?_⟩)
    | (refine KFB.if_not (by first | (rw [hn]; rfl) | rfl) ?_)
    | (rw [if_neg (show ¬ (Value.ref x == Value.ref C) = true by rw [hne]; decide)])
    | wp_step
    | dsimp only)
  all_goals exact hq
theorem getm {prog : Program} {w : World} {so D x C : Addr} {l₀ l : List Value} {K : Frag} {pl : Sem Bool} {Q : Value × List Value → Shared → Prop}
    (hso : h.get? so = some { cls := .type "super", dict := none, data := .fields #[.ref D, .ref x, .ref C], slots := #[] }) (hno : Looks (model prog w) h (opaqueClassAbove (.ref C)) none)
    (hC : Looks (model prog w) h (mroOf (.ref C)) l₀) (hl : (l₀.dropWhile (· != .ref D)).drop 1 = l) (X : K.In h)
    (hf : alongIn K "__init__" l = some (some (.builtin "Exception.__init__"))) (hi : Looks (model prog w) h (isInstance (.ref x) (.type "Exception")) true) (hxC : x ≠ C)
    (hq : Q (.ref h.objs.size, []) ⟨h.push (bound x), g, d, t + 1, os⟩) :
    wpAny (model prog w) A (getMethod (.ref so) "__init__" pl) Q E ⟨h, g, d, t, os⟩ := by
  have hlk := F.ks_slot_super_ga.lookup
  have hcan := F.ks_canon_super_ga
  have hT : ∀ t', (⟨h, g, d, t', os⟩ : Shared).TypeIs (.ref so) "super" := fun _ => ⟨_, hso, rfl⟩
  unfold getMethod
  refine wpAny_bind (wpAny_specialOf (hT _) hlk ?_)
  show wpAny _ _ (if (Manifest.canonical "super.__getattribute__" != "object.__getattribute__") = true then _ else _) _ _ _
  rw [if_pos hcan]
  unfold getAttr getAttrBy
  refine wpAny_bind (wpAny_bind (wpAny_mkText (wpAny_holding (wpAny_bind (wpAny_typeOf (hT _) (wpAny_bind (wpAny_of_eq hlk ?_)))))))
  show wpAny _ _ (getAttrByItsOwn (.ref so) (.str "__init__" t) (.type "super") (.builtin "super.__getattribute__") true false) _ _ _
  unfold getAttrByItsOwn hookBefore callGetattribute boundAndCalled
  refine wpAny_bind (wpAny_of_eq (show (if onTheHeap (.type "super") then typeLookup (.type "super") "__getattr__" else pure none) = pure none from rfl) ?_)
  refine wpAny_bind (wpAny_attempt (wpAny_holding ?_))
  show wpAny _ _ (bindSpecial (.builtin "super.__getattribute__") (.ref so) >>= _) _ _ _
  refine wpAny_bind (wpAny_of_eq (F.ks_slot_super_ga.bind _) ?_)
  refine wpAny_mono (Q := fun v s' => v = .ref h.objs.size ∧ s' = ⟨h.push (bound x), g, d, t + 1, os⟩) (E := fun _ _ => False)
    (wpAny_call_entry F.ks_slot_super_ga (hT _) F.ks_entry_super_ga (super_ga hso hno hC hl X hf hi hxC ⟨_, _, rfl⟩ ⟨_, rfl, rfl, rfl⟩) (F.ks_gaArgs_super _ _)) (fun v s' hv => ?_) fun _ _ z => z.elim
  obtain ⟨rfl, rfl⟩ := hv
  exact wpAny_pure (wpAny_pure hq)
theorem callWith_bound {pos : Pos} {u x : Addr} {e : PySem.Expr} {rest : List PySem.Expr} {env : Env} {Q : VP}
    (h : wpAny M A (spliced (backTo pos (starEach (e :: rest) env))) (fun vs s₁ => s₁.heap.get? u = some (bound x) ∧ wpAny M A (call (.ref u) vs) Q E s₁) E s)
    (he : starEach (e :: rest) env = (false, eval e env) :: starEach rest env := by rfl) (hplain : (backTo pos (starEach rest env)).any (·.1) = false := by rfl) :
    wpAny M A (callWith pos (.ref u) [] (backTo pos (starEach (e :: rest) env)) []) Q E s := by
  rw [he] at h ⊢
  unfold callWith
  have key : wpAny M A (evalArgs (.ref u) true (backTo pos ((false, eval e env) :: starEach rest env)) []) (fun a s₁ => s₁.heap.get? u = some (bound x) ∧ wpAny M A (call (.ref u) ([] ++ a.pos) a.kw) Q E s₁) E s := by
    exact evalArgs_plain h
  refine wpAny_bind (wpAny_holding (wpAny_mono key (fun a s₁ h₁ => wpAny_bind (wpAny_standAt ?_)) fun _ _ x => x))
  obtain ⟨ho, hcall⟩ := h₁
  have hp : (backTo pos ((false, eval e env) :: starEach rest env)).any (·.1) = false := by show (false || (backTo pos (starEach rest env)).any (·.1)) = false; rw [hplain]; rfl
  rw [hp]
  refine wpAny_bind (m := keeperOf (.ref u)) ?_
  unfold keeperOf
  refine wpAny_bind (wpAny_load ho ?_)
  refine KFB.if_so (show (Value.type "method-wrapper" != Value.type "method") = true by decide) ?_
  rw [if_pos (show ((bound x).cls == Value.type "builtin_function_or_method" || (bound x).cls == Value.type "method-wrapper") = true from (show (Value.type "method-wrapper" == Value.type "builtin_function_or_method" || Value.type "method-wrapper" == Value.type "method-wrapper") = true by decide))]
  refine wpAny_pure ?_
  exact wpAny_bind (wpAny_mono hcall (fun r s₂ hr => wpAny_bind (wpAny_holding (wpAny_point (wpAny_pure hr)))) fun _ _ x => x)
variable {nm q : Str} {C N : Addr} {bs bm bmB : List Value} {hdct : Bool} {sn : List Str} {sub : List Value} {ab : Bool} {col : Option Bool} {dd : Option Addr} {k0 k1 k2 k3 k5 : Option Value} {newId : String}
theorem call_bound {prog : Program} {w : World} {u x t0 : Addr} {dx : Option Addr} {v : Value} {Q : VP} (T : OwnTail h bmB bm) (hB : bmB = [.type "Exception", .type "BaseException", .type "object"])
    (hC : h.get? C = some (excClassObj nm q C N bs bm hdct sn sub ab col dd k0 k1 k2 k3 k5 newId)) (hu : h.get? u = some (bound x)) (hx : h.get? x = some (excObj C t0 dx))
    (hq : Q .none ⟨(h.push { cls := .type "tuple", data := .seq #[v] }).update x (Obj.mapFields (·.setIfInBounds 0 (.ref h.objs.size))), g, d, t, os⟩) :
    wpAny (model prog w) A (call (.ref u) [v]) Q E ⟨h, g, d, t, os⟩ := by
  subst hB
  have F := PySem.F.excBase_Exception
  refine wpAny_call (codeAny_of_tree ?_)
  show wpAny _ A.in1 (callAny (.ref u) ⟨[v], []⟩) _ _ _
  unfold callAny
  refine wpAny_bind (wpAny_load hu ?_)
  refine KFB.if_so (show (Value.type "method-wrapper" == Value.type "method" || Value.type "method-wrapper" == Value.type "builtin_function_or_method" || Value.type "method-wrapper" == Value.type "method-wrapper") = true by decide) ?_
  have hcB : (Value.ref C :: bm).contains (.type "Exception") = true := by rw [List.contains_cons, T.hasType F.hasB, Bool.or_true]
  have hshort := F.noStar
  refine wpAny_bind ?_
  unfold checkBoundCall
  rw [F.initKind, F.initRow]
  refine KFB.if_so (by decide) ?_
  show wpAny _ _ (Bind.checkArgs "Exception.__init__" ⟨.positional, "*", "Exception", .self, [⟨"args", .varPos, false⟩]⟩ ⟨[.ref x, v], []⟩) _ _ _
  repeat (first | (with_reducible refine wpAny_loadPart_at hx ?_) | with_reducible refine wpAny_loadPart_at hC ?_ | (with_reducible refine wpAny_isSubtype_exc hC ?_; rw [hcB]) | wp_step)
  refine ⟨plainId_quiet F.init.plain _, codeAny_builtin F.initEntry ?_⟩
  rw [Around.under_plainId F.init.plain _]
  show wpAny _ _ (Builtin.«BaseException.__init__» ⟨[.ref x, v], []⟩) _ _ _
  have hx' := Heap.get?_push_of_some { cls := .type "tuple", data := .seq #[v] } hx
  wp_walk
  exact hq
end
end XF
end
section
open Builtin Builtin.ObjectAttr
section
variable {prog : Program} {w : World} {A : Around} {E : VP} {s : Shared} {K : Frag} {C x : Addr} {h : Heap} {g : Array GenState} {d : Drawn} {t : Nat} {os : OsState}
theorem exc_refuse (self : Value) : refuseLoop self "__setattr__" [.type "Exception", .type "BaseException", .type "object"] = pure () := by first | rfl | kernel_rfl
inductive Refuses : List Value → Prop
  | obj : Refuses [.type "object"]
  | exc : Refuses [.type "Exception", .type "BaseException", .type "object"]
  | ref {c : Addr} {l : List Value} : Refuses l → Refuses (.ref c :: l)
theorem refuse_any (self : Value) {l : List Value} (h : Refuses l) : refuseLoop self "__setattr__" l = pure () := by
  induction h with
  | obj => exact PySem.F.store_object.passes self
  | exc => exact exc_refuse self
  | ref _ ih => rw [refuseLoop_ref]; exact ih
theorem set_open {ox : Obj} {od : Option Obj} {name : PySem.Str} {v : Value} {Q : Unit → Shared → Prop} {cd : ClassData} (X : K.In s.heap) (I : InstAt s.heap x ox C od) (hs : findIn K (.ref C) "__setattr__" = some (some (.builtin "object.__setattr__")))
    (hc : clsIn K C = some cd) (hp : Refuses cd.mro) (ho : mroIn K C (.type "object") = some true) (ht : takerIn K C name = some none)
    (h : ∀ b, wpAny (model prog w) A.in1 (storeInOwnDict (.ref x) (.ref C) (.str name s.toks) name v b)
      (fun fin s' => match fin with | .done (.ret _) => Q () s' | _ => False) E { s with toks := s.toks + 1 }) :
    wpAny (model prog w) A (setAttr (.ref x) name v) Q E s := by
  refine set_plain X I hs ?_
  have SF := PySem.F.store_object
  have sub : Looks (model prog w) s.heap (isInstance (.ref x) (.type "object")) true := I.type.andThen (looks_mroIn X ho)
  refine codeAny_call_builtin SF.slot.plain SF.entry (@check_slot (model prog w) _ _ { s with toks := s.toks + 1 } "object.__setattr__" "object" "__setattr__" (.ref x) [.str name s.toks, v] [] _ SF.kind SF.split sub (SF.args (.ref x) (.str name s.toks) v) ?_)
  obtain ⟨attr, ha, hr⟩ := Option.bind_eq_some_iff.mp ht
  have hm : Looks (model prog w) s.heap (mroOf (.ref C)) cd.mro := (looks_clsIn X hc).andThen .now
  have L3 : Looks (model prog w) s.heap (storeTaker? attr) none := by
    cases attr with
    | none => exact .now
    | some a =>
      obtain ⟨b, hb, e⟩ := Option.map_eq_some_iff.mp hr
      refine (looks_takesIn X hb).andThen ?_
      cases b
      · exact .now
      · cases e
  rw [osa_eq, refuse_eq]
  refine wpAny_bind (wpAny_bind (Looks.here (s := { s with toks := s.toks + 1 }) I.type (wpAny_bind (Looks.here (s := { s with toks := s.toks + 1 }) hm ?_))))
  rw [refuse_any _ hp]
  refine wpAny_pure (wpAny_bind (Looks.here (s := { s with toks := s.toks + 1 }) I.type (wpAny_bind (Looks.here (s := { s with toks := s.toks + 1 }) (looks_findIn X ha) (wpAny_bind (Looks.here (s := { s with toks := s.toks + 1 }) L3 ?_))))))
  refine wpAny_mono (h attr.isSome) (fun fin s' hf => ?_) fun _ _ z => z
  cases fin with
  | done f => cases f <;> first | exact hf | exact hf.elim
  | again c => exact hf.elim
noncomputable abbrev dicObj (es : List DictEntry) (n : Nat) : Obj := { cls := .type "dict", data := .dict es.toArray n }
theorem set_new {ox : Obj} {name : PySem.Str} {v : Value} {Q : Unit → Shared → Prop} {cd : ClassData} (X : K.In s.heap) (hx : s.heap.get? x = some ox) (hcl : ox.cls = .ref C) (hno : notCls ox = true) (hdn : ox.dict = none) (hs : findIn K (.ref C) "__setattr__" = some (some (.builtin "object.__setattr__")))
    (hc : clsIn K C = some cd) (hp : Refuses cd.mro) (ho : mroIn K C (.type "object") = some true) (ht : takerIn K C name = some none) (hh : cd.hasDict = true) (hfz : ox.isFreed = false)
    (h : ∀ h' tk tk' dx, s.heap.get? dx = none → dx ≠ x → h'.get? dx = some (dicObj [⟨PyData.keyHash w.params name, .str name tk, v⟩] 1) → h'.get? x = some { ox with dict := some dx } → (∀ b o, b ≠ x → s.heap.get? b = some o → h'.get? b = some o) → Q () { s with heap := h', toks := tk' }) :
    wpAny (model prog w) A (setAttr (.ref x) name v) Q E s := by
  refine set_open X (od := none) ⟨hx, hcl, hno, by rw [hdn]; trivial⟩ hs hc hp ho ht fun b => ?_
  obtain ⟨hh0, g, d, t, os⟩ := s
  obtain ⟨oc, odd, oda, osl⟩ := ox
  dsimp only at hcl hdn hx X h hfz ⊢
  subst hcl hdn
  refine wpAny_bind (wpAny_pure (wpAny_bind (wpAny_bind (wpAny_loadPart hx (wpAny_bind (Looks.at (looks_clsIn X hc) ?_))))))
  rw [hh]
  have L0 : hh0.get? hh0.objs.size = none := size_free hh0
  have e1 := Heap.get?_push_of_some (h := hh0) { cls := .type "dict", data := .dict #[] } hx
  have nx : hh0.objs.size ≠ x := fun e => by rw [← e, L0] at hx; cases hx
  have hfr : ({ cls := .ref C, dict := some hh0.objs.size, data := oda, slots := osl } : Obj).isFreed = false := by
    cases oda <;> first | rfl | exact hfz
  have e2 := Heap.get?_update_self (h := hh0.push { cls := .type "dict", data := .dict #[] }) (fun o => { o with dict := some hh0.objs.size }) e1 hfr
  have e3 := (Heap.get?_update_other (hh0.push { cls := .type "dict", data := .dict #[] }) (fun o => { o with dict := some hh0.objs.size }) (Ne.symm nx)).trans (Heap.get?_push_size hh0 (o := { cls := .type "dict", data := .dict #[] }) rfl)
  refine wpAny_mono (Q := fun a s' => a = some hh0.objs.size ∧ s' = ⟨(hh0.push { cls := .type "dict", data := .dict #[] }).update x (fun o => { o with dict := some hh0.objs.size }), g, d, t + 1, os⟩) (E := E) ?_ (fun a s' ha => ?_) fun _ _ z => z
  · cases oda <;> first
      | exact wpAny_bind (wpAny_alloc (wpAny_bind (wpAny_update e1 (wpAny_pure ⟨rfl, rfl⟩))))
      | (unfold notCls at hno; cases hno)
  obtain ⟨rfl, rfl⟩ := ha
  refine wpAny_bind (wpAny_pure (wpAny_bind ?_))
  unfold nsSet
  refine wpAny_bind (wpAny_bind (wpAny_askSetting (wpAny_pure (wpAny_bind (wpAny_mkText (wpAny_bind (wpAny_loadPart e3 ?_)))))))
  dsimp only
  rw [show aRefKeyMayBeTheName name #[] = false from by first | rfl | simp [aRefKeyMayBeTheName]]
  have hput : ∀ hs tk, Obj.putName name hs (.str name tk) v { cls := .type "dict", data := .dict #[] } = dicObj [⟨hs, .str name tk, v⟩] 1 := fun _ _ => by first | rfl | kernel_rfl | simp [Obj.putName]
  have e4 := fun hs tk => (Heap.get?_update_self (h := (hh0.push { cls := .type "dict", data := .dict #[] }).update x (fun o => { o with dict := some hh0.objs.size })) (Obj.putName name hs (.str name tk) v) e3 (by rw [hput]; rfl)).trans (by rw [hput])
  refine wpAny_updatePart e3 ?_
  refine wpAny_bind (wpAny_lookBehind (e4 _ _) (pastItsLine_dict (by rw [List.size_toArray, sizeLine_eq]; simp)) ?_)
  refine wpAny_pure (h _ _ _ hh0.objs.size L0 nx (e4 _ _) ((Heap.get?_update_other _ _ nx).trans e2) fun b o hb e => ?_)
  have nb : hh0.objs.size ≠ b := fun q => by rw [← q, L0] at e; cases e
  exact (Heap.get?_update_other _ _ nb).trans ((Heap.get?_update_other _ _ (Ne.symm hb)).trans (Heap.get?_push_of_some _ e))
end
end
section
variable {G : Base} {c : Fm} {st : St} {s : Shared}
theorem enterAt {a : Addr} {o : Obj} {fd : FuncData} {body : List Stmt} {args : List Value} {binds : List (Str × Value)} {hd : Option Value} {d u : Nat} {I : Hp} {W : Ws} {Q : Value → Hp → Ws → Prop} {E : Ex → Hp → Ws → Prop}
    (hI : (∀ a o, G.B0.get? a = some o → I a = some o) → I a = some o) (ho : o.data = .func fd) (hb : fd.body = .stmts body)
    (hcd : G.B0.CodeRec fd.code fd.qualname) (hbind : ∀ s : Shared, (∀ a o, G.B0.get? a = some o → s.heap.get? a = some o) → BindsTo s fd ⟨args, []⟩ binds)
    (hcell : ∀ x ∈ fd.scope.names, x.2 ≠ .cell) (hloc : ∀ x ∈ binds, fd.scope.names.lookup x.1 = some .local)
    (hco : fd.scope.isCoroutine = false) (hgen : fd.scope.isGenerator = false) (hk : fd.scope.kind = .function) (hgl : fd.globals = mainGlobals) (hbl : fd.builtins = builtinsNs)
    (h : ∀ (c : Fm) (A : Around) (s₁ : Shared), c.fd = fd → c.fa = a → Ok G c ⟨fun x => binds.reverse.lookup x, I, W⟩ s₁ → Bud A hd (c.env :: c.outer) d u →
      _root_.PySem.wpAt (model G.prog G.w) A (.func body c.env) (execs body c.env) (EndQ G c Q) (EndX G c E) s₁) :
    Cl G (.ref a) args hd (d + 1) (u + 3) I W Q E := by
  intro A fr s B P
  have kB : ∀ a o, G.B0.get? a = some o → s.heap.get? a = some o := fun a o e => P.im _ _ (P.b _ _ e)
  refine wpAny_call (ks_codeAny_call_defAt (by have := B.d; lia) (P.im _ _ (hI P.b)) ho (G.T.nolimit.keeps kB) (hcd.keeps kB) hb (hbind s kB) hcell hloc (fun h₀ hns hk₀ => ?_) hco hgen hk)
  refine ks_wpAt_mono (h (fmOf fd a fr s I W) _ _ rfl rfl (enter_ok P hns hk₀ hk hgl hbl) (enter_bud B)) (fun fl s' he => ?_) fun e s' he => enter_x B he
  obtain ⟨m', I', W', O', hq⟩ := he
  refine ⟨I', W', enter_ret O', ?_⟩
  cases fl <;> exact hq
theorem enterC {a : Addr} {fd : FuncData} {body : List Stmt} {oc : Value} {od : Option Addr} {osl : Array (Option Value)}
    {args : List Value} {binds : List (Str × Value)} {hd : Option Value} {d u : Nat} {I : Hp} {W : Ws} {Q : Value → Hp → Ws → Prop} {E : Ex → Hp → Ws → Prop}
    (hlk : G.K.lookup a = some ⟨oc, od, .func fd, osl⟩) (hb : fd.body = .stmts body) (hcd : codeIn G.K fd.code fd.qualname = true)
    (hbind : bindArgs fd ⟨args, []⟩ = pure binds)
    (hcell : (fd.scope.names.all fun x => decide (x.2 ≠ .cell)) = true) (hloc : (binds.all fun x => decide (fd.scope.names.lookup x.1 = some .local)) = true)
    (hco : fd.scope.isCoroutine = false) (hgen : fd.scope.isGenerator = false) (hk : fd.scope.kind = .function) (hgl : fd.globals = mainGlobals) (hbl : fd.builtins = builtinsNs)
    (h : ∀ (c : Fm) (A : Around) (s₁ : Shared), c.fd = fd → c.fa = a → Ok G c ⟨ov binds.reverse fun _ => none, I, W⟩ s₁ → Bud A hd (c.env :: c.outer) d u →
      _root_.PySem.wpAt (model G.prog G.w) A (.func body c.env) (execs body c.env) (EndQ G c Q) (EndX G c E) s₁) :
    Cl G (.ref a) args hd (d + 1) (u + 3) I W Q E :=
  enterAt (fun b => b _ _ (G.X _ _ hlk)) rfl hb (codeRec_of G.X hcd) (fun _ _ => BindsTo.of_eq hbind) (fun x hx => of_decide_eq_true (List.all_eq_true.mp hcell x hx)) (locs hloc) hco hgen hk hgl hbl
    fun c A s₁ h1 h2 O B => h c A s₁ h1 h2 (by
      have e : (ov binds.reverse fun _ => none) = fun x => binds.reverse.lookup x := by
        funext y; unfold ov; cases binds.reverse.lookup y <;> rfl
      rw [e]; exact O) B
structure XCls (G : Base) (C fI : Addr) : Prop where
  obj : ∃ nm q N bs bm hdct sn sub ab col dd k0 k1 k2 k3 k5, G.K.lookup C = some (excClassObj nm q C N bs bm hdct sn sub ab col dd k0 k1 k2 k3 k5 "Exception.__new__") ∧
    tailIn G.K [.type "Exception", .type "BaseException", .type "object"] bm = true
  init : findIn G.K (.ref C) "__init__" = some (some (.ref fI))
  fn : typeIn G.K (.ref fI) = some (.type "function")
theorem Ok.cons2 {m : Mp} {I : Hp} {W : Ws} (O : Ok G c ⟨m, I, W⟩ s) {s' : Shared} {a b : Addr} {oa ob : Obj} (k : ∀ a o, s.heap.get? a = some o → s'.heap.get? a = some o) (na : s.heap.get? a = none) (nb : s.heap.get? b = none) (ab : a ≠ b)
    (ha : s'.heap.get? a = some oa) (hb : s'.heap.get? b = some ob) (hg : s'.gens = s.gens) (ho : s'.os = s.os) : Ok G c ⟨m, I, (b, ob) :: (a, oa) :: W⟩ s' := by
  have O1 := O.own k na ha hg ho
  have O2 : Ok G c ⟨m, I, (a, oa) :: W⟩ s' := O1
  have nI : I b = none := by
    cases q : I b with
    | none => rfl
    | some o => have := O.im _ _ q; rw [nb] at this; cases this
  exact { O2 with
    wr := fun p hp => by rcases List.mem_cons.mp hp with rfl | hp; exact hb; exact O2.wr p hp
    wI := fun p hp => by rcases List.mem_cons.mp hp with rfl | hp; exact nI; exact O2.wI p hp
    nd := by
      show (b :: ((a, oa) :: W).map Prod.fst).Nodup
      refine List.nodup_cons.mpr ⟨fun h => ?_, O2.nd⟩
      obtain ⟨p, hp, e⟩ := List.mem_map.mp h
      rcases List.mem_cons.mp hp with rfl | hp
      · exact ab e
      · have := O.wr p hp
        rw [e, nb] at this; cases this
    LW := fun p hp => by
      rcases List.mem_cons.mp hp with rfl | hp
      · rintro rfl
        obtain ⟨o, _, _, h, _⟩ := O.ns
        rw [nb] at h; cases h
      · exact O2.LW p hp
    fI := fun y hy => ⟨(O2.fI y hy).1, fun p hp => by
      rcases List.mem_cons.mp hp with rfl | hp
      · rintro rfl
        obtain ⟨e, he, hf⟩ := List.mem_filterMap.mp hy
        obtain ⟨_, L, o, _, _, h2, h3, _⟩ := O.ff e he
        rw [hf] at h2; cases h2; rw [nb] at h3; cases h3
      · exact (O2.fI y hy).2 p hp⟩
    xW := fun p hp => by rcases List.mem_cons.mp hp with rfl | hp; exact O.size_none _ nb; exact O2.xW p hp }
variable {A : Around} {E : VP}
theorem r_newX {C fI : Addr} {rest : List Value} {m : Mp} {I : Hp} {W : Ws} {hd : Option Value} {d u : Nat} {Q : VP} (O : Ok G c ⟨m, I, W⟩ s) (B : Bud A hd (c.env :: c.outer) (d + 1) (u + 1)) (Xc : XCls G C fI) (hz : rest.length ≤ 1000)
    (hq : ∀ x t, x ≠ C → x ∉ c.W0 → Cl G (.ref fI) (.ref x :: rest) hd d u I [(x, excObj C t none), (t, tup rest)]
      (fun v I' W' => v = .none ∧ ∀ s', Ok G c ⟨m, I', W' ++ W⟩ s' → (∀ a o, I a = some o → I' a = some o) → Q (.ref x) s') (fun _ _ _ => False)) :
    wpAny (model G.prog G.w) A (call (.ref C) rest) Q E s := by
  obtain ⟨⟨nm, q, N, bs, bm, hdct, sn, sub, ab, col, dd, k0, k1, k2, k3, k5, hC, T⟩, hi, hf⟩ := Xc
  have X := O.In
  have kB := O.keepB
  obtain ⟨h, g, dr, t, os⟩ := s
  have hCh := X _ _ hC
  refine call_own PySem.F.excBase_Exception (tail_of_in X T) hCh (looks_findIn X hi) (fun self => bind_fn X self hf) (sz_small (by lia)) ?_
  have n0 := size_free h
  have n1 : h.get? (h.objs.size + 1) = none := Heap.get?_none_of_le (Nat.le_succ _)
  have O' := O.cons2 (s' := ⟨(h.push (tup rest)).push (excObj C h.objs.size none), g, dr, t, os⟩) (a := h.objs.size) (b := h.objs.size + 1) (oa := tup rest) (ob := excObj C h.objs.size none)
    (fun _ _ e => Heap.get?_push_of_some _ (Heap.get?_push_of_some _ e)) n0 n1 (Nat.ne_of_lt (Nat.lt_succ_self _)) (Heap.get?_push_of_some _ (Heap.get?_push_size _ rfl)) (by have := Heap.get?_push_size (h.push (tup rest)) (o := excObj C h.objs.size none) rfl; rwa [Heap.size_push] at this) rfl rfl
  have nC : h.objs.size + 1 ≠ C := fun e => by rw [← e, n1] at hCh; cases hCh
  refine r_call (Wc := [(h.objs.size + 1, excObj C h.objs.size none), (h.objs.size, tup rest)]) (Wr := W) (E' := fun _ _ _ => False) O' (B.under C rest) ?_ fun _ _ _ _ _ _ _ _ h => h.elim
  intro A' fr s B' P
  refine wpAny_mono (hq _ _ nC (fun hm => O.w0 _ hm n1) A' fr s B' P) (fun v s' h => ?_) fun _ _ h => h
  obtain ⟨I', W', R, rfl, h⟩ := h
  exact ⟨I', W', R, fun s' O' sub => ⟨rfl, h s' O' sub⟩⟩
end
section
variable {G : Base}
theorem kl {a : Addr} {o : Obj} (hK : G.K = KK G.w.params) (h : (KK G.w.params).lookup a = some o := by k_is) : G.K.lookup a = some o := hK ▸ h
theorem kc {a : Value} {q : Str} (hK : G.K = KK G.w.params) (h : codeIn (KK G.w.params) a q = true := by k_is) : codeIn G.K a q = true := hK ▸ h
theorem kn {x : Str} {v : Option Value} (hK : G.K = KK G.w.params) (h : nsIn (KK G.w.params) mainGlobals x = some v := by k_is) : nsIn G.K mainGlobals x = some v := hK ▸ h
theorem kk {a : Value} (hK : G.K = KK G.w.params) (h : keepIn (KK G.w.params) a = true) : keepIn G.K a = true := hK ▸ h
end
section
theorem fillx5 : (fun (_ : PySem.W.OpenLaw) (_ : Params → Frag) => True) PySem.Challenge.rw_it0028_04 KK := by k_fill; trivial
variable {G : Base} {c : Fm} {st : St} {s : Shared} {A : Around}
theorem Ok.toObj {m : Mp} {I : Hp} {W1 W2 : Ws} {x : Addr} {o o' : Obj} (O : Ok G c ⟨m, I, W1 ++ (x, o) :: W2⟩ s) {s' : Shared} (k : ∀ b ob, b ≠ x → s.heap.get? b = some ob → s'.heap.get? b = some ob) (hx : s'.heap.get? x = some o') (hg : s'.gens = s.gens) (ho : s'.os = s.os) :
    Ok G c ⟨m, I, W1 ++ (x, o') :: W2⟩ s' :=
  have hm : (x, o) ∈ W1 ++ (x, o) :: W2 := by simp
  have nI := O.wI _ hm
  have nd := O.nd
  have fst : (W1 ++ (x, o') :: W2).map Prod.fst = (W1 ++ (x, o) :: W2).map Prod.fst := by simp
  have sim : ∀ p ∈ W1 ++ (x, o') :: W2, p = (x, o') ∨ (p ∈ W1 ++ (x, o) :: W2 ∧ p.1 ≠ x) := fun p hp => by
    have hd : x ∉ (W1 ++ W2).map Prod.fst := by
      have := O.nd
      simp only [List.map_append, List.map_cons, List.nodup_append, List.nodup_cons, List.mem_cons, List.mem_append] at this ⊢
      rintro (h | h)
      · exact this.2.2 _ h _ (.inl rfl) rfl
      · exact this.2.1.1 h
    rcases List.mem_append.mp hp with h | h
    · exact .inr ⟨List.mem_append_left _ h, fun e => hd (List.mem_map.mpr ⟨p, List.mem_append_left _ h, e⟩)⟩
    · rcases List.mem_cons.mp h with rfl | h
      · exact .inl rfl
      · exact .inr ⟨List.mem_append_right _ (.tail _ h), fun e => hd (List.mem_map.mpr ⟨p, List.mem_append_right _ h, e⟩)⟩
  have adr : ∀ p ∈ W1 ++ (x, o') :: W2, ∃ q ∈ W1 ++ (x, o) :: W2, q.1 = p.1 := fun p hp => by
    rcases sim p hp with rfl | h
    · exact ⟨_, hm, rfl⟩
    · exact ⟨p, h.1, rfl⟩
  have xL : x ≠ c.L := O.LW _ hm
  { b := O.b
    ns := by
      obtain ⟨oL, es, ep, h, r⟩ := O.ns
      exact ⟨oL, es, ep, k _ _ (Ne.symm xL) h, r⟩
    im := fun a oa h => k _ _ (fun e => by subst e; have := nI; rw [h] at this; cases this) (O.im a oa h)
    wr := fun p hp => by
      rcases sim p hp with rfl | ⟨h, e⟩
      · exact hx
      · exact k _ _ e (O.wr p h)
    wI := fun p hp => by obtain ⟨q, hq, e⟩ := adr p hp; exact e ▸ O.wI q hq
    nd := by rw [show ((⟨m, I, W1 ++ (x, o') :: W2⟩ : St).W.map Prod.fst) = _ from fst]; exact O.nd
    LI := O.LI
    LW := fun p hp => by obtain ⟨q, hq, e⟩ := adr p hp; exact e ▸ O.LW q hq
    fI := fun a ha => ⟨(O.fI a ha).1, fun p hp => by obtain ⟨q, hq, e⟩ := adr p hp; exact e ▸ (O.fI a ha).2 q hq⟩
    ff := fun e he => by
      obtain ⟨h1, L, ob, es, ep, h2, h3, h4⟩ := O.ff e he
      refine ⟨h1, L, ob, es, ep, h2, k _ _ (fun q => ?_) h3, h4⟩
      exact (O.fI L (List.mem_filterMap.mpr ⟨e, he, h2⟩)).2 _ hm q.symm
    keep := fun a oa h n => k _ _ (fun e => by subst e; have := O.xW _ hm; rw [h] at this; cases this) (O.keep a oa h n)
    keepf := fun a oa h => by
      obtain ⟨sl, kk⟩ := O.keepf a oa h
      exact ⟨sl, k _ _ (fun e => by subst e; have := O.xW _ hm; rw [h] at this; cases this) kk⟩
    xW := fun p hp => by obtain ⟨q, hq, e⟩ := adr p hp; exact e ▸ O.xW q hq
    xL := O.xL
    sub := O.sub
    new := O.new
    gb := hg ▸ O.gb
    gk := hg ▸ O.gk
    os := ho.trans O.os
    fk := O.fk
    w0 := fun a ha e => by
      by_cases q : a = x
      · subst q
        rw [hx] at e; cases e
      · cases z : s.heap.get? a with
        | none => exact O.w0 a ha z
        | some ob => rw [k _ _ q z] at e; cases e
    gl := O.gl
    bl := O.bl }
theorem Ok.add {m0 m : Mp} {I : Hp} {W0 W : Ws} {s0 : Shared} {x : Addr} {o : Obj} (O0 : Ok G c ⟨m0, I, W0⟩ s0) (n : s0.heap.get? x = none) (O : Ok G c ⟨m, I, W⟩ s) (hW : ∀ p ∈ W, ∃ q ∈ W0, q.1 = p.1) (hx : s.heap.get? x = some o) :
    Ok G c ⟨m, I, (x, o) :: W⟩ s :=
  have nW : ∀ p ∈ W, p.1 ≠ x := fun p hp e => by
    obtain ⟨q, hq, e'⟩ := hW p hp
    have := O0.wr q hq
    rw [e', e, n] at this; cases this
  { O with
    wr := fun p hp => by rcases List.mem_cons.mp hp with rfl | hp; exact hx; exact O.wr p hp
    wI := fun p hp => by
      rcases List.mem_cons.mp hp with rfl | hp
      · cases q : I x with
        | none => exact q
        | some ob => have := O0.im _ _ q; rw [n] at this; cases this
      · exact O.wI p hp
    nd := by
      show (x :: W.map Prod.fst).Nodup
      refine List.nodup_cons.mpr ⟨fun h => ?_, O.nd⟩
      obtain ⟨p, hp, e⟩ := List.mem_map.mp h
      exact nW p hp e
    LW := fun p hp => by
      rcases List.mem_cons.mp hp with rfl | hp
      · rintro rfl
        obtain ⟨ob, _, _, h, _⟩ := O0.ns
        rw [n] at h; cases h
      · exact O.LW p hp
    fI := fun y hy => ⟨(O.fI y hy).1, fun p hp => by
      rcases List.mem_cons.mp hp with rfl | hp
      · rintro rfl
        obtain ⟨e, he, hf⟩ := List.mem_filterMap.mp hy
        obtain ⟨_, L, ob, _, _, h2, h3, _⟩ := O0.ff e he
        rw [hf] at h2; cases h2; rw [n] at h3; cases h3
      · exact (O.fI y hy).2 p hp⟩
    xW := fun p hp => by rcases List.mem_cons.mp hp with rfl | hp; exact O0.size_none _ n; exact O.xW p hp }
section
variable {M : Model} {A : Around} {E : VP} {env : Env}
variable {nm q : Str} {C N : Addr} {bs bm : List Value} {hdct : Bool} {sn : List Str} {sub : List Value} {ab : Bool} {col : Option Bool} {dd : Option Addr} {k0 k1 k2 k3 k5 : Option Value} {newId : String}
theorem raiseStmt_own {s : Shared} {x : Sem Value} {Q : Flow → Shared → Prop} (hbase : bm.contains (.type "BaseException") = true) (hh : A.handled = none)
    (h : wpAny M A x (fun v s₁ => ∃ e t dx, v = .ref e ∧ s₁.heap.get? C = some (excClassObj nm q C N bs bm hdct sn sub ab col dd k0 k1 k2 k3 k5 newId) ∧
      s₁.heap.get? e = some (excObj C t dx) ∧ E (.ref e) s₁) E s) :
    wpAny M A (raiseStmt env (some x) none) Q E s := by
  have hcB : (Value.ref C :: bm).contains (.type "BaseException") = true := by rw [List.contains_cons, hbase, Bool.or_true]
  unfold raiseStmt
  refine wpAny_bind (wpAny_mono h (fun v s₁ h₁ => ?_) fun _ _ x => x)
  obtain ⟨e, t, dx, rfl, hC, he, hE⟩ := h₁
  obtain ⟨hp, g, d, tk, os⟩ := s₁
  repeat (first | with_reducible refine wpAny_loadPart_at he ?_ | with_reducible refine wpAny_loadPart_at hC ?_ | (with_reducible refine wpAny_isSubtype_exc hC ?_; rw [hcB]) | wp_step)
  exact wpAny_raiseNew_none hh hE
end
variable {G : Base} {c : Fm} {st : St} {s : Shared} {A : Around} {E : VP} {env : Env}
theorem r_raise {C : Addr} {ex : PySem.Expr} {pos : Pos} {Q : Flow → Shared → Prop} {oC : Obj} (hC : G.K.lookup C = some oC)
    (hform : ∃ nm q N bs bm hdct sn sub ab col dd k0 k1 k2 k3 k5 newId, oC = excClassObj nm q C N bs bm hdct sn sub ab col dd k0 k1 k2 k3 k5 newId ∧ bm.contains (.type "BaseException") = true) (hh : A.handled = none)
    (h : wpAny (model G.prog G.w) A (eval ex env) (fun v s₁ => ∃ e t dx, v = .ref e ∧ G.K.In s₁.heap ∧ s₁.heap.get? e = some (excObj C t dx) ∧ E (.ref e) s₁) E s)
    (ha : exec (.Raise (some ex) none pos) env = (do standAt pos; raiseStmt env (some (do let v ← eval ex env; standAt pos; pure v)) none) := by rfl) :
    wpAny (model G.prog G.w) A (exec (.Raise (some ex) none pos) env) Q E s := by
  obtain ⟨nm, q, N, bs, bm, hdct, sn, sub, ab, col, dd, k0, k1, k2, k3, k5, newId, rfl, hb⟩ := hform
  rw [ha]
  refine wpAny_bind (wpAny_standAt (raiseStmt_own (C := C) (nm := nm) (q := q) (N := N) (bs := bs) (bm := bm) (hdct := hdct) (sn := sn) (sub := sub) (ab := ab) (col := col) (dd := dd) (k0 := k0) (k1 := k1) (k2 := k2) (k3 := k3) (k5 := k5) (newId := newId) hb hh (wpAny_bind (wpAny_mono h (fun v s₁ h₁ => wpAny_bind (wpAny_standAt (wpAny_pure ?_))) fun _ _ x => x))))
  obtain ⟨e, t, dx, rfl, X, he, hE⟩ := h₁
  exact ⟨e, t, dx, rfl, X _ _ hC, he, hE⟩
theorem r_cls {C : Addr} {pos : Pos} {e : PySem.Expr} {rest : List PySem.Expr} {Q : VP} {oC : Obj} (hC : G.K.lookup C = some oC)
    (hform : ∃ nm q N bs bm hdct sn sub ab col dd k0 k1 k2 k3 k5 newId, oC = excClassObj nm q C N bs bm hdct sn sub ab col dd k0 k1 k2 k3 k5 newId ∧ bm.contains (.type "BaseException") = true)
    (h : wpAny (model G.prog G.w) A (spliced (backTo pos (starEach (e :: rest) env))) (DQ G A (.ref C) [] Q E) E s)
    (he : starEach (e :: rest) env = (false, eval e env) :: starEach rest env := by rfl) (hplain : (backTo pos (starEach rest env)).any (·.1) = false := by rfl) :
    wpAny (model G.prog G.w) A (callWith pos (.ref C) [] (backTo pos (starEach (e :: rest) env)) []) Q E s := by
  obtain ⟨nm, q, N, bs, bm, hdct, sn, sub, ab, col, dd, k0, k1, k2, k3, k5, newId, rfl, hb⟩ := hform
  refine callW (P := fun h => G.K.In h) (fun h X => ⟨.machine, .inr (.inl rfl), fun A Q E s k q => ?_⟩) h he hplain
  obtain ⟨hp, g, d, tk, os⟩ := s
  exact wpAny_keeperOf_exc (k _ _ (X _ _ hC)) q
noncomputable abbrev isExcObj (C : Addr) (oC : Obj) : Prop := ∃ nm q N bs bm hdct sn sub ab col dd k0 k1 k2 k3 k5 newId, oC = excClassObj nm q C N bs bm hdct sn sub ab col dd k0 k1 k2 k3 k5 newId ∧ bm.contains (.type "BaseException") = true
end
section
open PySem.Builtin
section
variable {prog : Program} {w : World} {A : Around} {E : VP} {s : Shared}
theorem bytes_out {b : Array UInt8} {i : Int} {t u : Tok} (h0 : 0 ≤ i) (h1 : b.size ≤ i) (hb : b.size < 2 ^ 62) :
    Meets («bytes.__getitem__» ⟨[.bytes b t, .int i u], []⟩) (raisesNew "IndexError") := by
  refine .of_wp fun prog w A R s hS => ?_
  obtain ⟨hh, hE⟩ := hS
  have hh' : A.in1.handled = none := hh
  show wpAny _ _ (Bytes.payload (.bytes b t) >>= fun r => _) _ _ s
  refine wpAny_bind (wpAny_of_eq (a := b) rfl ?_)
  show wpAny _ _ (Bytes.subscript? (.int i u) >>= fun r => _) _ _ s
  refine wpAny_bind ?_
  unfold Bytes.subscript?
  refine wpAny_bind (wpAny_specialOf (typeIs_int s i u) PySem.F.slot_int_index.lookup ?_)
  show wpAny _ _ (if (!Bytes.fitsIndex i) = true then _ else pure (some i)) _ _ s
  cases hr : Bytes.fitsIndex i with
  | true =>
    refine wpAny_pure ?_
    have hn : (seqIndex? i b.size).bind (b[·]?) = none := by
      have a1 : ¬ i < 0 := by lia
      have a2 : ¬ i < b.size := by lia
      simp [seqIndex?, a1, a2]
    show wpAny _ _ (match (seqIndex? i b.size).bind (b[·]?) with | some x => retInt x.toNat | none => _) _ _ s
    rw [hn]
    first
      | refine wpAny_bind (wpAny_rule ?_)
      | refine wpAny_rule ?_
    first
      | exact wpAny_bind (wpAny_raiseErrorWords plainExc_IndexError hh' hE)
      | exact wpAny_raiseErrorWords plainExc_IndexError hh' hE
  | false =>
    first
      | refine wpAny_bind (wpAny_rule ?_)
      | refine wpAny_rule ?_
    first | (refine wpAny_bind (wpAny_typeNameOf' (typeIs_int s i u) (hn := by decide) ?_)) | skip
    first
      | exact wpAny_bind (wpAny_raiseErrorMade plainExc_IndexError hh' hE (by rw [ofString_length, sizeLine_eq]; decide +kernel))
      | exact wpAny_raiseErrorMade plainExc_IndexError hh' hE (by rw [ofString_length, sizeLine_eq]; decide +kernel)
      | exact wpAny_bind (wpAny_raiseErrorWords plainExc_IndexError hh' hE)
      | exact wpAny_raiseErrorWords plainExc_IndexError hh' hE
end
variable {G : Base} {c : Fm} {st : St} {s : Shared} {A : Around} {E : VP} {env : Env}
theorem newX_of {h' : Heap} {tk : Nat} {e : Addr} {cls : String} (O : Ok G c st s) (n : Heap.NewExc s.heap h' e cls) :
    Ok G c st { s with heap := h', toks := tk } ∧ ∃ x, x.a = e ∧ x.cls = .type cls ∧ x.cx = .none ∧ NewX c st x { s with heap := h', toks := tk } := by
  obtain ⟨ob, t, h1, h2, h3⟩ := n.there
  exact ⟨O.grown n.keeps rfl rfl, ⟨e, e, .type cls, ob.dict, .none⟩, rfl, rfl, rfl, ⟨ob, _, h1, h2, rfl, h3, rfl, rfl⟩, off_fresh O n.new⟩
theorem r_itemBout {value slice : PySem.Expr} {x : List UInt8} {i : Int} {t u : Tok} {Q : VP} (O : Ok G c st s) (hh : A.handled = none) (hz : x.length ≤ 16777216) (hi : x.length ≤ i)
    (h : ∀ e s', Ok G c st s' → NewX c st e s' → e.cls = .type "IndexError" → e.cx = .none → E (.ref e.a) s')
    (hs : subscripted slice false (.bytes x.toArray t) (.int i u) = operate [.bytes x.toArray t, .int i u] (getItem (.bytes x.toArray t) (.int i u)) := by with_unfolding_all rfl)
    (ht : ∀ r, letTemporaryGo value (.bytes x.toArray t) r = pure () := by intro _; with_unfolding_all rfl) :
    wpAny (model G.prog G.w) A (subscriptTail value slice (.bytes x.toArray t) (.int i u)) Q E s := by
  refine tail_of_ItemOn ⟨"bytes", _, FB.slot_bytes_getitem.lookup, typeIs_bytes _ _ _, getItem_meets (typeIs_bytes _ _ _) (by decide) FB.slot_bytes_getitem FB.entry_bytes_getitem (FB.args_bytes_getitem_2 _ _)
    (bytes_out (by lia) (by simpa using hi) (by rw [List.size_toArray]; lia)) ⟨hh, fun h' tk e n => ?_⟩⟩ hs ht
  obtain ⟨O', y, rfl, hc, hcx, hx⟩ := newX_of (tk := tk) O n
  exact h y _ O' hx hc hcx
theorem r_itemBx {value slice : PySem.Expr} {x : List UInt8} {i : Nat} {t u : Tok} {Q : VP} (O : Ok G c st s) (hh : A.handled = none) (hz : x.length ≤ 16777216)
    (hok : i < x.length → ∀ t s', Ok G c st s' → Q (.int ((x.getD i 0).toNat : Nat) t) s')
    (h : x.length ≤ i → ∀ e s', Ok G c st s' → NewX c st e s' → e.cls = .type "IndexError" → e.cx = .none → E (.ref e.a) s')
    (hs : subscripted slice false (.bytes x.toArray t) (.int i u) = operate [.bytes x.toArray t, .int i u] (getItem (.bytes x.toArray t) (.int i u)) := by with_unfolding_all rfl)
    (ht : ∀ r, letTemporaryGo value (.bytes x.toArray t) r = pure () := by intro _; with_unfolding_all rfl) :
    wpAny (model G.prog G.w) A (subscriptTail value slice (.bytes x.toArray t) (.int i u)) Q E s := by
  by_cases hi : i < x.length
  · exact r_itemB O hz (by lia) (hok hi) hs ht
  · exact r_itemBout O hh hz (by lia) (h (by lia)) hs ht
variable {G : Base} {c : Fm} {st : St} {s : Shared} {A : Around} {E : VP} {env : Env}
theorem Bud.le {hd : Option Value} {fr : List Env} {d u d' u' : Nat} (B : Bud A hd fr d u) (h1 : d' ≤ d) (h2 : u' ≤ u) : Bud A hd fr d' u' :=
  ⟨B.h, B.f, Nat.lt_of_le_of_lt (by lia) B.d, Nat.lt_of_le_of_lt (by lia) B.u⟩
theorem newX_own {m : Mp} {I : Hp} {W : Ws} {x C t tb : Addr} {dx : Option Addr} (O : Ok G c ⟨m, I, (x, excObj C t dx) :: W⟩ s) (h0 : x ∉ c.W0) : NewX c ⟨m, I, W⟩ ⟨x, tb, .ref C, dx, .none⟩ s :=
  ⟨⟨_, _, O.wr _ (.head _), rfl, rfl, rfl, rfl, rfl⟩, O.wI _ (.head _), fun p hp e => (List.nodup_cons.mp O.nd).1 (List.mem_map.mpr ⟨p, hp, e⟩), O.xW _ (.head _), h0⟩
theorem NewX.sub {m m' : Mp} {I : Hp} {W W' : Ws} {x : Ex} (h : NewX c ⟨m, I, W⟩ x s) (hW : ∀ p ∈ W', p ∈ W) : NewX c ⟨m', I, W'⟩ x s :=
  ⟨h.1, h.2.1, fun p hp => h.2.2.1 p (hW p hp), h.2.2.2.1, h.2.2.2.2⟩
theorem Flies.tr {st st' : St} {s' : Shared} {x : Ex} (O : Ok G c st s) (hn : s.heap.get? x.a = none ∧ s.heap.get? x.tb = none) (F : Flies st'.I st'.W x s') : Tr c st' x .none s' :=
  ⟨F.1, ⟨F.2.1.1, fun p hp => (F.2.2 p hp).1, O.size_none _ hn.1, fun h => O.w0 _ h hn.1⟩, ⟨F.2.1.2, fun p hp => (F.2.2 p hp).2, O.size_none _ hn.2, fun h => O.w0 _ h hn.2⟩⟩
theorem Tr.sub {m m' : Mp} {I : Hp} {W W' : Ws} {x : Ex} {fl : Value} (h : Tr c ⟨m, I, W⟩ x fl s) (hW : ∀ p ∈ W', p ∈ W) : Tr c ⟨m', I, W'⟩ x fl s :=
  ⟨h.1, ⟨h.2.1.1, fun p hp => h.2.1.2.1 p (hW p hp), h.2.1.2.2⟩, ⟨h.2.2.1, fun p hp => h.2.2.2.1 p (hW p hp), h.2.2.2.2⟩⟩
theorem InX.sub {m m' : Mp} {I : Hp} {W W' : Ws} {x : Ex} (h : InX c ⟨m, I, W⟩ x s) (hW : ∀ p ∈ W', p ∈ W) : InX c ⟨m', I, W'⟩ x s := by
  rcases h with h | h | h
  · exact .inl (h.sub hW)
  · exact .inr (.inl (h.sub hW))
  · exact .inr (.inr (h.sub hW))
end
section
noncomputable def slc (x : List UInt8) (a n : Nat) : List UInt8 := (x.drop a).take n
theorem slc_len (x : List UInt8) (a n : Nat) : (slc x a n).length = min n (x.length - a) := by simp [slc]
theorem cut_slc {x : List UInt8} {a n : Nat} {lo hi : Int} (h1 : lo = a) (h2 : hi = (a + n : Nat)) : cut x (some lo) (some hi) = slc x a n := by
  subst h1 h2
  simp only [cut, Option.elim, slc]
  rw [clip_ge (by lia), clip_ge (by lia)]
  simp only [Int.toNat_natCast]
  by_cases h : a ≤ x.length
  · rw [Nat.min_eq_left h]
    by_cases q : a + n ≤ x.length
    · rw [Nat.min_eq_left q, Nat.add_sub_cancel_left]
    · rw [Nat.min_eq_right (by lia), List.take_of_length_le (by simp), List.take_of_length_le (by simp; lia)]
  · rw [Nat.min_eq_right (by lia), Nat.min_eq_right (by lia), List.drop_of_length_le (Nat.le_refl _), List.drop_of_length_le (by lia)]
    simp
inductive HR where
  | idx
  | dec
  | ok (pre : List UInt8) (l : Bool) (size next : Nat)
noncomputable def rdH (x : List UInt8) (p : Nat) : HR :=
  if x.length ≤ p then .idx
  else if (x.getD p 0).toNat < 128 then .ok [] false 1 p
  else if (x.getD p 0).toNat < 184 then
    if (x.getD p 0).toNat = 129 ∧ x.length ≤ p + 1 then .idx
    else if (x.getD p 0).toNat = 129 ∧ (x.getD (p + 1) 0).toNat < 128 then .dec
    else .ok (slc x p 1) false ((x.getD p 0).toNat - 128) (p + 1)
  else if (x.getD p 0).toNat < 192 then
    if slc x (p + 1) 1 = [0] then .dec
    else if vD (slc x (p + 1) ((x.getD p 0).toNat - 183)) < 56 then .dec
    else .ok (slc x p 1 ++ slc x (p + 1) ((x.getD p 0).toNat - 183)) false (vD (slc x (p + 1) ((x.getD p 0).toNat - 183))) (p + 1 + ((x.getD p 0).toNat - 183))
  else if (x.getD p 0).toNat < 248 then .ok (slc x p 1) true ((x.getD p 0).toNat - 192) (p + 1)
  else
    if slc x (p + 1) 1 = [0] then .dec
    else if vD (slc x (p + 1) ((x.getD p 0).toNat - 247)) < 56 then .dec
    else .ok (slc x p 1 ++ slc x (p + 1) ((x.getD p 0).toNat - 247)) true (vD (slc x (p + 1) ((x.getD p 0).toNat - 247))) (p + 1 + ((x.getD p 0).toNat - 247))
theorem mm {L p c : Nat} (h : ¬ L ≤ p) : min 1 (L - p) + min c (L - (p + 1)) + p ≤ min (p + 1 + c) L := by lia
theorem mm0 {L p : Nat} (h : ¬ L ≤ p) : min 1 (L - p) + p ≤ min (p + 1) L := by lia
theorem rdH_next {x : List UInt8} {p : Nat} {pre : List UInt8} {l : Bool} {sz q : Nat} (h : rdH x p = .ok pre l sz q) : p < x.length ∧ p ≤ q ∧ pre.length + p ≤ min q x.length ∧ (q = p → l = false ∧ sz = 1) ∧ (l = true → 192 ≤ (x.getD p 0).toNat ∧ p < q) := by
  unfold rdH at h
  generalize (x.getD p 0).toNat = b at h ⊢
  repeat' split at h
  all_goals first | (cases h; done) | (simp only [HR.ok.injEq] at h; obtain ⟨rfl, rfl, rfl, rfl⟩ := h; refine ⟨?_, ?_, ?_, ?_, ?_⟩ <;> first | (simp only [List.length_append, slc_len]; first | exact mm ‹_› | exact mm0 ‹_›) | lia | (simp only [List.length_append, slc_len, List.length_nil]; lia) | (intro _; exact ⟨rfl, rfl⟩) | (intro _; lia) | (intro h; cases h))
end
section
open PySem.Builtin
theorem noI_bytes : typeLookup (.type "bytes") (dunderI "add") = pure none := by rw [typeLookup_type, builtinLookup_eq_fast]; kernel_rfl
variable {G : Base} {c : Fm} {st : St} {s : Shared} {A : Around} {E : VP} {env : Env}
theorem r_iaddB {x y : List UInt8} {t u : Tok} {Q : VP} (O : Ok G c st s) (hz : x.length + y.length ≤ 16777216) (h : ∀ t s', Ok G c st s' → Q (.bytes (x ++ y).toArray t) s') :
    wpAny (model G.prog G.w) A (inplaceOp .Add (.bytes x.toArray t) (.bytes y.toArray u)) Q E s := by
  refine iconcat_gives (typeIs_bytes s x.toArray t) (typeIs_bytes s y.toArray u) noI_bytes KBy.noFill_bytes_add KBy.seq_bytes_add FB.slot_bytes_add FB.entry_bytes_add (FB.args_bytes_add_2 _ _) (KBy.gives_bytes_add (KBy.tooLong_not (by simpa using hz))) ?_
  have h' : ∀ t' k, Q (.bytes (x.toArray ++ y.toArray) t') { s with toks := k } := fun t' k => by
    have := h t' { s with toks := k } O.toks
    simpa using this
  by_cases hb : x.toArray.isEmpty = true
  · rw [if_pos hb]
    have e : x.toArray = #[] := Array.isEmpty_iff.1 hb
    have h2 := h' u s.toks
    rw [e, Array.empty_append] at h2
    exact h2
  · rw [if_neg hb]
    first
      | exact h' _ _
      | (by_cases hc : y.toArray.isEmpty = true
         · rw [if_pos hc]
           have e : y.toArray = #[] := Array.isEmpty_iff.1 hc
           have h2 := h' t s.toks
           rw [e, Array.append_empty] at h2
           exact h2
         · rw [if_neg hc]; exact ⟨by rw [Array.size_append, sizeLine_eq]; simpa using hz, h' s.toks (s.toks + 1)⟩)
theorem r_eqS {x y : PySem.Str} {t u : Tok} {b : Bool} {Q : VP} (h : Q (.bool b) s) (e : (x == y) = b) : wpAny (model G.prog G.w) A (compareOp .Eq (.str x t) (.str y u)) Q E s :=
  PyProof.Rows.eq_str (e ▸ h)
theorem entry_unchain : entryFor table "proto.unchain" = some Builtin.«proto.unchain» := entryFor_of_tree (by kernel_rfl)
section
variable {prog : Program} {w : World} {A : Around} {E : VP} {s : Shared} {env : Env}
theorem raiseNew_held {α : Type} {e h : Addr} {oe oh : Obj} {vs us : Array Value} {Q : α → Shared → Prop} (hh : A.handled = some (.ref h)) (hne : h ≠ e) (hho : s.heap.get? h = some oh) (hd : oh.data = .fields vs) (h2 : vs[2]? = some .none)
    (he : s.heap.get? e = some oe) (hde : oe.data = .fields us) (hz : 2 < us.size) (k : E (.ref e) { s with heap := s.heap.update e (Obj.mapFields (·.setIfInBounds 2 (.ref h))) }) :
    wpAny (model prog w) A (raiseNew (.ref e) : Sem α) Q E s := by
  unfold raiseNew
  refine wpAny_bind (wpAny_handled ?_)
  rw [hh]
  dsimp only
  rw [if_pos (show (Value.ref h != Value.ref e) = true by simp [hne])]
  refine wpAny_bind ?_
  refine wpAny_holding (wpAny_runValue (codeAny_builtin entry_unchain ?_))
  unfold Builtin.«proto.unchain»
  refine wpAny_bind (wpAny_field hho hd h2 ?_)
  refine wpAny_bind (wpAny_pure (wpAny_pure ?_))
  refine ?_
  obtain ⟨ec, ed, edt, esl⟩ := oe
  dsimp only at hde
  subst hde
  unfold updateField
  refine wpAny_bind (wpAny_bind (wpAny_load he ?_))
  dsimp only
  rw [if_pos hz]
  exact wpAny_update he (wpAny_throw k)
theorem handle1 (b : Bool) {e : Addr} {t : PySem.Expr} {b₀ : Stmt} {suite : List Stmt} {pos : Pos} {rest : List ExceptHandler} {Q : Flow → Shared → Prop}
    (h : wpAny (model prog w) (A.mark (some (.ref e))) (eval t env) (fun c s₁ => wpAny (model prog w) (A.mark (some (.ref e))) (excMatches (.ref e) c) (fun b' s₂ => b' = b ∧
      (if b then wpAny (model prog w) (A.mark (some (.ref e))) (setFlight (.ref e) none) (fun _ s₃ => wpAny (model prog w) (A.mark (some (.ref e))) (execs (b₀ :: suite) env) Q (notedBy (model prog w) (A.mark (some (.ref e))) env (cameBackBy (model prog w) A env E)) s₃) (notedBy (model prog w) (A.mark (some (.ref e))) env (cameBackBy (model prog w) A env E)) s₂
       else wpAny (model prog w) A (handleBy (.ref e) env rest) Q E s₂)) (notedBy (model prog w) (A.mark (some (.ref e))) env (cameBackBy (model prog w) A env E)) s₁) (notedBy (model prog w) (A.mark (some (.ref e))) env (cameBackBy (model prog w) A env E)) s) :
    wpAny (model prog w) A (handleBy (.ref e) env (.ExceptHandler (some t) none (b₀ :: suite) pos :: rest)) Q E s := by
  refine wpAny_handleBy_cons (codeAny_handlers_test (wpAny_mono h (fun c s₁ h₁ => wpAny_mono h₁ (fun b' s₂ h₂ => ?_) fun _ _ x => x) fun _ _ x => x)) (by intro q; cases q)
  obtain ⟨rfl, hk⟩ := h₂
  cases b' with
  | true => exact codeAny_handlers_suite hk
  | false => exact hk
end
variable {G : Base} {c : Fm} {st : St} {s : Shared} {A : Around} {E : VP}
theorem r_caught {E₁ : Ex → St → Prop} {e : Value} {hs : List ExceptHandler} {Q : Flow → Shared → Prop} (hfr : A.frames = some (c.env :: c.outer)) (h : ESt G c E₁ e s)
    (hk : ∀ x st' s', Ok G c st' s' → Tr c st' x .none s' → E₁ x st' → wpAny (model G.prog G.w) A (handleBy (.ref x.a) c.env hs) Q E s') :
    wpAny (model G.prog G.w) A (noteFrame e c.env) (fun _ s₂ => wpAny (model G.prog G.w) A (setFlight e none) (fun _ s₃ => wpAny (model G.prog G.w) A (handleBy e c.env hs) Q E s₃) E s₂) E s := by
  obtain ⟨x, st', rfl, O, X, he⟩ := h
  refine r_note O hfr X fun s' tb O' T' => ?_
  refine r_setFlight (x := { x with tb := tb }) (fo := none) O' T' fun s'' O'' T'' => ?_
  exact hk { x with tb := tb } st' s'' O'' T'' (he tb)
theorem r_land {x : Ex} {fl : Value} {Q : Unit → Shared → Prop} (O : Ok G c st s) (T : Tr c st x fl s) (h : ∀ s', Ok G c st s' → Tr c st x .none s' → Q () s') :
    wpAny (model G.prog G.w) A (setFlight (.ref x.a) none) Q E s := r_setFlight (fo := none) O T h
theorem r_matchT {x : Ex} {X T : String} {b : Bool} {fl : Value} {Q : Bool → Shared → Prop} (Tx : Tr c st x fl s) (hc : x.cls = .type X)
    (hexc : isSubtype (.type T) (.type "BaseException") = pure true) (hnt : isSubtype (.type ((Manifest.find? T).elim "type" fun x => x.metatype)) (.type "tuple") = pure false)
    (hsub : isSubtype (.type X) (.type T) = pure b) (h : Q b s) : wpAny (model G.prog G.w) A (excMatches (.ref x.a) (.type T)) Q E s := by
  obtain ⟨⟨oe, vs, oT, ts, h1, h2, h3, h4, h5, h6, h7, h8, h9⟩, o1, o2⟩ := Tx
  exact wpAny_excMatches_type (X := X) ⟨oe, h1, h2.trans hc⟩ hexc hnt hsub h
theorem r_matchS {x : Ex} {C : Addr} {fl : Value} {oC : Obj} {Q : Bool → Shared → Prop} (O : Ok G c st s) (Tx : Tr c st x fl s) (hc : x.cls = .ref C) (hC : G.K.lookup C = some oC)
    (hform : ∃ nm q N bs bm hdct sn sub ab col dd k0 k1 k2 k3 k5 newId, oC = excClassObj nm q C N bs bm hdct sn sub ab col dd k0 k1 k2 k3 k5 newId ∧ bm.contains (.type "BaseException") = true)
    (h : Q true s) : wpAny (model G.prog G.w) A (excMatches (.ref x.a) (.ref C)) Q E s := by
  obtain ⟨nm, q, N, bs, bm, hdct, sn, sub, ab, col, dd, k0, k1, k2, k3, k5, newId, rfl, hb⟩ := hform
  obtain ⟨⟨oe, vs, oT, ts, h1, h2, h3, h4, h5, h6, h7, h8, h9⟩, o1, o2⟩ := Tx
  have X := O.In
  obtain ⟨hp, g, d, tk, os⟩ := s
  exact wpAny_excMatches_sub_self (X _ _ hC) h1 (h2.trans hc) hb h
section
variable {env : Env} {nm q : Str} {C N : Addr} {bs bm : List Value} {hdct : Bool} {sn : List Str} {sub : List Value} {ab : Bool} {col : Option Bool} {dd : Option Addr} {k0 k1 k2 k3 k5 : Option Value} {newId : String}
end
end
section
open PySem.Builtin
variable {G : Base} {c : Fm} {st : St} {s : Shared} {A : Around} {E : VP}
theorem Bud.mark {hd : Option Value} {fr : List Env} {d u : Nat} (B : Bud A hd fr d u) (v : Value) : Bud (A.mark (some v)) (some v) fr d u := ⟨rfl, B.f, B.d, B.u⟩
theorem Ok.takeX {m : Mp} {I : Hp} {W : Ws} {x : Ex} {fl : Value} (O : Ok G c ⟨m, I, W⟩ s) (T : Tr c ⟨m, I, W⟩ x fl s) :
    ∃ oe vs, Ok G c ⟨m, I, (x.a, oe) :: W⟩ s ∧ oe.data = .fields vs ∧ vs[2]? = some x.cx ∧ oe.cls = x.cls ∧ oe.dict = x.dx := by
  obtain ⟨⟨oe, vs, oT, ts, h1, h2, h3, h4, h5, h6, h7, h8, h9⟩, o1, o2⟩ := T
  have hne := Off.ne_L O h1 h4
  refine ⟨oe, vs, ?_, h4, h5.2, h2, h3⟩
  exact { O with
    wr := fun p hp => by rcases List.mem_cons.mp hp with rfl | hp; exact h1; exact O.wr p hp
    wI := fun p hp => by rcases List.mem_cons.mp hp with rfl | hp; exact o1.1; exact O.wI p hp
    nd := by
      show (x.a :: W.map Prod.fst).Nodup
      refine List.nodup_cons.mpr ⟨fun h => ?_, O.nd⟩
      obtain ⟨p, hp, e⟩ := List.mem_map.mp h
      exact o1.2.1 p hp e
    LW := fun p hp => by
      rcases List.mem_cons.mp hp with rfl | hp
      · exact fun e => hne (by rw [show x.a = c.L from e]; exact .head _)
      · exact O.LW p hp
    fI := fun y hy => ⟨(O.fI y hy).1, fun p hp => by
      rcases List.mem_cons.mp hp with rfl | hp
      · exact fun e => hne (.tail _ (by rw [show x.a = y from e]; exact hy))
      · exact (O.fI y hy).2 p hp⟩
    xW := fun p hp => by rcases List.mem_cons.mp hp with rfl | hp; exact o1.2.2.1; exact O.xW p hp }
end
section
open PySem.Builtin
variable {G : Base} {c : Fm} {st : St} {s : Shared} {A : Around} {E : VP} {env : Env}
theorem enterP {a : Addr} {fd : FuncData} {body : List Stmt} {oc : Value} {od : Option Addr} {osl : Array (Option Value)}
    {args : List Value} {binds : List (Str × Value)} {hd : Option Value} {d u : Nat} {I : Hp} {W : Ws} {Q : Value → Hp → Ws → Prop} {E : Ex → Hp → Ws → Prop}
    (hlk : G.K.lookup a = some ⟨oc, od, .func fd, osl⟩) (hb : fd.body = .stmts body) (hcd : codeIn G.K fd.code fd.qualname = true)
    (hbind : ∀ S, peek G.K S (bindArgs fd ⟨args, []⟩) = some binds)
    (hcell : (fd.scope.names.all fun x => decide (x.2 ≠ .cell)) = true) (hloc : (binds.all fun x => decide (fd.scope.names.lookup x.1 = some .local)) = true)
    (hco : fd.scope.isCoroutine = false) (hgen : fd.scope.isGenerator = false) (hk : fd.scope.kind = .function) (hgl : fd.globals = mainGlobals) (hbl : fd.builtins = builtinsNs)
    (h : ∀ (c : Fm) (A : Around) (s₁ : Shared), c.fd = fd → Ok G c ⟨ov binds.reverse fun _ => none, I, W⟩ s₁ → Bud A hd (c.env :: c.outer) d u →
      wpAny (model G.prog G.w) A (execs body c.env) (EndQ G c Q) (EndX G c E) s₁) :
    Cl G (.ref a) args hd (d + 1) (u + 3) I W Q E :=
  enter (fun b => b _ _ (G.X _ _ hlk)) rfl hb (codeRec_of G.X hcd) (fun s hs => kp_binds (G.X.keeps hs) hbind) (fun x hx => of_decide_eq_true (List.all_eq_true.mp hcell x hx)) (locs hloc) hco hgen hk hgl hbl
    fun c A s₁ h1 _ O B => h c A s₁ h1 (by
      have e : (ov binds.reverse fun _ => none) = fun x => binds.reverse.lookup x := by
        funext y; unfold ov; cases binds.reverse.lookup y <;> rfl
      rw [e]; exact O) B
end
section
open PySem.Builtin
open PyProof.Rows.LCg (NsObj ns_obj)
noncomputable def HdH (hd : Option Value) (h : Hp) : Prop := hd = none ∨ ∃ a oe vs, hd = some (.ref a) ∧ h a = some oe ∧ oe.data = .fields vs ∧ vs[2]? = some .none
theorem HdH.mono {hd : Option Value} {h h' : Hp} (H : HdH hd h) (k : ∀ a o, h a = some o → h' a = some o) : HdH hd h' := by
  rcases H with r | ⟨a, oe, vs, r, e, q⟩
  · exact .inl r
  · exact .inr ⟨a, oe, vs, r, k _ _ e, q⟩
noncomputable def hdA : Option Value → List Addr
  | some (.ref a) => [a]
  | _ => []
noncomputable def sqO (k : Bool) (vs : List Value) (n : Nat) : Obj := { cls := .type (bif k then "tuple" else "list"), data := .seq vs.toArray n }
noncomputable def itO (k : Bool) (l : Addr) (i : Nat) : Obj := { cls := .type (bif k then "tuple_iterator" else "list_iterator"), data := .fields #[.ref l, .int i 0] }
noncomputable def SqIt (h : Heap) (it l : Addr) (k : Bool) (i : Nat) : Prop := ∃ o, h.get? it = some o ∧ o.cls = .type (bif k then "tuple_iterator" else "list_iterator") ∧ o.data = .fields #[.ref l, .int i 0]
theorem sq_fp {hd : Option Value} {I : Hp} {it l b : Addr} {o : Obj} (H : HdH hd I) (hl : I l = some o) (hb : b ∈ [it, l] ++ hdA hd) (h : b ∉ [it]) : ∃ o, I b = some o := by
  rcases H with rfl | ⟨a, oe, ws, rfl, e, q⟩
  · simp only [hdA, List.append_nil, List.mem_cons, List.not_mem_nil, or_false] at hb h
    rcases hb with rfl | rfl
    · exact absurd rfl h
    · exact ⟨_, hl⟩
  · simp only [hdA, List.mem_append, List.mem_cons, List.not_mem_nil, or_false] at hb h
    rcases hb with (rfl | rfl) | rfl
    · exact absurd rfl h
    · exact ⟨_, hl⟩
    · exact ⟨_, e⟩
section
variable {prog : Program} {w : World} {A : Around} {E : VP} {s : Shared}
theorem stop_hd {α : Type} {Q : α → Shared → Prop} {hd : Option Value} (hh : A.handled = hd) (H : HdH hd s.heap.get?)
    (k : ∀ h' e, (∀ b o, s.heap.get? b = some o → h'.get? b = some o) → (∃ o, h'.get? e = some o ∧ o.cls = .type "StopIteration") → E (.ref e) { s with heap := h' }) :
    wpAny (model prog w) A (newExc (.type "StopIteration") [] >>= fun e => (raiseNew e : Sem α)) Q E s := by
  refine wpAny_bind ?_
  simp only [newExc, newTuple]
  refine wpAny_bind (wpAny_newObj_type ?_ (by size_fits))
  refine wpAny_bind (m := firstArgMember _ _) (wpAny_of_eq (a := Value.none) (by first | rfl | (simp only [firstArgMember]; rfl)) ?_)
  refine wpAny_newObj_type ?_ (by size_fits)
  rcases H with rfl | ⟨a, oe, vs, rfl, e, hd, h2⟩
  · unfold raiseNew
    refine wpAny_bind (wpAny_handled ?_)
    rw [hh]
    refine wpAny_bind (wpAny_pure (wpAny_throw (k _ _ (fun b o e => Heap.get?_push_of_some _ (Heap.get?_push_of_some _ e)) ⟨_, Heap.get?_push_size _ rfl, rfl⟩)))
  · have e1 := Heap.get?_push_of_some { cls := .type "tuple", data := .seq #[] } e
    have hlt := Heap.lt_size e1
    have he := Heap.get?_push_size (s.heap.push { cls := .type "tuple", data := .seq #[] }) (o := { cls := .type "StopIteration", data := .fields #[.ref s.heap.objs.size, .none, .none, .none, .bool false, .none] }) rfl
    refine raiseNew_held hh (Nat.ne_of_lt hlt) (Heap.get?_push_of_some _ e1) hd h2 he rfl (by simp) (k _ _ (fun b o eb => ?_) ⟨_, Heap.get?_update_self _ he rfl, rfl⟩)
    have q := Heap.get?_push_of_some { cls := .type "StopIteration", data := .fields #[.ref s.heap.objs.size, .none, .none, .none, .bool false, .none] } (Heap.get?_push_of_some { cls := .type "tuple", data := .seq #[] } eb)
    refine (Heap.get?_update_other _ _ fun z => ?_).trans q
    have := Heap.lt_size (Heap.get?_push_of_some { cls := .type "tuple", data := .seq #[] } eb)
    rw [← z] at this
    exact absurd this (Nat.lt_irrefl _)
theorem pyIter_sq {l : Addr} {k : Bool} {vs : List Value} {n : Nat} {Q : VP} (e : s.heap.get? l = some (sqO k vs n)) (h : Q (.ref s.heap.objs.size) { s with heap := s.heap.push (itO k l 0) }) :
    wpAny (model prog w) A (pyIter (.ref l)) Q E s := by
  cases k with
  | true => exact wpAny_pyIter_tuple ⟨_, e, rfl, _, rfl⟩ h
  | false => exact wpAny_pyIter_list ⟨_, e, rfl, _, rfl⟩ h
theorem pyIter_it {it l : Addr} {k : Bool} {i : Nat} {Q : VP} (e : SqIt s.heap it l k i) (h : Q (.ref it) s) : wpAny (model prog w) A (pyIter (.ref it)) Q E s := by
  cases k with
  | true => exact wpAny_pyIter_tupleiter e h
  | false => exact wpAny_pyIter_listiter e h
theorem cs_end {it l : Addr} {k : Bool} {i n : Nat} {vs : List Value} {hd : Option Value} {Q : Option Value → Shared → Prop} (hh : A.handled = hd) (H : HdH hd s.heap.get?)
    (hit : SqIt s.heap it l k i) (hl : s.heap.get? l = some (sqO k vs n)) (hx : vs[i]? = none)
    (hE : ∀ h' e, Heap.ExtBut it s.heap h' → (∃ o, h'.get? e = some o ∧ o.cls = .type "StopIteration") → E (.ref e) { s with heap := h' }) : wpAny (model prog w) A (callSpecial? (.ref it) (Str.ofString "__next__")) Q E s := by
  obtain ⟨o, ho, hc, hd'⟩ := hit
  have H' : HdH hd (s.heap.update it (Obj.mapFields (·.setIfInBounds 0 .none))).get? := by
    rcases H with r | ⟨a, oe, ws, r, e, q1, q2⟩
    · exact .inl r
    · refine .inr ⟨a, oe, ws, r, (Heap.get?_update_other _ _ fun z => ?_).trans e, q1, q2⟩
      subst z
      rw [ho] at e; cases e; rw [hd'] at q1; cases q1; simp at q2
  have hT : s.TypeIs (.ref it) (bif k then "tuple_iterator" else "list_iterator") := ⟨_, ho, hc⟩
  cases k
  · refine wpAny_callSpecial?_slot (name := Str.ofString "__next__") hT slot_listiter_next
      (wpAny_call_entry slot_listiter_next hT entry_listiter_next ?_ (args_listiter_next _))
    show wpAny _ _ (field (.ref it) 0 >>= _) _ _ s
    refine wpAny_bind (wpAny_field ho hd' (x := .ref l) rfl ?_)
    show wpAny _ _ (if (Value.ref l == Value.none) = true then _ else _) _ _ s
    rw [if_neg (show ¬ ((Value.ref l == Value.none) = true) from Bool.false_ne_true)]
    show wpAny _ _ (field (.ref it) 1 >>= _) _ _ s
    refine wpAny_bind (wpAny_field ho hd' (x := .int i 0) rfl ?_)
    show wpAny _ _ (seqItems? (.ref l) >>= _) _ _ s
    refine wpAny_bind (wpAny_seqItems hl rfl ?_)
    simp only [Int.toNat_natCast, List.getElem?_toArray, hx]
    refine wpAny_bind (wpAny_rule (wpAny_bind (wpAny_setField ho hd' (by simp) ?_)))
    show wpAny _ _ (newExc (.type "StopIteration") [] >>= fun e => raiseNew e) _ _ _
    exact stop_hd hh H' fun h' e hk he => hE h' e (fun b o hb eb => hk b o ((Heap.get?_update_other _ _ (Ne.symm hb)).trans eb)) he
  · refine wpAny_callSpecial?_slot (name := Str.ofString "__next__") hT F.slot_tuple_iterator_next
      (wpAny_call_entry F.slot_tuple_iterator_next hT F.entry_tuple_iterator_next ?_ (F.args_tuple_iterator_next_1 _))
    show wpAny _ _ (field (.ref it) 0 >>= _) _ _ s
    refine wpAny_bind (wpAny_field ho hd' (x := .ref l) rfl ?_)
    show wpAny _ _ (if (Value.ref l == Value.none) = true then _ else _) _ _ s
    rw [if_neg (show ¬ ((Value.ref l == Value.none) = true) from Bool.false_ne_true)]
    show wpAny _ _ (field (.ref it) 1 >>= _) _ _ s
    refine wpAny_bind (wpAny_field ho hd' (x := .int i 0) rfl ?_)
    show wpAny _ _ (seqItems? (.ref l) >>= _) _ _ s
    refine wpAny_bind (wpAny_seqItems hl rfl ?_)
    simp only [Int.toNat_natCast, List.getElem?_toArray, hx]
    refine wpAny_bind (wpAny_rule (wpAny_bind (wpAny_setField ho hd' (by simp) ?_)))
    show wpAny _ _ (newExc (.type "StopIteration") [] >>= fun e => raiseNew e) _ _ _
    exact stop_hd hh H' fun h' e hk he => hE h' e (fun b o hb eb => hk b o ((Heap.get?_update_other _ _ (Ne.symm hb)).trans eb)) he
theorem cs_item {it l : Addr} {k : Bool} {i n : Nat} {vs : List Value} {x : Value} {Q : Option Value → Shared → Prop} (hit : SqIt s.heap it l k i) (hl : s.heap.get? l = some (sqO k vs n)) (hx : vs[i]? = some x)
    (hQ : ∀ h', SqIt h' it l k (i + 1) → Heap.SameBut it s.heap h' → Q (some x) { s with heap := h' }) : wpAny (model prog w) A (callSpecial? (.ref it) (Str.ofString "__next__")) Q E s := by
  obtain ⟨o, ho, hc, hd'⟩ := hit
  have hT : s.TypeIs (.ref it) (bif k then "tuple_iterator" else "list_iterator") := ⟨_, ho, hc⟩
  cases k
  · refine wpAny_callSpecial?_slot (name := Str.ofString "__next__") hT slot_listiter_next
      (wpAny_call_entry slot_listiter_next hT entry_listiter_next ?_ (args_listiter_next _))
    show wpAny _ _ (field (.ref it) 0 >>= _) _ _ s
    refine wpAny_bind (wpAny_field ho hd' (x := .ref l) rfl ?_)
    show wpAny _ _ (if (Value.ref l == Value.none) = true then _ else _) _ _ s
    rw [if_neg (show ¬ ((Value.ref l == Value.none) = true) from Bool.false_ne_true)]
    show wpAny _ _ (field (.ref it) 1 >>= _) _ _ s
    refine wpAny_bind (wpAny_field ho hd' (x := .int i 0) rfl ?_)
    show wpAny _ _ (seqItems? (.ref l) >>= _) _ _ s
    refine wpAny_bind (wpAny_seqItems hl rfl ?_)
    simp only [Int.toNat_natCast, List.getElem?_toArray, hx]
    refine wpAny_bind (wpAny_setField ho hd' (by simp) (wpAny_pure ⟨x, rfl, hQ _ ⟨_, Heap.get?_update_self _ ho (Obj.isFreed_of_fields (Obj.data_mapFields hd' _)), (Obj.cls_mapFields ..).trans hc, ?_⟩ (Heap.SameBut.update ..)⟩))
    rw [Obj.data_mapFields hd']; simp [rawInt]
  · refine wpAny_callSpecial?_slot (name := Str.ofString "__next__") hT F.slot_tuple_iterator_next
      (wpAny_call_entry F.slot_tuple_iterator_next hT F.entry_tuple_iterator_next ?_ (F.args_tuple_iterator_next_1 _))
    show wpAny _ _ (field (.ref it) 0 >>= _) _ _ s
    refine wpAny_bind (wpAny_field ho hd' (x := .ref l) rfl ?_)
    show wpAny _ _ (if (Value.ref l == Value.none) = true then _ else _) _ _ s
    rw [if_neg (show ¬ ((Value.ref l == Value.none) = true) from Bool.false_ne_true)]
    show wpAny _ _ (field (.ref it) 1 >>= _) _ _ s
    refine wpAny_bind (wpAny_field ho hd' (x := .int i 0) rfl ?_)
    show wpAny _ _ (seqItems? (.ref l) >>= _) _ _ s
    refine wpAny_bind (wpAny_seqItems hl rfl ?_)
    simp only [Int.toNat_natCast, List.getElem?_toArray, hx]
    refine wpAny_bind (wpAny_setField ho hd' (by simp) (wpAny_pure ⟨x, rfl, hQ _ ⟨_, Heap.get?_update_self _ ho (Obj.isFreed_of_fields (Obj.data_mapFields hd' _)), (Obj.cls_mapFields ..).trans hc, ?_⟩ (Heap.SameBut.update ..)⟩))
    rw [Obj.data_mapFields hd']; simp [rawInt]
theorem end_sq {it l : Addr} {k : Bool} {i n : Nat} {vs : List Value} {hd : Option Value} {Q : Option Value → Shared → Prop} (hh : A.handled = hd) (H : HdH hd s.heap.get?)
    (hit : SqIt s.heap it l k i) (hl : s.heap.get? l = some (sqO k vs n)) (hx : vs[i]? = none)
    (hQ : ∀ h', Heap.ExtBut it s.heap h' → Q none { s with heap := h' }) : wpAny (model prog w) A (pyNext (.ref it)) Q E s := by
  unfold pyNext
  refine wpAny_bind (wpAny_attempt (cs_end hh H hit hl hx fun h' e hk he => ?_))
  exact wpAny_bind (wpAny_isInstance (T := "StopIteration") (b := true) he isSubtype_stop (wpAny_pure (hQ h' hk)))
theorem item_sq {it l : Addr} {k : Bool} {i n : Nat} {vs : List Value} {x : Value} {Q : Option Value → Shared → Prop} (hit : SqIt s.heap it l k i) (hl : s.heap.get? l = some (sqO k vs n)) (hx : vs[i]? = some x)
    (hQ : ∀ h', SqIt h' it l k (i + 1) → Heap.SameBut it s.heap h' → Q (some x) { s with heap := h' }) : wpAny (model prog w) A (pyNext (.ref it)) Q E s := by
  unfold pyNext
  exact wpAny_bind (wpAny_attempt (cs_item hit hl hx fun h' a b => wpAny_pure (hQ h' a b)))
theorem nextOf_item {it l : Addr} {k : Bool} {i n : Nat} {vs : List Value} {x : Value} {Q : VP} (hit : SqIt s.heap it l k i) (hl : s.heap.get? l = some (sqO k vs n)) (hx : vs[i]? = some x)
    (hQ : ∀ h', SqIt h' it l k (i + 1) → Heap.SameBut it s.heap h' → Q x { s with heap := h' }) : wpAny (model prog w) A (Builtin.SmallTypes.nextOf (.ref it)) Q E s := by
  unfold Builtin.SmallTypes.nextOf
  exact wpAny_bind (cs_item hit hl hx fun h' a b => wpAny_pure (hQ h' a b))
theorem nextOf_end {it l : Addr} {k : Bool} {i n : Nat} {vs : List Value} {Q : VP} (hh : A.handled = none)
    (hit : SqIt s.heap it l k i) (hl : s.heap.get? l = some (sqO k vs n)) (hx : vs[i]? = none)
    (hE : ∀ h' e, Heap.ExtBut it s.heap h' → (∃ o, h'.get? e = some o ∧ o.cls = .type "StopIteration") → E (.ref e) { s with heap := h' }) : wpAny (model prog w) A (Builtin.SmallTypes.nextOf (.ref it)) Q E s := by
  unfold Builtin.SmallTypes.nextOf
  exact wpAny_bind (cs_end hh (.inl rfl) hit hl hx hE)
theorem walks_sq {hd : Option Value} (hh : A.handled = hd) (it l : Addr) (hne : l ≠ it) (k : Bool) (vs : List Value) (n : Nat) :
    Walks prog w A it ([it, l] ++ hdA hd) [it] vs.length (fun i v => vs[i]? = some v) (fun i h => SqIt h it l k i ∧ h.get? l = some (sqO k vs n) ∧ HdH hd h.get?) where
  sub := fun b hb => by simp at hb; simp [hb]
  frame := fun i h h' st hk => by
    obtain ⟨⟨o, ho, r⟩, hl, H⟩ := st
    refine ⟨⟨o, hk _ (by simp) _ ho, r⟩, hk _ (by simp) _ hl, ?_⟩
    rcases H with r | ⟨a, oe, ws, rfl, e, q⟩
    · exact .inl r
    · exact .inr ⟨a, oe, ws, rfl, hk _ (by simp [hdA]) _ e, q⟩
  item := fun i s Q E hi st hQ => by
    obtain ⟨hit, hl, H⟩ := st
    refine item_sq hit hl (x := vs[i]) (by simp [hi]) fun h' hit' hs' => ?_
    refine hQ _ h' s.toks (by simp [hi]) ⟨hit', hs'.extBut l _ hne hl, ?_⟩ fun b o hb e => hs'.extBut b o (fun h => hb (by simp [h])) e
    rcases H with r | ⟨a, oe, ws, rfl, e, q1, q2⟩
    · exact .inl r
    · refine .inr ⟨a, oe, ws, rfl, hs'.extBut a _ (fun z => ?_) e, q1, q2⟩
      obtain ⟨o, ho, hc, hd'⟩ := hit
      subst z
      rw [ho] at e; cases e; rw [hd'] at q1; cases q1; simp at q2
  done := fun s Q E st hQ => end_sq hh st.2.2 st.1 st.2.1 (by simp) fun h' he' => hQ h' s.toks fun b o hb e => he' b o (fun h => hb (by simp [h])) e
  self := fun _ _ _ _ st hQ => pyIter_it st.1 hQ
end
variable {G : Base} {c : Fm} {st : St} {s : Shared} {A : Around} {E : VP}
theorem r_seq_loop {x : Str} {px : Pos} {body : List Stmt} {l : Addr} {k : Bool} {vs : List Value} {nn : Nat} {m : Mp} {I : Hp} {W : Ws} {Q : Flow → Shared → Prop} {E₁ : Ex → St → Prop} {hd : Option Value} (J : Nat → St → Prop) (hh : A.handled = hd) (H : HdH hd I)
    (O : Ok G c ⟨m, I, W⟩ s) (hl : I l = some (sqO k vs nn)) (hx : c.env.kindOf x = some .local) (hfr : A.frames = some (c.env :: c.outer)) (j0 : J 0 ⟨m, I, W⟩)
    (turn : ∀ (i : Nat) v st' Wi s', vs[i]? = some v → J i st' → Ok G (c.re I) ⟨ov [(x, v)] st'.m, st'.I, Wi ++ st'.W⟩ s' →
      wpAny (model G.prog G.w) A (execs body c.env) (TurnQ G (c.re I) (J (i + 1)) Wi Q) (ESt G (c.re I) E₁) s')
    (done : ∀ st' s', J vs.length st' → Ok G c st' s' → (∀ a o, I a = some o → st'.I a = some o) → Q .next s') :
    wpAny (model G.prog G.w) A (pyIter (.ref l)) (fun it s₂ =>
      codeAny (model G.prog G.w) A (.forLoop (.Name x px) it body [] c.env) (fun r s' => match r with | .ok f => Q f s' | .error e => cameBackBy (model G.prog G.w) A c.env (ESt G c E₁) e s') s₂) (ESt G c E₁) s := by
  have e := O.im l _ hl
  refine pyIter_sq e ?_
  have hf := size_free s.heap
  have O₂ := O.own (s' := { s with heap := s.heap.push (itO k l 0) }) (fun _ _ e => Heap.get?_push_of_some _ e) hf (Heap.get?_push_size _ rfl) rfl rfl
  have hne : l ≠ s.heap.objs.size := fun q => by rw [q, hf] at e; cases e
  refine loop_for (Wi := [_]) (wr := [_]) J (walks_sq hh _ l hne k vs nn) (fun i h e b hb => ?_) hx hfr O₂ rfl (fun b hb => ?_) (fun b hb h => ?_) ?_ j0
    (fun i v st' Wi' s' hi hP hJ O' => ?_) (fun st' s' hJ O' => done st' s' hJ (O₂.unre rfl O') fun a o e => O'.sub a o e) fun e s' he => ESt.noted hfr (ESt.unre O rfl he)
  · rw [List.mem_singleton.mp hb]; obtain ⟨o, ho, _⟩ := e.1; exact ⟨o, ho⟩
  · rw [List.mem_singleton.mp hb]; exact (off_fresh O hf).2.2.2
  · exact sq_fp H hl hb h
  · exact ⟨⟨_, Heap.get?_push_size _ rfl, rfl, rfl⟩, Heap.get?_push_of_some _ e, H.mono fun a o e => O₂.im _ _ e⟩
  · refine wpAny_mono (turn i v st' Wi' s' hP hJ O') (fun f s3 h => ?_) fun _ _ h => h
    cases f <;> exact h
end
section
open PySem.Builtin
open PyProof.Rows.LCg (NsObj ns_obj)
variable {G : Base} {c : Fm} {st : St} {s : Shared} {A : Around} {E : VP}
theorem Ok.iter {wr : List Addr} {Wi' : Ws} {st' : St} {s' s'' : Shared} (O' : Ok G c ⟨st'.m, st'.I, Wi' ++ st'.W⟩ s') (hw : Wi'.map Prod.fst = wr) (hlive0 : ∀ b ∈ wr, ∃ o, s''.heap.get? b = some o)
    (hk : ∀ b o, b ∉ wr → s'.heap.get? b = some o → s''.heap.get? b = some o) (hg : s''.gens = s'.gens) (ho : s''.os = s'.os) :
    ∃ Wi'', Wi''.map Prod.fst = wr ∧ Ok G c ⟨st'.m, st'.I, Wi'' ++ st'.W⟩ s'' := by
    refine ⟨wr.map fun b => (b, (s''.heap.get? b).getD default), ?_, ?_⟩
    · rw [List.map_map]; exact List.map_id' _
    have inW : ∀ b ∈ wr, ∃ p ∈ Wi' ++ st'.W, p.1 = b := fun b hb => by
      rw [← hw] at hb
      obtain ⟨p, hp, e⟩ := List.mem_map.mp hb
      exact ⟨p, List.mem_append_left _ hp, e⟩
    have notI : ∀ a o, st'.I a = some o → a ∉ wr := fun a o h hm => by
      obtain ⟨p, hp, rfl⟩ := inW a hm
      have : st'.I p.1 = none := O'.wI p hp
      rw [h] at this; cases this
    have notX : ∀ a o, c.ext a = some o → a ∉ wr := fun a o h hm => by
      obtain ⟨p, hp, rfl⟩ := inW a hm
      have : c.ext p.1 = none := O'.xW p hp
      rw [h] at this; cases this
    have notL : c.L ∉ wr := fun hm => by
      obtain ⟨p, hp, e⟩ := inW _ hm
      exact O'.LW p hp e
    have notF : ∀ a ∈ fas c.outer, a ∉ wr := fun a ha hm => by
      obtain ⟨p, hp, e⟩ := inW a hm
      exact (O'.fI a ha).2 p hp e
    have nd := O'.nd
    simp only [List.map_append, List.nodup_append, hw] at nd
    have sub : ∀ p ∈ (wr.map fun b => (b, (s''.heap.get? b).getD default)) ++ st'.W, (p.1 ∈ wr ∧ s''.heap.get? p.1 = some p.2) ∨ (p ∈ st'.W ∧ p.1 ∉ wr) := fun p hp => by
      rcases List.mem_append.mp hp with h | h
      · obtain ⟨b, hb, rfl⟩ := List.mem_map.mp h
        obtain ⟨o, ho⟩ := hlive0 b hb
        exact .inl ⟨hb, by rw [ho]; rfl⟩
      · exact .inr ⟨h, fun hm => nd.2.2 _ hm _ (List.mem_map.mpr ⟨p, h, rfl⟩) rfl⟩
    have adr : ∀ p ∈ (wr.map fun b => (b, (s''.heap.get? b).getD default)) ++ st'.W, ∃ q ∈ Wi' ++ st'.W, q.1 = p.1 := fun p hp => by
      rcases sub p hp with h | h
      · exact inW _ h.1
      · exact ⟨p, List.mem_append_right _ h.1, rfl⟩
    exact
    { b := O'.b
      ns := O'.ns.at' fun o e => hk _ _ notL e
      im := fun a o h => hk _ _ (notI a o h) (O'.im a o h)
      wr := fun p hp => by
        rcases sub p hp with h | h
        · exact h.2
        · exact hk _ _ h.2 (O'.wr p (List.mem_append_right _ h.1))
      wI := fun p hp => by obtain ⟨q, hq, e⟩ := adr p hp; exact e ▸ O'.wI q hq
      nd := by
        simp only [List.map_append, List.map_map, List.nodup_append]
        rw [show (wr.map (Prod.fst ∘ fun b => (b, (s''.heap.get? b).getD default))) = wr from List.map_id' _]
        exact nd
      LI := O'.LI
      LW := fun p hp => by obtain ⟨q, hq, e⟩ := adr p hp; exact e ▸ O'.LW q hq
      fI := fun a ha => ⟨(O'.fI a ha).1, fun p hp => by obtain ⟨q, hq, e⟩ := adr p hp; exact e ▸ (O'.fI a ha).2 q hq⟩
      ff := fun e he => by
        obtain ⟨h1, L, o, es, ep, h2, h3, h4⟩ := O'.ff e he
        exact ⟨h1, L, o, es, ep, h2, hk _ _ (notF L (List.mem_filterMap.mpr ⟨e, he, h2⟩)) h3, h4⟩
      keep := fun a o h n => hk _ _ (notX a o h) (O'.keep a o h n)
      keepf := fun a o h => by
        obtain ⟨sl, e⟩ := O'.keepf a o h
        exact ⟨sl, hk _ _ (notX a o h) e⟩
      xW := fun p hp => by obtain ⟨q, hq, e⟩ := adr p hp; exact e ▸ O'.xW q hq
      xL := O'.xL
      sub := O'.sub
      new := O'.new
      gb := hg ▸ O'.gb
      gk := hg ▸ O'.gk
      os := ho.trans O'.os
      fk := O'.fk
      w0 := fun a ha e => by
        by_cases q : a ∈ wr
        · obtain ⟨o, ho⟩ := hlive0 a q
          rw [ho] at e; cases e
        · cases z : s'.heap.get? a with
          | none => exact O'.w0 a ha z
          | some o => rw [hk _ _ q z] at e; cases e
      gl := O'.gl
      bl := O'.bl }
theorem Ok.dropAt {m : Mp} {I : Hp} {W : Ws} {C : Addr} {oC : Obj} (O : Ok G c ⟨m, I, (C, oC) :: W⟩ s) (h0 : C ∉ c.W0) {s' : Shared} (hs : Heap.SameBut C s.heap s'.heap) (hg : s'.gens = s.gens) (ho : s'.os = s.os) : Ok G c ⟨m, I, W⟩ s' := by
  have hoff : Off c ⟨m, I, W⟩ C := ⟨O.wI _ (.head _), fun p hp e => (List.nodup_cons.mp O.nd).1 (List.mem_map.mpr ⟨p, hp, e⟩), O.xW _ (.head _), h0⟩
  have hfr : C ∉ c.L :: fas c.outer := fun h => by
    rcases List.mem_cons.mp h with e | h
    · exact O.LW _ (.head _) e
    · exact (O.fI C h).2 _ (.head _) rfl
  refine (O.drop (W1 := [(C, oC)])).loose (fun a o e f => ?_) hg ho
  have na : a ≠ C := by
    rintro rfl
    rcases f with f | f
    · exact f hoff
    · exact hfr f
  have := (hs.2 a na).trans e
  exact ⟨fun _ => this, o.slots, this⟩
theorem Ok.dropWi {m : Mp} {I : Hp} {W Wi : Ws} {wr : List Addr} (O : Ok G c ⟨m, I, Wi ++ W⟩ s) (hw : Wi.map Prod.fst = wr) (h0 : ∀ b ∈ wr, b ∉ c.W0) {s' : Shared} (hk : ∀ b o, b ∉ wr → s.heap.get? b = some o → s'.heap.get? b = some o) (hg : s'.gens = s.gens) (ho : s'.os = s.os) :
    Ok G c ⟨m, I, W⟩ s' := by
  have nd := O.nd
  simp only [List.map_append, List.nodup_append, hw] at nd
  have inW : ∀ b ∈ wr, ∃ p ∈ Wi, p.1 = b := fun b hb => by
    rw [← hw] at hb
    obtain ⟨p, hp, e⟩ := List.mem_map.mp hb
    exact ⟨p, hp, e⟩
  refine O.drop.loose (fun a o e f => ?_) hg ho
  have na : a ∉ wr := fun hm => by
    obtain ⟨p, hp, rfl⟩ := inW a hm
    have hp' := List.mem_append_left W hp
    rcases f with f | f
    · exact f ⟨O.wI _ hp', fun q hq e => nd.2.2 _ hm _ (List.mem_map.mpr ⟨q, hq, e⟩) rfl, O.xW _ hp', h0 _ hm⟩
    · rcases List.mem_cons.mp f with e | f
      · exact O.LW _ hp' e
      · exact (O.fI _ f).2 _ hp' rfl
  have := hk _ _ na e
  exact ⟨fun _ => this, o.slots, this⟩
theorem ns_objD {h : Heap} {C : Addr} {m : Mp} (x : h.Ns C m) : ∃ o, h.get? C = some o ∧ NsObj o m := ns_obj x
noncomputable abbrev tests (ifs : List PySem.Expr) (env : Env) : Sem Bool := forIn ifs true fun c r => if r = true then do let ok ← isTrue c env (eval c env); pure (ForInStep.yield ok) else pure (ForInStep.yield r)
theorem r_passOnF {α : Type} {what : String} {x : Ex} {fl : Value} {Q : α → Shared → Prop} (O : Ok G c st s) (T : Tr c st x fl s) (h : ∀ s', Ok G c st s' → Tr c st x (rawInt c.L) s' → E (.ref x.a) s') :
    wpAny (model G.prog G.w) A (PySem.passOn what (.ref x.a) c.env : Sem α) Q E s := by
  have T' := T
  obtain ⟨⟨oe, vs, oT, ts, h1, h2, h3, h4, h5, h6, h7, h8, h9⟩, o1, o2⟩ := T'
  unfold PySem.passOn
  refine wpAny_bind (wpAny_field h1 h4 h5.1 ?_)
  rw [if_neg (show ¬ (Value.ref x.tb == Value.none) = true from by simp)]
  refine wpAny_bind (r_setFlight (fo := some c.L) O T fun s' O' T' => ?_)
  exact wpAny_throw (h s' O' T')
inductive CE (G : Base) (c : Fm) (m : Mp) (C : Addr) (E₁ : Ex → St → Prop) (e : Value) (s' : Shared) : Prop
  | mk (x : Ex) (I1 : Hp) (W1 : Ws) (oC : Obj) (mC : Mp) (h1 : e = .ref x.a) (h2 : NsObj oC mC) (h3 : Ok G c ⟨m, I1, (C, oC) :: W1⟩ s') (h4 : InX c ⟨m, I1, (C, oC) :: W1⟩ x s') (h5 : ∀ tb, E₁ { x with tb := tb } ⟨m, I1, W1⟩) : CE G c m C E₁ e s'
theorem CE.out {m : Mp} {C : Addr} {scope : Scope} {E₁ : Ex → St → Prop} {e : Value} (hfr : A.frames = some (c.env :: c.outer)) (hC0 : C ∉ c.W0) (hE : ∀ e s', ESt G c E₁ e s' → E e s') {Q : VP} {R₀ : Shared → Prop} (h : CE G c m C E₁ e s) :
    notedBy (model G.prog G.w) A (compEnv scope C c.env) (fun e s' => (fun (r : Result) s' => match r with | .ok _ => R₀ s' | .error x => ∃ m, s'.heap.Ns C m ∧ ∀ h', Heap.SameBut C s'.heap h' → wpAny (model G.prog G.w) A (PySem.passOn "comprehension.variables-let-go" x (compEnv scope C c.env)) Q E { s' with heap := h' }) (.error e) s') e s := by
  obtain ⟨x, I1, W1, oC, mC, rfl, ns, O, X, hx⟩ := h
  show wpAny (model G.prog G.w) A (noteFrame (.ref x.a) c.env) _ _ _
  refine r_note O hfr X fun s2 tb O2 T2 => ?_
  refine ⟨mC, ns.ns (O2.wr _ (.head _)), fun h' hs' => ?_⟩
  have O3 := Ok.dropAt (s' := { s2 with heap := h' }) O2 hC0 hs' rfl rfl
  obtain ⟨⟨oe, vs, oT, ts, h1, h2, h3, h4, h5, h6, h7, h8, h9⟩, o1, o2⟩ := T2
  have n1 : x.a ≠ C := fun q => o1.2.1 (C, oC) (.head _) q.symm
  have n2 : tb ≠ C := fun q => o2.2.1 (C, oC) (.head _) q.symm
  have T3 : Tr c ⟨m, I1, W1⟩ { x with tb := tb } (rawInt c.L) { s2 with heap := h' } :=
    ⟨⟨oe, vs, oT, ts, (hs'.2 _ n1).trans h1, h2, h3, h4, h5, h6, (hs'.2 _ n2).trans h7, h8, h9⟩, ⟨o1.1, fun p hp => o1.2.1 p (.tail _ hp), o1.2.2⟩, ⟨o2.1, fun p hp => o2.2.1 p (.tail _ hp), o2.2.2⟩⟩
  show wpAny (model G.prog G.w) A (PySem.passOn "comprehension.variables-let-go" (.ref x.a) c.env) Q E _
  exact r_passOnF (x := { x with tb := tb }) O3 T3 fun s4 O4 T4 => hE _ _ ⟨{ x with tb := tb }, _, rfl, O4, .inr (.inr T4), fun tb' => hx tb'⟩
inductive CompI (G : Base) (c : Fm) (m : Mp) (I : Hp) (n : Nat) (wr : List Addr) (Sx : Nat → Heap → Prop) (J : Nat → Hp → Ws → List Value → Prop) (C D : Addr) (k : Nat) (s' : Shared) : Prop
  | mk (i : Nat) (I' : Hp) (W' Wi' : Ws) (ys : List Value) (kk : Nat) (mC : Mp) (oC : Obj) (h1 : k = n + 1 - i) (h2 : i ≤ n) (h3 : ys.length ≤ i) (h4 : Sx i s'.heap) (h5 : J i I' W' ys) (h6 : ∀ a o, I a = some o → I' a = some o) (h7 : Wi'.map Prod.fst = wr) (h8 : NsObj oC mC)
    (h9 : Ok G c ⟨m, I', (C, oC) :: (D, lst ys kk) :: (Wi' ++ W')⟩ s') : CompI G c m I n wr Sx J C D k s'
noncomputable abbrev CompQ (G : Base) (A : Around) (Q E : VP) (P₀ : Addr → Addr → Shared → Prop) (acc : Value) (cenv : Env) (L : Addr) : Result → Shared → Prop := fun r s' => match r with | .ok _ => ∃ D, acc = .ref D ∧ P₀ D L s' | .error x => ∃ m, s'.heap.Ns L m ∧ ∀ h', Heap.SameBut L s'.heap h' → wpAny (model G.prog G.w) A (PySem.passOn "comprehension.variables-let-go" x cenv) Q E { s' with heap := h' }
theorem comp_core {x : Str} {px : Pos} {elt iter : PySem.Expr} {ifs : List PySem.Expr} {scope : Scope} {pos : Pos} {it : Addr} {fp wr : List Addr} {n : Nat} {P : Nat → Value → Prop} {Sx : Nat → Heap → Prop} {Wi : Ws} {W0 : Ws} {m : Mp} {I : Hp} {Q : VP} {E₁ : Ex → St → Prop} {P₀ : Addr → Addr → Shared → Prop} (hfr : A.frames = some (c.env :: c.outer)) (hE : ∀ e s', ESt G c E₁ e s' → E e s')
    (J : Nat → Hp → Ws → List Value → Prop) (Wk : Walks G.prog G.w A it fp wr n P Sx) (hlive : ∀ i h, Sx i h → ∀ b ∈ wr, ∃ o, h.get? b = some o) (hn : n ≤ 1000000)
    (hcell : ∀ y ∈ scope.names, y.2 ≠ .cell) (hkind : scope.kind = .function) (hx : scope.names.lookup x = some .local)
    (O : Ok G c ⟨m, I, Wi ++ W0⟩ s) (hWi : Wi.map Prod.fst = wr) (hw0 : ∀ b ∈ wr, b ∉ c.W0) (hfp : ∀ b ∈ fp, b ∉ wr → ∃ o, I b = some o) (h0 : Sx 0 s.heap) (j0 : J 0 I W0 [])
    (turn : ∀ i v C oC D k I' W' Wi' ys s', i < n → P i v → J i I' W' ys → ys.length ≤ i → (∀ a o, I a = some o → I' a = some o) → Ok G c ⟨m, I', (C, oC) :: (D, lst ys k) :: (Wi' ++ W')⟩ s' → (∃ mC, NsObj oC mC ∧ mC x = some v) →
      wpAny (model G.prog G.w) A (tests ifs (compEnv scope C c.env)) (fun ok s3 =>
        if ok = true then wpAny (model G.prog G.w) A (eval elt (compEnv scope C c.env)) (fun y s4 => ∃ I'' W'', J (i + 1) I'' W'' (ys ++ [y]) ∧ (∀ a o, I' a = some o → I'' a = some o) ∧ Ok G c ⟨m, I'', (C, oC) :: (D, lst ys k) :: (Wi' ++ W'')⟩ s4) (CE G c m C E₁) s3
        else ∃ I'' W'', J (i + 1) I'' W'' ys ∧ (∀ a o, I' a = some o → I'' a = some o) ∧ Ok G c ⟨m, I'', (C, oC) :: (D, lst ys k) :: (Wi' ++ W'')⟩ s3) (fun _ _ => False) s')
    (done : ∀ D C oC mC I' W' ys k s', J n I' W' ys → ys.length ≤ n → (∀ a o, I a = some o → I' a = some o) → NsObj oC mC → C ∉ c.W0 → Ok G c ⟨m, I', (C, oC) :: (D, lst ys k) :: W'⟩ s' → P₀ D C s') :
    wpAny (model G.prog G.w) A (newList []) (fun acc s₃ => wpAny (model G.prog G.w) A (newFunctionEnv scope c.env.globals [] [] c.env.qual none .none (some c.env)) (fun cenv s₄ =>
      codeAny (model G.prog G.w) A (.compStart (.ListComp elt [⟨.Name x px, iter, ifs, 0⟩] scope pos) 0 (.ref it) acc { cenv with scope := scope })
        (CompQ G A Q E P₀ acc { cenv with scope := scope } cenv.locals) s₄) E s₃) E s := by
  have stay : ∀ (i : Nat) {Wi' : Ws} {h1 h2 : Heap}, Wi'.map Prod.fst = wr → (∀ p ∈ Wi', h1.get? p.1 = some p.2) → (∀ p ∈ Wi', h2.get? p.1 = some p.2) → (∀ a o, I a = some o → h1.get? a = some o) → (∀ a o, I a = some o → h2.get? a = some o) → Sx i h1 → Sx i h2 := by
    intro i Wi' h1 h2 hw a1 a2 b1 b2 hs
    refine Wk.frame _ _ _ hs fun b hb o e => ?_
    by_cases q : b ∈ wr
    · rw [← hw] at q
      obtain ⟨p, hp, rfl⟩ := List.mem_map.mp q
      rw [a1 p hp] at e; cases e; exact a2 p hp
    · obtain ⟨o', ho'⟩ := hfp b hb q
      rw [b1 _ _ ho'] at e; cases e; exact b2 _ _ ho'
  refine r_newList O (sz_small (by simp)) fun D s1 O1 => ?_
  have st1 : Sx 0 s1.heap := stay 0 hWi (fun p hp => O.wr p (List.mem_append_left _ hp)) (fun p hp => O1.wr p (.tail _ (List.mem_append_left _ hp))) O.im O1.im h0
  refine wpAny_newFunctionEnv hcell (by intro y hy; cases hy) (fun h₁ hns₁ hsb₁ => ?_) hkind
  generalize hC : s1.heap.objs.size = C at hns₁ hsb₁
  have nC : s1.heap.get? C = none := hC ▸ size_free s1.heap
  have hC0 : C ∉ c.W0 := fun h => O1.w0 _ h nC
  obtain ⟨oC, hoC, nsC⟩ := ns_objD hns₁
  have O2 := O1.own (s' := { s1 with heap := h₁, toks := s1.toks + ([] : List (Str × Value)).length }) (fun b o e => hsb₁.extBut b o (fun q => by rw [q, nC] at e; cases e) (Heap.get?_push_of_some _ e)) nC hoC rfl rfl
  have st2 : Sx 0 h₁ := stay 0 hWi (fun p hp => O1.wr p (.tail _ (List.mem_append_left _ hp))) (fun p hp => O2.wr p (.tail _ (.tail _ (List.mem_append_left _ hp)))) O1.im O2.im st1
  show codeAny (model G.prog G.w) A (.compStart (.ListComp elt [⟨.Name x px, iter, ifs, 0⟩] scope pos) 0 (.ref it) (.ref D) (compEnv scope C c.env))
        (CompQ G A Q E P₀ (.ref D) (compEnv scope C c.env) C) _
  have loop : ∀ s3 : Shared, s3 = { s1 with heap := h₁, toks := s1.toks + ([] : List (Str × Value)).length } → codeAny (model G.prog G.w) A (.compLoop (.ListComp elt [⟨.Name x px, iter, ifs, 0⟩] scope pos) 0 (.ref it) (.ref D) (compEnv scope C c.env))
        (CompQ G A Q E P₀ (.ref D) (compEnv scope C c.env) C) s3 := by
    rintro s3 rfl
    refine codeAny_compLoop_tests (CompI G c m I n wr Sx J C D) ?_ (n + 1) ⟨0, I, W0, Wi, [], 0, _, oC, rfl, Nat.zero_le _, Nat.le_refl _, st2, j0, fun _ _ e => e, hWi, nsC, O2⟩
    rintro k s' ⟨i, I', W', Wi', ys, kk, mC, oC, rfl, hi, hyl, hs, hj, hsub, hw, nsC, O'⟩
    have pm : ∀ {o1 o2 : Obj} {w1 w2 : Ws}, ((C, o1) :: (D, o2) :: (w1 ++ w2)).Perm (w1 ++ ((C, o1) :: (D, o2) :: w2)) := by
      intro o1 o2 w1 w2
      exact ((List.Perm.cons _ List.perm_middle.symm).trans List.perm_middle.symm)
    by_cases hlt : i < n
    · refine Wk.item i _ _ _ hlt hs fun v h₂ tk₂ hP hs₂ hk₂ => ?_
      obtain ⟨Wi'', hw'', O₂⟩ := Ok.iter (st' := ⟨m, I', (C, oC) :: (D, lst ys kk) :: W'⟩) (s'' := { s' with heap := h₂, toks := tk₂ }) (O'.perm pm.symm) hw (hlive _ _ hs₂) hk₂ rfl rfl
      have O₂ := O₂.perm pm
      refine wpAny_assign_Name (wpAny_storeName_local (by exact hx) (nsC.ns (O₂.wr _ (.head _))) (fun h₃ hn₃ hs₃ => ?_) (by show (scope.kind == .class || (scope.kind == .module && _)) = false; rw [hkind]; rfl))
      obtain ⟨oC3, hoC3, nsC3⟩ := ns_objD hn₃
      have O₃ := Ok.turned (W1 := []) (s' := { s' with heap := h₃, toks := tk₂ + 1 }) O₂ hs₃ hoC3 rfl rfl
      refine wpAny_mono (turn i v C oC3 D kk I' W' Wi'' ys _ hlt hP hj hyl hsub O₃ ⟨_, nsC3, by simp⟩) (fun ok s₄ h₄ => ?_) fun _ _ h => h.elim
      cases ok with
      | true =>
        rw [if_pos rfl] at h₄ ⊢
        refine wpAny_mono h₄ (fun y s₅ h₅ => ?_) fun e s' h => CE.out (scope := scope) (R₀ := fun _ => True) hfr hC0 hE h |> fun q => wpAny_mono q (fun _ _ q => q) fun _ _ q => q
        obtain ⟨I2, W2, hj2, hs2, O₅⟩ := h₅
        refine r_append (W1 := [(C, oC3)]) (W2 := Wi'' ++ W2) O₅ (sz_small (by lia)) fun s₆ n6 O₆ => ?_
        exact ⟨n + 1 - (i + 1), lt_dec (Nat.lt_succ_of_lt hlt), i + 1, I2, W2, Wi'', ys ++ [y], n6, _, oC3, rfl, hlt, by simp; lia, stay (i + 1) hw'' (fun p hp => O₂.wr p (.tail _ (.tail _ (List.mem_append_left _ hp)))) (fun p hp => O₆.wr p (.tail _ (.tail _ (List.mem_append_left _ hp))))
          (fun a o e => O₂.im _ _ (hsub _ _ e)) (fun a o e => O₆.im _ _ (hs2 _ _ (hsub _ _ e))) hs₂, hj2, fun a o e => hs2 _ _ (hsub _ _ e), hw'', nsC3, O₆⟩
      | false =>
        rw [if_neg (by simp)] at h₄ ⊢
        obtain ⟨I2, W2, hj2, hs2, O₅⟩ := h₄
        exact ⟨n + 1 - (i + 1), lt_dec (Nat.lt_succ_of_lt hlt), i + 1, I2, W2, Wi'', ys, kk, _, oC3, rfl, hlt, by lia, stay (i + 1) hw'' (fun p hp => O₂.wr p (.tail _ (.tail _ (List.mem_append_left _ hp)))) (fun p hp => O₅.wr p (.tail _ (.tail _ (List.mem_append_left _ hp))))
          (fun a o e => O₂.im _ _ (hsub _ _ e)) (fun a o e => O₅.im _ _ (hs2 _ _ (hsub _ _ e))) hs₂, hj2, fun a o e => hs2 _ _ (hsub _ _ e), hw'', nsC3, O₅⟩
    · obtain rfl : i = n := by lia
      refine Wk.done _ _ _ hs fun h₂ tk₂ hk₂ => ?_
      have O₂ := Ok.dropWi (s' := { s' with heap := h₂, toks := tk₂ }) (O'.perm pm.symm) hw hw0 hk₂ rfl rfl
      exact ⟨D, rfl, done D C oC mC I' W' ys kk _ hj hyl hsub nsC hC0 O₂⟩
  exact codeAny_compStart_list (loop _ rfl) (Wk.self 0 _ _ _ st2 (loop _ rfl))
theorem comp_for {x : Str} {px : Pos} {elt iter : PySem.Expr} {ifs : List PySem.Expr} {scope : Scope} {pos : Pos} {it : Addr} {fp wr : List Addr} {n : Nat} {P : Nat → Value → Prop} {Sx : Nat → Heap → Prop} {Wi : Ws} {W0 : Ws} {m : Mp} {I : Hp} {Q : VP} {E₁ : Ex → St → Prop} (hfr : A.frames = some (c.env :: c.outer)) (hE : ∀ e s', ESt G c E₁ e s' → E e s')
    (J : Nat → Hp → Ws → List Value → Prop) (Wk : Walks G.prog G.w A it fp wr n P Sx) (hlive : ∀ i h, Sx i h → ∀ b ∈ wr, ∃ o, h.get? b = some o) (hn : n ≤ 1000000)
    (hcell : ∀ y ∈ scope.names, y.2 ≠ .cell) (hkind : scope.kind = .function) (hx : scope.names.lookup x = some .local)
    (O : Ok G c ⟨m, I, Wi ++ W0⟩ s) (hWi : Wi.map Prod.fst = wr) (hw0 : ∀ b ∈ wr, b ∉ c.W0) (hfp : ∀ b ∈ fp, b ∉ wr → ∃ o, I b = some o) (h0 : Sx 0 s.heap) (j0 : J 0 I W0 [])
    (turn : ∀ i v C oC D k I' W' Wi' ys s', i < n → P i v → J i I' W' ys → ys.length ≤ i → (∀ a o, I a = some o → I' a = some o) → Ok G c ⟨m, I', (C, oC) :: (D, lst ys k) :: (Wi' ++ W')⟩ s' → (∃ mC, NsObj oC mC ∧ mC x = some v) →
      wpAny (model G.prog G.w) A (tests ifs (compEnv scope C c.env)) (fun ok s3 =>
        if ok = true then wpAny (model G.prog G.w) A (eval elt (compEnv scope C c.env)) (fun y s4 => ∃ I'' W'', J (i + 1) I'' W'' (ys ++ [y]) ∧ (∀ a o, I' a = some o → I'' a = some o) ∧ Ok G c ⟨m, I'', (C, oC) :: (D, lst ys k) :: (Wi' ++ W'')⟩ s4) (CE G c m C E₁) s3
        else ∃ I'' W'', J (i + 1) I'' W'' ys ∧ (∀ a o, I' a = some o → I'' a = some o) ∧ Ok G c ⟨m, I'', (C, oC) :: (D, lst ys k) :: (Wi' ++ W'')⟩ s3) (fun _ _ => False) s')
    (done : ∀ D I' W' ys k s', J n I' W' ys → ys.length ≤ n → (∀ a o, I a = some o → I' a = some o) → Ok G c ⟨m, I', (D, lst ys k) :: W'⟩ s' → Q (.ref D) s') :
    wpAny (model G.prog G.w) A (newList []) (fun acc s₃ => wpAny (model G.prog G.w) A (newFunctionEnv scope c.env.globals [] [] c.env.qual none .none (some c.env)) (fun cenv s₄ =>
      codeAny (model G.prog G.w) A (.compStart (.ListComp elt [⟨.Name x px, iter, ifs, 0⟩] scope pos) 0 (.ref it) acc { cenv with scope := scope })
        (fun r s' => ∃ m, s'.heap.Ns cenv.locals m ∧ ∀ h', Heap.SameBut cenv.locals s'.heap h' → match r with | .ok _ => Q acc { s' with heap := h' } | .error x => wpAny (model G.prog G.w) A (PySem.passOn "comprehension.variables-let-go" x { cenv with scope := scope }) Q E { s' with heap := h' }) s₄) E s₃) E s := by
  refine wpAny_mono (comp_core (Q := Q) (P₀ := fun D C s' => ∃ m, s'.heap.Ns C m ∧ ∀ h', Heap.SameBut C s'.heap h' → Q (.ref D) { s' with heap := h' }) (iter := iter) (px := px) (pos := pos) hfr hE J Wk hlive hn hcell hkind hx O hWi hw0 hfp h0 j0 turn
    (fun D C oC mC I' W' ys k s' hj hyl hsub nsC hC0 O₂ => ⟨mC, nsC.ns (O₂.wr _ (.head _)), fun h' hs' => done D I' W' ys k _ hj hyl hsub (Ok.dropAt (s' := { s' with heap := h' }) O₂ hC0 hs' rfl rfl)⟩)) (fun acc s h => wpAny_mono h (fun cenv s h => codeAny_mono h fun r s' h => ?_) fun _ _ h => h) fun _ _ h => h
  cases r with
  | ok f => obtain ⟨D, rfl, m, h1, h2⟩ := h; exact ⟨m, h1, h2⟩
  | error x => exact h
end
section

end
section
open PySem.Builtin
open PyProof.Rows.LCg (NsObj ns_obj)
open PySem.SeqAt (EqAt RcAt RcNeAt)
variable {G : Base} {c : Fm} {st : St} {s : Shared} {A : Around} {E : VP}
/-! names within a comprehension -/
theorem r_cname {scope : Scope} {C : Addr} {oC : Obj} {mC : Mp} {x : Str} {v : Value} {pos : Pos} {Q : VP} (he : s.heap.get? C = some oC) (ns : NsObj oC mC) (hkind : scope.kind = .function) (hk : scope.names.lookup x = some .local) (hv : mC x = some v) (h : Q v s)
    (hd : (x == ("__debug__" : Str)) = false := by decide +kernel) : wpAny (model G.prog G.w) A (eval (.Name x pos) (compEnv scope C c.env)) Q E s :=
  wpAny_Name (wpAny_loadName_local hkind hk (ns.ns he) hv h) hd
theorem r_cglob {scope : Scope} {C : Addr} {x : Str} {v : Value} {pos : Pos} {Q : VP} (O : Ok G c st s) (hkind : scope.kind = .function) (hx : scope.names.lookup x = some .globalImplicit) (e : nsIn G.K mainGlobals x = some (some v)) (h : Q v s)
    (hd : (x == ("__debug__" : Str)) = false := by decide +kernel) : wpAny (model G.prog G.w) A (eval (.Name x pos) (compEnv scope C c.env)) Q E s :=
  Name_function_global hkind hx (loadGlobal_global (env := compEnv scope C c.env) (mg := G.mg) (by show s.heap.Ns c.fd.globals G.mg; rw [O.gl]; exact G.T.g.keeps O.keepB) (mg_ofK e) h) hd
theorem tests_nil {env : Env} {Q : Bool → Shared → Prop} (h : Q true s) : wpAny (model G.prog G.w) A (tests [] env) Q E s := wpAny_tests_nil h
theorem tests_one {env : Env} {e : PySem.Expr} {Q : Bool → Shared → Prop} (h : wpAny (model G.prog G.w) A (isTrue e env (eval e env)) Q E s) : wpAny (model G.prog G.w) A (tests [e] env) Q E s := wpAny_tests_one h
theorem r_compS {x y : Str} {px py : Pos} {elt : PySem.Expr} {ifs : List PySem.Expr} {scope : Scope} {pos : Pos} {l : Addr} {kd : Bool} {vs : List Value} {nn : Nat} {W0 : Ws} {m : Mp} {I : Hp} {Q : VP} {hd : Option Value} {E₁ : Ex → St → Prop}
    (hfr : A.frames = some (c.env :: c.outer)) (hE : ∀ e s', ESt G c E₁ e s' → E e s')
    (J : Nat → Hp → Ws → List Value → Prop) (hh : A.handled = hd) (H : HdH hd I) (hy : c.env.kindOf y = some .local) (hm : m y = some (.ref l)) (hl : I l = some (sqO kd vs nn)) (hn : vs.length ≤ 1000000)
    (hcell : (scope.names.all fun y => decide (y.2 ≠ .cell)) = true) (hfree : (scope.names.all fun y => decide (y.2 ≠ .free)) = true) (hkind : scope.kind = .function) (hnames : (scope.names.all fun y => decide (y.2 = .local → scope.names.lookup y.1 = some .local)) = true) (hx : scope.names.lookup x = some .local)
    (O : Ok G c ⟨m, I, W0⟩ s) (j0 : J 0 I W0 [])
    (turn : ∀ i v C oC D k I' W' Wi' ys s', vs[i]? = some v → J i I' W' ys → ys.length ≤ i → (∀ a o, I a = some o → I' a = some o) → Ok G c ⟨m, I', (C, oC) :: (D, lst ys k) :: (Wi' ++ W')⟩ s' → (∃ mC, NsObj oC mC ∧ mC x = some v) →
      wpAny (model G.prog G.w) A (tests ifs (compEnv scope C c.env)) (fun ok s3 =>
        if ok = true then wpAny (model G.prog G.w) A (eval elt (compEnv scope C c.env)) (fun y s4 => ∃ I'' W'', J (i + 1) I'' W'' (ys ++ [y]) ∧ (∀ a o, I' a = some o → I'' a = some o) ∧ Ok G c ⟨m, I'', (C, oC) :: (D, lst ys k) :: (Wi' ++ W'')⟩ s4) (CE G c m C E₁) s3
        else ∃ I'' W'', J (i + 1) I'' W'' ys ∧ (∀ a o, I' a = some o → I'' a = some o) ∧ Ok G c ⟨m, I'', (C, oC) :: (D, lst ys k) :: (Wi' ++ W'')⟩ s3) (fun _ _ => False) s')
    (done : ∀ D I' W' ys k s', J vs.length I' W' ys → ys.length ≤ vs.length → (∀ a o, I a = some o → I' a = some o) → Ok G c ⟨m, I', (D, lst ys k) :: W'⟩ s' → Q (.ref D) s')
    (hs : ∀ x, foldedSetIterable (.Name y py) c.env x = pure x := by intro _; rfl) (hd' : (y == ("__debug__" : Str)) = false := by decide +kernel) :
    wpAny (model G.prog G.w) A (eval (.ListComp elt [⟨.Name x px, .Name y py, ifs, 0⟩] scope pos) c.env) Q E s := by
  refine wpAny_ListComp (fun x hx => of_decide_eq_true (List.all_eq_true.mp hfree x hx)) hkind (fun x hx => of_decide_eq_true (List.all_eq_true.mp hnames x hx)) (r_name O hy hm ?_ hd') hs
  have e := O.im l _ hl
  refine pyIter_sq e ?_
  have hf := size_free s.heap
  have O₂ := O.own (s' := { s with heap := s.heap.push (itO kd l 0) }) (fun _ _ e => Heap.get?_push_of_some _ e) hf (Heap.get?_push_size _ rfl) rfl rfl
  have hne : l ≠ s.heap.objs.size := fun q => by rw [q, hf] at e; cases e
  refine comp_for (Wi := [_]) (wr := [_]) (W0 := W0) hfr hE J (walks_sq hh _ l hne kd vs nn) (fun i h e b hb => ?_) hn (fun x hx => of_decide_eq_true (List.all_eq_true.mp hcell x hx)) hkind hx O₂ rfl (fun b hb => ?_) (fun b hb h => ?_) ?_ j0
    (fun i v C oC D k I' W' Wi' ys s' hi hP => turn i v C oC D k I' W' Wi' ys s' hP) done
  · rw [List.mem_singleton.mp hb]; obtain ⟨o, ho, _⟩ := e.1; exact ⟨o, ho⟩
  · rw [List.mem_singleton.mp hb]; exact (off_fresh O hf).2.2.2
  · exact sq_fp H hl hb h
  · exact ⟨⟨_, Heap.get?_push_size _ rfl, rfl, rfl⟩, Heap.get?_push_of_some _ e, H.mono fun a o e => O₂.im _ _ e⟩
/-! equality of items -/
theorem eqAt_bytes (x : List UInt8) (t u : Tok) : EqAt A s (.bytes x.toArray t) (.bytes x.toArray u) true := fun prog w E Q h => by
  unfold eqBool
  refine wpAny_holding ?_
  refine wpAny_ite_split (fun hab => wpAny_bind (wpAny_rule (wpAny_pure h))) (fun _ => ?_)
  refine wpAny_bind (richCompare_gives (typeIs_bytes s x.toArray t) (typeIs_bytes s x.toArray u) FB.slot_bytes_eq FB.entry_bytes_eq (FB.args_bytes_eq_2 _ _) (gives_bytes_eq x.toArray x.toArray t u) (fun x => nomatch x) ?_)
  exact wpAny_truthy_bool (by simpa using h)
theorem all_tt (l : List Nat) : (l.all fun _ => true) = true := by induction l with
  | nil => rfl
  | cons a l ih => rw [List.all_cons, ih]; rfl
theorem dpL_memR : ∀ {ts : List It} {t : It}, t ∈ ts → t.dp ≤ It.dpL ts
  | _ :: _, _, .head _ => by rw [It.dpL]; lia
  | _ :: _, _, .tail _ h => by rw [It.dpL]; have := dpL_memR h; lia
theorem eqAt_rep {I : Hp} (hI : ∀ a o, I a = some o → s.heap.get? a = some o) : ∀ (n : Nat) {A : Around} {v w : Value} {t : It}, t.dp < n → A.units + t.dp < cLine → Rep I v t → Rep I w t → EqAt A s v w true
  | 0, _, _, _, _, h, _, _, _ => absurd h (by lia)
  | n + 1, A, v, w, t, hn, hu, r1, r2 => by
    cases r1 with
    | s b t => cases r2 with | s _ u => exact eqAt_bytes b t u
    | @l a vs nn ts e1 r1 =>
      cases r2 with
      | @l b ws n2 _ e2 r2 =>
        by_cases hab : a = b
        · subst hab
          exact PySem.SeqAt.EqAt.same _
        · refine PySem.SeqAt.EqAt.of_refs hab ?_
          have l1 := r1.length
          have l2 := r2.length
          rw [It.dp] at hn hu
          have := PySem.SeqAt.RcAt.lists (A := A) (s := s) (e := fun _ => true) (isL (hI _ _ e1)) (isL (hI _ _ e2)) (by simp [l1, l2]) (by lia) fun j h1 h2 => by
            have g1 : vs[j]? = some vs.toArray[j] := by simp at h1; simp [h1]
            have g2 : ws[j]? = some ws.toArray[j] := by simp at h2; simp [h2]
            obtain ⟨t1, ht1, q1⟩ := r1.get g1
            obtain ⟨t2, ht2, q2⟩ := r2.get g2
            rw [ht1] at ht2; cases ht2
            have := dpL_memR (List.mem_of_getElem? ht1)
            exact eqAt_rep hI n (by lia) (by show A.units + 1 + _ < _; lia) q1 q2
          rw [all_tt] at this; exact this
theorem r_neRep {I : Hp} (hI : ∀ a o, I a = some o → s.heap.get? a = some o) {v w : Value} {t : It} {Q : VP} (hu : A.units + t.dp < cLine) (r1 : Rep I v t) (r2 : Rep I w t) (h : Q (.bool false) s) :
    wpAny (model G.prog G.w) A (compareOp .NotEq v w) Q E s := by
  cases r1 with
  | s b t => cases r2 with | s _ u => exact r_neB (by simpa using h)
  | @l a vs nn ts e1 r1 =>
    cases r2 with
    | @l b ws n2 _ e2 r2 =>
      have l1 := r1.length
      have l2 := r2.length
      rw [It.dp] at hu
      have := PySem.SeqAt.RcNeAt.lists (A := A) (s := s) (e := fun _ => true) (isL (hI _ _ e1)) (isL (hI _ _ e2)) (by simp [l1, l2]) (by lia) fun j h1 h2 => by
        have g1 : vs[j]? = some vs.toArray[j] := by simp at h1; simp [h1]
        have g2 : ws[j]? = some ws.toArray[j] := by simp at h2; simp [h2]
        obtain ⟨t1, ht1, q1⟩ := r1.get g1
        obtain ⟨t2, ht2, q2⟩ := r2.get g2
        rw [ht1] at ht2; cases ht2
        have := dpL_memR (List.mem_of_getElem? ht1)
        exact eqAt_rep hI (t1.dp + 1) (by lia) (by show A.units + 1 + _ < _; lia) q1 q2
      have := this G.prog G.w E Q (by rw [all_tt]; exact h)
      exact this
theorem szL_memR : ∀ {ts : List It} {t : It}, t ∈ ts → t.sz ≤ It.szL ts
  | _ :: _, _, .head _ => by rw [It.szL]; lia
  | _ :: _, _, .tail _ h => by rw [It.szL]; have := szL_memR h; lia
end
section
open PySem.Builtin
section
variable {prog : Program} {w : World} {A : Around} {E : VP} {C : Addr} {h : Heap} {g : Array GenState} {d : Drawn} {t : Nat} {os : OsState}
theorem make_own {rest : List Value} {fI : Addr} {Q : VP} (Y : Makes (model prog w) h C) (hi : Looks (model prog w) h (typeLookup (.ref C) "__init__") (some (.ref fI)))
    (hb : ∀ self, Looks (model prog w) h (bindSpecial (.ref fI) self) (.ref fI, [self]))
    (hq : wpAny (model prog w) (A.under (.builtin "type.__call__" ⟨.ref C :: rest, []⟩)) (call (.ref fI) (.ref (h.objs.size + 1) :: rest)) (fun v s' => v = .none ∧ Q (.ref (h.objs.size + 1)) s') E ⟨(h.push emptyDict).push (instObj C h.objs.size), g, d, t, os⟩) :
    wpAny (model prog w) A (call (.ref C) rest) Q E ⟨h, g, d, t, os⟩ := by
  have Y' := Y
  obtain ⟨⟨oc, od, cd, sl, hC, e1, e2, e4⟩, made, base, self, top, call, typ⟩ := Y
  refine wpAny_call (codeAny_of_tree ?_)
  show wpAny _ _ (callAny (.ref C) _) _ _ _
  refine nd_load hC ?_
  show wpAny _ _ (callAny.viaDunder (.ref C) _) _ _ _
  unfold callAny.viaDunder
  refine wpAny_bind (call.at ?_)
  dsimp only
  rw [tc_bind]
  refine wpAny_bind (wpAny_pure (wpAny_bind (wpAny_pure ?_)))
  refine wpAny_pure (a := Fin.again (.call (.builtin "type.__call__") ⟨.ref C :: rest, []⟩)) (And.intro rfl ?_)
  refine codeAny_call_builtin_at (Code.quiet_builtin _ (by decide +kernel)) entry_typeCall (check_slot tc_kind tc_split typ (tc_args _ _ _) ?_)
  unfold Builtin.«type.__call__»
  have hm : Looks (model prog w) h (mroOf (.ref C)) cd.mro := ((Looks.ld (part := none) hC).andThen .now).andThen .now
  repeat (first | (rw [e4, if_neg Bool.false_ne_true]) | (refine KFB.if_not e4 ?_) | with_reducible refine wpAny_call ?_ | lk)
  refine new_K Y' hi (.inl rfl) ?_
  have k : ∀ b o, h.get? b = some o → ((h.push emptyDict).push (instObj C h.objs.size)).get? b = some o := fun b o e => Heap.get?_push_of_some _ (Heap.get?_push_of_some _ e)
  have hx : ((h.push emptyDict).push (instObj C h.objs.size)).get? (h.objs.size + 1) = some (instObj C h.objs.size) := by heap_get
  have t1 : Looks (model prog w) ((h.push emptyDict).push (instObj C h.objs.size)) (typeOf (.ref (h.objs.size + 1))) (.ref C) := (Looks.ld hx).andThen .now
  have s1 := self.keeps k
  have i1 := hi.keeps k
  have b1 := (hb (.ref (h.objs.size + 1))).keeps k
  unfold isInstance callSpecial? specialOf
  have hq' : wpAny (model prog w) (A.under (.builtin "type.__call__" ⟨.ref C :: rest, []⟩)) (PySem.call (.ref fI) ([.ref (h.objs.size + 1)] ++ rest)) (fun v s' => v = .none ∧ Q (.ref (h.objs.size + 1)) s') E ⟨(h.push emptyDict).push (instObj C h.objs.size), g, d, t, os⟩ := hq
  repeat (first | (with_reducible refine wpAny_mono hq' (fun v s' z => ?_) fun _ _ z => z) | lk)
  obtain ⟨rfl, z⟩ := z
  rw [if_neg (by simp)]
  exact wpAny_pure z
end
section
open Builtin.ObjectAttr
variable {prog : Program} {w : World} {A : Around} {E : VP} {s : Shared} {K : Frag} {C x : Addr}
theorem set_old {ox : Obj} {name : PySem.Str} {v : Value} {Q : Unit → Shared → Prop} {cd : ClassData} {dx : Addr} {es : List DictEntry} {n : Nat} (X : K.In s.heap) (hx : s.heap.get? x = some ox) (hcl : ox.cls = .ref C) (hno : notCls ox = true) (hdx : ox.dict = some dx) (hd : s.heap.get? dx = some (dicObj es n)) (hs : findIn K (.ref C) "__setattr__" = some (some (.builtin "object.__setattr__")))
    (hc : clsIn K C = some cd) (hp : Refuses cd.mro) (ho : mroIn K C (.type "object") = some true) (ht : takerIn K C name = some none) (hh : cd.hasDict = true) (hz : es.length ≤ 1000)
    (hnew : ∀ hs tk, Obj.putName name hs (.str name tk) v (dicObj es n) = dicObj (es ++ [⟨hs, .str name tk, v⟩]) (n + 1)) (hr : aRefKeyMayBeTheName name es.toArray = false)
    (h : ∀ tk tk', Q () { s with heap := s.heap.update dx (Obj.putName name (PyData.keyHash w.params name) (.str name tk) v), toks := tk' }) :
    wpAny (model prog w) A (setAttr (.ref x) name v) Q E s := by
  refine set_open (od := some (dicObj es n)) X ⟨hx, hcl, hno, by rw [hdx]; exact hd⟩ hs hc hp ho ht fun b => ?_
  obtain ⟨hh0, g, d, t, os⟩ := s
  obtain ⟨oc, odd, oda, osl⟩ := ox
  dsimp only at hcl hdx hx X h hd ⊢
  subst hcl hdx
  refine wpAny_bind (wpAny_pure (wpAny_bind (wpAny_bind (wpAny_loadPart hx (wpAny_bind (Looks.at (looks_clsIn X hc) ?_))))))
  rw [hh]
  refine wpAny_pure (a := some dx) (wpAny_bind (wpAny_pure (wpAny_bind ?_)))
  unfold nsSet
  refine wpAny_bind (wpAny_bind (wpAny_askSetting (wpAny_pure (wpAny_bind (wpAny_mkText (wpAny_bind (wpAny_loadPart hd ?_)))))))
  dsimp only
  rw [hr]
  have e4 := fun hs tk => (Heap.get?_update_self (h := hh0) (Obj.putName name hs (.str name tk) v) hd (by rw [hnew]; rfl)).trans (by rw [hnew])
  refine wpAny_updatePart hd ?_
  refine wpAny_bind (wpAny_lookBehind (e4 _ _) (pastItsLine_dict (by rw [List.size_toArray, sizeLine_eq]; simp; lia)) ?_)
  exact wpAny_pure (h _ _)
end
variable {G : Base} {c : Fm} {st : St} {s : Shared} {A : Around} {E : VP}
structure ICls (G : Base) (C fI : Addr) : Prop where
  makes : makesIn G.K C = true
  init : findIn G.K (.ref C) "__init__" = some (some (.ref fI))
  fn : typeIn G.K (.ref fI) = some (.type "function")
theorem r_newI {C fI : Addr} {rest : List Value} {m : Mp} {I : Hp} {W : Ws} {hd : Option Value} {d u : Nat} {Q : VP} (O : Ok G c ⟨m, I, W⟩ s) (B : Bud A hd (c.env :: c.outer) (d + 1) (u + 1)) (Xc : ICls G C fI)
    (hq : ∀ x dx, Cl G (.ref fI) (.ref x :: rest) hd d u I [(x, instObj C dx), (dx, dicObj [] 0)]
      (fun v I' W' => v = .none ∧ ∀ s', Ok G c ⟨m, I', W' ++ W⟩ s' → (∀ a o, I a = some o → I' a = some o) → Q (.ref x) s') (fun _ _ _ => False)) :
    wpAny (model G.prog G.w) A (call (.ref C) rest) Q E s := by
  have X := O.In
  obtain ⟨h, g, dr, t, os⟩ := s
  refine make_own (makes_of X Xc.makes) (looks_findIn X Xc.init) (fun self => bind_fn X self Xc.fn) ?_
  have n0 := size_free h
  have n1 : h.get? (h.objs.size + 1) = none := Heap.get?_none_of_le (Nat.le_succ _)
  have O' := O.cons2 (s' := ⟨(h.push emptyDict).push (instObj C h.objs.size), g, dr, t, os⟩) (a := h.objs.size) (b := h.objs.size + 1) (oa := dicObj [] 0) (ob := instObj C h.objs.size)
    (fun _ _ e => Heap.get?_push_of_some _ (Heap.get?_push_of_some _ e)) n0 n1 (Nat.ne_of_lt (Nat.lt_succ_self _)) (Heap.get?_push_of_some _ (Heap.get?_push_size _ rfl)) (by have := Heap.get?_push_size (h.push emptyDict) (o := instObj C h.objs.size) rfl; rwa [Heap.size_push] at this) rfl rfl
  refine r_call (Wc := [(h.objs.size + 1, instObj C h.objs.size), (h.objs.size, dicObj [] 0)]) (Wr := W) (E' := fun _ _ _ => False) O' (B.under C rest) ?_ fun _ _ _ _ _ _ _ _ h => h.elim
  intro A' fr s B' P
  refine wpAny_mono (hq _ _ A' fr s B' P) (fun v s' h => ?_) fun _ _ h => h
  obtain ⟨I', W', R, rfl, h⟩ := h
  exact ⟨I', W', R, fun s' O' sub => ⟨rfl, h s' O' sub⟩⟩
theorem r_getA {x C : Addr} {ox : Obj} {od : Option Obj} {name : PySem.Str} {v : Value} {ex : Bool} {Q : VP} (O : Ok G c st s) (I : InstAt s.heap x ox C od) (hga : findIn G.K (.ref C) "__getattribute__" = some (some (.builtin "object.__getattribute__")))
    (hf : findObj G.K C od name = some (.value v)) (hh : handedIn v = true) (h : ∀ s', Ok G c st s' → Q v s') : wpAny (model G.prog G.w) A (getAttr (.ref x) name ex) Q E s :=
  get_value O.In I hga hf hh (h _ O.toks)
end
section
open PySem.Builtin
variable {G : Base} {c : Fm} {st : St} {s : Shared} {A : Around} {E : VP}
theorem enterB {q : Addr} {x : Value} {rest : List Value} {a : Addr} {o : Obj} {fd : FuncData} {body : List Stmt} {binds : List (Str × Value)} {hd : Option Value} {d u : Nat} {I : Hp} {W0 : Ws} {Q : Value → Hp → Ws → Prop} {E : Ex → Hp → Ws → Prop}
    (hI : (∀ a o, G.B0.get? a = some o → I a = some o) → I a = some o) (ho : o.data = .func fd) (hb : fd.body = .stmts body)
    (hcd : G.B0.CodeRec fd.code fd.qualname) (hbind : ∀ s : Shared, (∀ a o, G.B0.get? a = some o → s.heap.get? a = some o) → BindsTo s fd ⟨x :: rest, []⟩ binds)
    (hcell : ∀ x ∈ fd.scope.names, x.2 ≠ .cell) (hloc : ∀ x ∈ binds, fd.scope.names.lookup x.1 = some .local)
    (hco : fd.scope.isCoroutine = false) (hgen : fd.scope.isGenerator = false) (hk : fd.scope.kind = .function) (hgl : fd.globals = mainGlobals) (hbl : fd.builtins = builtinsNs)
    (h : ∀ (c : Fm) (A : Around) (s₁ : Shared), c.fd = fd → c.fa = a → Ok G c ⟨fun x => binds.reverse.lookup x, I, (q, methodObj (.ref a) x) :: W0⟩ s₁ → Bud A hd (c.env :: c.outer) d u →
      wpAny (model G.prog G.w) A (execs body c.env) (EndQ G c Q) (EndX G c E) s₁) :
    Cl G (.ref q) rest hd (d + 1) (u + 3) I ((q, methodObj (.ref a) x) :: W0) Q E := by
  generalize hW : (q, methodObj (.ref a) x) :: W0 = W at h
  intro A fr s B P
  have kB : ∀ a o, G.B0.get? a = some o → s.heap.get? a = some o := fun a o e => P.im _ _ (P.b _ _ e)
  have hq0 : s.heap.get? q = some (methodObj (.ref a) x) := P.wr (q, methodObj (.ref a) x) (by rw [← hW]; exact .head _)
  refine wpAny_call (ks_codeAny_call_bound hq0 (codeAny_call_def (by have := B.d; lia) (P.im _ _ (hI P.b)) ho (G.T.nolimit.keeps kB) (hcd.keeps kB) hb (hbind s kB) hcell hloc (fun h₀ hns hk₀ => ?_) hco hgen hk))
  refine wpAny_mono (h (fmOf fd a fr s I W) _ _ rfl rfl (enter_ok P hns hk₀ hk hgl hbl) (enter_bud B)) (fun fl s' he => ?_) fun e s' he => enter_x B he
  obtain ⟨m', I', W', O', hq⟩ := he
  refine ⟨I', W', enter_ret O', ?_⟩
  cases fl <;> exact hq
theorem r_cmGet {C p : Addr} {f : Value} {rest : List Value} {name : PySem.Str} {mc : Value} {pl : Sem Bool} {Q : Value × List Value → Shared → Prop} {m : Mp} {I : Hp} {W : Ws} (O : Ok G c ⟨m, I, W⟩ s)
    (hg : specialIn G.K (.ref C) "__getattribute__" = some (some (.builtin "type.__getattribute__"))) (hr : readsIn G.K C mc = true) (e : findCls G.K (.ref C) mc name = some (.get (.builtin "classmethod.__get__") (.ref p) .none (.ref C))) (hp : recIn G.K p "classmethod" = some (f :: rest))
    (h : ∀ q s', Ok G c ⟨m, I, (q, methodObj f (.ref C)) :: W⟩ s' → Q (.ref q, []) s') : wpAny (model G.prog G.w) A (getMethod (.ref C) name pl) Q E s := by
  refine method_cls O.In hg (cls_bind O.In hr e (wpAny_call (cm_get (s := { s with toks := s.toks + 1 }) O.In hp (handed_on rfl (h s.heap.objs.size _ ?_)))))
  exact O.own (s' := { s with heap := s.heap.push (methodObj f (.ref C)), toks := s.toks + 1 }) (fun _ _ e => Heap.get?_push_of_some _ e) (size_free _) (Heap.get?_push_size _ rfl) rfl rfl
theorem enterBK {q : Addr} {x : Value} {rest : List Value} {a : Addr} {name qual : Str} {params : Arguments} {body : List Stmt} {scope : Scope} {dV kV doc pm cdv ct oc : Value} {an od : Option Addr} {osl : Array (Option Value)}
    {binds : List (Str × Value)} {hd : Option Value} {d u : Nat} {I : Hp} {W : Ws} {Q : Value → Hp → Ws → Prop} {E : Ex → Hp → Ws → Prop}
    (hlk : G.K.lookup a = some ⟨oc, od, .func (fnOf name qual params body scope dV kV doc pm an cdv ct), osl⟩) (hcd : codeIn G.K cdv qual = true)
    (hbind : bindArgs (fnOf name qual params body scope dV kV doc pm an cdv ct) ⟨x :: rest, []⟩ = pure binds)
    (hcell : (scope.names.all fun x => decide (x.2 ≠ .cell)) = true) (hloc : (binds.all fun x => decide (scope.names.lookup x.1 = some .local)) = true)
    (hco : scope.isCoroutine = false) (hgen : scope.isGenerator = false) (hk : scope.kind = .function)
    (h : ∀ (c : Fm) (A : Around) (s₁ : Shared), c.fd.scope = scope → Ok G c ⟨ov binds.reverse fun _ => none, I, (q, methodObj (.ref a) x) :: W⟩ s₁ → Bud A hd (c.env :: c.outer) d u →
      wpAny (model G.prog G.w) A (execs body c.env) (EndQ G c Q) (EndX G c E) s₁) :
    Cl G (.ref q) rest hd (d + 1) (u + 3) I ((q, methodObj (.ref a) x) :: W) Q E :=
  enterB (fun b => b _ _ (G.X _ _ hlk)) rfl rfl (codeRec_of G.X hcd) (fun _ _ => BindsTo.of_eq hbind) (fun x hx => of_decide_eq_true (List.all_eq_true.mp hcell x hx)) (locs hloc) hco hgen hk rfl rfl
    fun c A s₁ h1 _ O B => h c A s₁ (by rw [h1]) (by
      have e : (ov binds.reverse fun _ => none) = fun x => binds.reverse.lookup x := by
        funext y; unfold ov; cases binds.reverse.lookup y <;> rfl
      rw [e]; exact O) B
theorem r_defB {q g : Addr} {self : Value} {pos : Pos} {e : PySem.Expr} {rest : List PySem.Expr} {Q : VP} {env : Env} (hf : fnIn G.K g = true)
    (h : wpAny (model G.prog G.w) A (spliced (backTo pos (starEach (e :: rest) env))) (fun vs s₁ => MethP G.K q g self s₁.heap ∧ wpAny (model G.prog G.w) A (call (.ref q) ([] ++ vs)) Q E s₁) E s)
    (he : starEach (e :: rest) env = (false, eval e env) :: starEach rest env := by rfl) (hplain : (backTo pos (starEach rest env)).any (·.1) = false := by rfl) :
    wpAny (model G.prog G.w) A (callWith pos (.ref q) [] (backTo pos (starEach (e :: rest) env)) []) Q E s := by
  rw [he] at h ⊢
  exact callWith_of (by show ((false || (backTo pos (starEach rest env)).any (·.1)) || false) = false; rw [hplain]; rfl) (keeps_M hf) (evalArgs_plain h)
theorem r_defI {a : Addr} {x : Value} {pos : Pos} {e : PySem.Expr} {rest : List PySem.Expr} {Q : VP} {env : Env} (hk : keepIn G.K (.ref a) = true)
    (h : wpAny (model G.prog G.w) A (spliced (backTo pos (starEach (e :: rest) env))) (DQ G A (.ref a) [x] Q E) E s)
    (he : starEach (e :: rest) env = (false, eval e env) :: starEach rest env := by rfl) (hplain : (backTo pos (starEach rest env)).any (·.1) = false := by rfl) :
    wpAny (model G.prog G.w) A (callWith pos (.ref a) [x] (backTo pos (starEach (e :: rest) env)) []) Q E s := by
  rw [he] at h ⊢
  exact callWith_of (by show ((false || (backTo pos (starEach rest env)).any (·.1)) || false) = false; rw [hplain]; rfl) (keeps_K hk) (evalArgs_plain h)
theorem r_setI {x dx C : Addr} {name : PySem.Str} {v : Value} {es : List DictEntry} {n : Nat} {m : Mp} {I : Hp} {W1 W2 : Ws} {Q : Unit → Shared → Prop} {cd : ClassData} (O : Ok G c ⟨m, I, W1 ++ (dx, dicObj es n) :: W2⟩ s) (hx : s.heap.get? x = some (instObj C dx))
    (hs : findIn G.K (.ref C) "__setattr__" = some (some (.builtin "object.__setattr__"))) (hc : clsIn G.K C = some cd) (hp : Refuses cd.mro) (ho : mroIn G.K C (.type "object") = some true) (ht : takerIn G.K C name = some none) (hh : cd.hasDict = true) (hz : es.length ≤ 1000)
    (hnew : ∀ hs tk, Obj.putName name hs (.str name tk) v (dicObj es n) = dicObj (es ++ [⟨hs, .str name tk, v⟩]) (n + 1)) (hr : aRefKeyMayBeTheName name es.toArray = false)
    (h : ∀ tk s', Ok G c ⟨m, I, W1 ++ (dx, dicObj (es ++ [⟨PyData.keyHash G.w.params name, .str name tk, v⟩]) (n + 1)) :: W2⟩ s' → Q () s') : wpAny (model G.prog G.w) A (setAttr (.ref x) name v) Q E s := by
  have hd : s.heap.get? dx = some (dicObj es n) := O.wr (dx, dicObj es n) (by simp)
  refine set_old O.In hx rfl rfl rfl hd hs hc hp ho ht hh hz hnew hr fun tk tk' => h tk _ ?_
  refine Ok.turned (s' := { s with heap := s.heap.update dx (Obj.putName name (PyData.keyHash G.w.params name) (.str name tk) v), toks := tk' }) O (Heap.SameBut.update ..) ?_ rfl rfl
  exact (Heap.get?_update_self _ hd (by rw [hnew]; rfl)).trans (by rw [hnew])
theorem r_anyT {a : Addr} {bs : List Bool} {m : Mp} {I : Hp} {W : Ws} {Q : VP} (O : Ok G c ⟨m, I, (a, tup (bs.map Value.bool)) :: W⟩ s) (hh : A.handled = none)
    (h : ∀ s', Ok G c ⟨m, I, (a, tup (bs.map Value.bool)) :: W⟩ s' → Q (.bool ((List.range bs.length).any fun i => bs.getD i false)) s') : wpAny (model G.prog G.w) A (call (.builtin "any") [.ref a]) Q E s := by
  have e := O.wr (a, tup (bs.map Value.bool)) (.head _)
  refine call_any_walk (wpAny_pyIter_tuple (isT e) ?_)
  have hf := size_free s.heap
  have O₂ := O.own (s' := { s with heap := s.heap.push { cls := .type "tuple_iterator", data := .fields #[.ref a, .int 0 0] } }) (fun _ _ e => Heap.get?_push_of_some _ e) hf (Heap.get?_push_size _ rfl) rfl rfl
  have hne : a ≠ s.heap.objs.size := fun q => by rw [← q] at hf; rw [hf] at e; cases e
  have i0 : s.heap.objs.size ∉ c.W0 := (off_fresh O hf).2.2.2
  refine ⟨_, _, _, _, _, _, fun i => bs.getD i false, rfl, Walks.tuple (A := A.in1) hh s.heap.objs.size a hne (bs.map Value.bool).toArray, ⟨⟨_, Heap.get?_push_size _ rfl, rfl, rfl⟩, isT (Heap.get?_push_of_some _ e)⟩, fun i v s Q E hP hq => ?_, fun h' tk hk => ?_⟩
  · have hP : (bs.map Value.bool)[i]? = some v := by simpa using hP
    rw [List.getElem?_map] at hP
    obtain ⟨b, hb, rfl⟩ := Option.map_eq_some_iff.mp hP
    refine wpAny_truthy_bool ?_
    rw [show b = bs.getD i false by rw [List.getD_eq_getElem?_getD, hb]; rfl]; exact hq
  · have O₃ := Ok.dropWi (Wi := [_]) (wr := [s.heap.objs.size]) (s' := { s with heap := h', toks := tk }) O₂ rfl (fun b hb => by rw [List.mem_singleton.mp hb]; exact i0) hk rfl rfl
    have := h _ O₃
    simpa using this
theorem Bud.in1 {hd : Option Value} {fr : List Env} {d u : Nat} (B : Bud A hd fr d (u + 1)) : Bud A.in1 hd fr d u := { h := B.h, f := B.f, d := B.d, u := by show A.units + 1 + u < cLine; have := B.u; lia }
theorem r_lenI {x C f : Addr} {ox : Obj} {od : Option Obj} {n : Nat} {m : Mp} {I : Hp} {W : Ws} {hd : Option Value} {d u : Nat} {Q : VP} (O : Ok G c ⟨m, I, W⟩ s) (B : Bud A hd (c.env :: c.outer) d (u + 1)) (Z : InstAt s.heap x ox C od) (hn : n ≤ 16777216)
    (hf : findIn G.K (.ref C) "__len__" = some (some (.ref f))) (ht : typeIn G.K (.ref f) = some (.type "function"))
    (K : Cl G (.ref f) [.ref x] hd d u I [] (fun v I' W' => ∀ s', Ok G c ⟨m, I', W' ++ W⟩ s' → (∀ a o, I a = some o → I' a = some o) → (∃ t, v = .int n t) ∧ ∀ k, Q (.int n k) { s' with toks := k + 1 }) (fun _ _ _ => False)) :
    wpAny (model G.prog G.w) A (call (.builtin "len") [.ref x]) Q E s := by
  refine call_function_tree PySem.kind_len PySem.plain_len PySem.entry_len (PySem.args_len1 _) ?_
  unfold Builtin.«len»
  refine wpAny_bind (m := oneArg "len" _) (wpAny_pure ?_)
  refine wpAny_bind (m := callSpecial? (.ref x) (Str.ofString "__len__")) ?_
  unfold callSpecial? specialOf
  refine wpAny_bind (wpAny_bind (Z.type.here ((looks_findIn O.In hf).here ?_)))
  dsimp only
  refine wpAny_holding (wpAny_bind ((bind_fn O.In (.ref x) ht).here (wpAny_bind ?_)))
  refine r_pure O B.in1 ?_
  intro A' fr s' B' P
  refine wpAny_mono (K A' fr s' B' P) (fun v s3 h => ?_) fun _ _ h => h
  obtain ⟨I', W', R, h⟩ := h
  refine ⟨I', W', R, fun s4 O4 sub => ?_⟩
  obtain ⟨⟨t, rfl⟩, h2⟩ := h s4 O4 sub
  refine wpAny_pure ?_
  show wpAny _ _ _ _ _ s4
  refine wpAny_bind (wpAny_holding (wpAny_pure ?_))
  refine wpAny_bind (wpAny_letGo ?_)
  show wpAny _ _ (if ((n : Nat) : Int) < 0 then _ else _) _ _ _
  rw [if_neg (by lia)]
  show wpAny _ _ (if ((n : Nat) : Int) ≥ 2 ^ 63 then _ else _) _ _ _
  rw [if_neg (by lia)]
  exact wpAny_bind (wpAny_mkInt (wpAny_pure (h2 _)))
end
section
open PySem.Builtin
theorem SqIt.extBut {h h' : Heap} {it l b : Addr} {k : Bool} {i : Nat} (x : SqIt h it l k i) (hs : Heap.ExtBut b h h') (n : it ≠ b) : SqIt h' it l k i := let ⟨o, ho, r⟩ := x; ⟨o, hs it o n ho, r⟩
theorem SqIt.at {h h' : Heap} {it l : Addr} {k : Bool} {i : Nat} (x : SqIt h it l k i) (e : ∀ o, h.get? it = some o → h'.get? it = some o) : SqIt h' it l k i := let ⟨o, ho, r⟩ := x; ⟨o, e o ho, r⟩
structure ZP where
  z : Addr
  TI : Addr
  TO : Addr
  i1 : Addr
  i2 : Addr
  l1 : Addr
  l2 : Addr
  k1 : Bool
  k2 : Bool
  xs : List Value
  ys : List Value
  n1 : Nat
  n2 : Nat
abbrev ZP.ap (p : ZP) : Prop := ZipApart p.z p.TI p.TO p.i1 p.i2 p.l1 p.l2
structure ZP.At (p : ZP) (j : Nat) (h : Heap) : Prop where
  ti : IsPair h p.TI (.ref p.i1) (.ref p.i2)
  to : ∃ a b, IsPair h p.TO a b
  h1 : SqIt h p.i1 p.l1 p.k1 j
  h2 : SqIt h p.i2 p.l2 p.k2 j
  hl1 : h.get? p.l1 = some (sqO p.k1 p.xs p.n1)
  hl2 : h.get? p.l2 = some (sqO p.k2 p.ys p.n2)
noncomputable def IsZipH (h : Heap) (z TI TO T : Addr) (b : Bool) : Prop := h.get? z = some { cls := .type "zip", data := .fields #[rawInt T, .bool b, .bool false, .ref TI, .ref TO] }
section
variable {prog : Program} {w : World} {A : Around} {E : VP} {s : Shared} {p : ZP} {j : Nat}
theorem wpAny_loadIfAlive {M : Model} {a : Addr} {Q : Option Obj → Shared → Prop} (h : Q (s.heap.get? a) s) : wpAny M A (loadIfAlive a) Q E s := fun Γ p hΓ => by
  unfold loadIfAlive
  rw [Sem.wp_loadIfAlive]
  exact wpAny_pure (M := M) (A := A) (E := E) h Γ p hΓ
theorem zip_busy {T : Addr} {b : Bool} {oT : Obj} {Q : Bool → Shared → Prop} (hz : IsZipH s.heap p.z p.TI p.TO T b) (hT : s.heap.get? T = some oT)
    (h : ∀ h₁, IsZipH h₁ p.z p.TI p.TO T true → Heap.SameBut p.z s.heap h₁ → Q false { s with heap := h₁ }) : wpAny (model prog w) A (Builtin.SmallTypes.ownedTupleIsFree (.ref p.z)) Q E s := by
  unfold Builtin.SmallTypes.ownedTupleIsFree
  refine wpAny_bind (wpAny_field hz rfl (x := rawInt T) rfl ?_)
  show wpAny _ _ (loadIfAlive (T : Int).toNat >>= _) _ _ _
  refine wpAny_bind (wpAny_loadIfAlive ?_)
  rw [Int.toNat_natCast, hT]
  show wpAny _ _ (field (.ref p.z) 1 >>= _) _ _ _
  refine wpAny_bind (wpAny_field hz rfl (x := .bool b) rfl ?_)
  cases b with
  | true =>
    rw [show (Value.bool true != Value.bool true) = false from rfl]
    exact wpAny_pure (h _ hz ⟨rfl, fun _ _ => rfl⟩)
  | false =>
    rw [show (Value.bool false != Value.bool true) = true from rfl, if_pos rfl]
    refine wpAny_bind (wpAny_setField_rec hz (by simp) fun h₁ hz₁ hs₁ => ?_)
    exact wpAny_pure (h _ hz₁ hs₁)
theorem zip_held {T : Addr} {b : Bool} {oT : Obj} {x y : Value} {Q : VP} (D : p.ap) (hz : IsZipH s.heap p.z p.TI p.TO T b) (hT : s.heap.get? T = some oT) (Z : p.At j s.heap) (hx : p.xs[j]? = some x) (hy : p.ys[j]? = some y)
    (hQ : ∀ h', IsZipH h' p.z p.TI p.TO T true → p.At (j + 1) h' → IsPair h' s.heap.objs.size x y → h'.objs.size = s.heap.objs.size + 1 →
      (∀ c o, c ≠ p.z → c ≠ p.TO → c ≠ p.i1 → c ≠ p.i2 → s.heap.get? c = some o → h'.get? c = some o) → Q (.ref s.heap.objs.size) { s with heap := h' }) :
    wpAny (model prog w) A (Builtin.«zip.__next__» ⟨[.ref p.z], []⟩) (fun fin s' => ∃ v, fin = .done (.ret v) ∧ Q v s') E s := by
  obtain ⟨hTI, ⟨a, b', hTO⟩, h1, h2, hl1, hl2⟩ := Z
  show wpAny _ _ (field (.ref p.z) 2 >>= _) _ _ _
  refine wpAny_bind (wpAny_field hz rfl (x := .bool false) rfl ?_)
  show wpAny _ _ (field (.ref p.z) 3 >>= _) _ _ _
  refine wpAny_bind (wpAny_field hz rfl (x := .ref p.TI) rfl ?_)
  refine wpAny_bind (wpAny_seqItems hTI rfl ?_)
  show wpAny _ _ (Builtin.SmallTypes.ownedTupleIsFree (.ref p.z) >>= _) _ _ _
  refine wpAny_bind (zip_busy hz hT fun h₁ hz₁ hs₁ => ?_)
  rw [if_neg (by decide)]
  dsimp only
  refine wpAny_bind ?_
  rw [← Array.forIn_toList]
  rw [List.forIn_cons]
  refine wpAny_bind (wpAny_bind (wpAny_holding ?_))
  show wpAny _ _ (Builtin.SmallTypes.nextOf (.ref p.i1) >>= _) _ _ _
  refine wpAny_bind (nextOf_item (h1.extBut hs₁.extBut D.i1z) (hs₁.extBut _ _ D.l1z hl1) hx fun h₂ h1₂ hs₂ => wpAny_pure ?_)
  refine wpAny_pure ?_
  refine wpAny_bind (wpAny_bind (wpAny_holding ?_))
  show wpAny _ _ (Builtin.SmallTypes.nextOf (.ref p.i2) >>= _) _ _ _
  refine wpAny_bind (nextOf_item ((h2.extBut hs₁.extBut D.i2z).extBut hs₂.extBut D.i12.symm) (hs₂.extBut _ _ D.l2i1 (hs₁.extBut _ _ D.l2z hl2)) hy fun h₄ h2₄ hs₄ => wpAny_pure ?_)
  refine wpAny_pure (wpAny_pure ?_)
  refine wpAny_bind (wpAny_newTuple ?_ (by show (2 : Nat) ≤ _; rw [sizeLine_eq]; lia))
  have hsz : h₄.objs.size = s.heap.objs.size := by rw [hs₄.1, hs₂.1, hs₁.1]
  have up : ∀ c o, h₄.get? c = some o → (h₄.push { cls := .type "tuple", data := .seq #[x, y] }).get? c = some o := fun c o e => Heap.get?_push_of_some _ e
  have upz : ∀ c o, c ≠ p.z → c ≠ p.i1 → c ≠ p.i2 → s.heap.get? c = some o → (h₄.push { cls := .type "tuple", data := .seq #[x, y] }).get? c = some o := fun c o c1 c3 c4 e => up _ _ (hs₄.extBut _ _ c4 (hs₂.extBut _ _ c3 (hs₁.extBut _ _ c1 e)))
  refine wpAny_pure ⟨_, rfl, ?_⟩
  show Q (.ref h₄.objs.size) _
  rw [hsz]
  refine hQ _ (up _ _ (hs₄.extBut _ _ D.i2z.symm (hs₂.extBut _ _ D.i1z.symm hz₁)))
    ⟨upz _ _ D.TIz D.TIi1 D.TIi2 hTI, ⟨_, _, upz _ _ D.TOz D.TOi1 D.TOi2 hTO⟩, (h1₂.extBut hs₄.extBut D.i12).at fun o e => up _ o e, h2₄.at fun o e => up _ o e, upz _ _ D.l1z D.l1i1 D.l1i2 hl1, upz _ _ D.l2z D.l2i1 D.l2i2 hl2⟩ ?_ ?_ fun c o c1 _ c3 c4 e => upz c o c1 c3 c4 e
  · have := Heap.get?_push_size h₄ (o := { cls := .type "tuple", data := .seq #[x, y] }) rfl
    rw [hsz] at this; exact this
  · rw [Heap.size_push, hsz]
theorem zip_end_held {T : Addr} {b : Bool} {oT : Obj} {Q : PySem.Fin → Shared → Prop} (hh : A.handled = none) (D : p.ap) (hz : IsZipH s.heap p.z p.TI p.TO T b) (hT : s.heap.get? T = some oT) (Z : p.At j s.heap) (hx : p.xs[j]? = none)
    (hE : ∀ h' e, (∀ c o, c ≠ p.z → c ≠ p.TO → c ≠ p.i1 → c ≠ p.i2 → s.heap.get? c = some o → h'.get? c = some o) → (∃ o, h'.get? e = some o ∧ o.cls = .type "StopIteration") → E (.ref e) { s with heap := h' }) :
    wpAny (model prog w) A (Builtin.«zip.__next__» ⟨[.ref p.z], []⟩) Q E s := by
  obtain ⟨hTI, _, h1, h2, hl1, hl2⟩ := Z
  show wpAny _ _ (field (.ref p.z) 2 >>= _) _ _ _
  refine wpAny_bind (wpAny_field hz rfl (x := .bool false) rfl ?_)
  show wpAny _ _ (field (.ref p.z) 3 >>= _) _ _ _
  refine wpAny_bind (wpAny_field hz rfl (x := .ref p.TI) rfl ?_)
  refine wpAny_bind (wpAny_seqItems hTI rfl ?_)
  show wpAny _ _ (Builtin.SmallTypes.ownedTupleIsFree (.ref p.z) >>= _) _ _ _
  refine wpAny_bind (zip_busy hz hT fun h₁ hz₁ hs₁ => ?_)
  rw [if_neg (by decide)]
  dsimp only
  refine wpAny_bind ?_
  rw [← Array.forIn_toList]
  rw [List.forIn_cons]
  refine wpAny_bind (wpAny_bind (wpAny_holding ?_))
  show wpAny _ _ (Builtin.SmallTypes.nextOf (.ref p.i1) >>= _) _ _ _
  refine wpAny_bind (nextOf_end hh (h1.extBut hs₁.extBut D.i1z) (hs₁.extBut _ _ D.l1z hl1) hx fun h₂ e hs₂ he => ?_)
  exact hE _ e (fun c o c1 _ c3 _ x => hs₂ _ _ c3 (hs₁.extBut _ _ c1 x)) he
theorem zip_free {x y : Value} {Q : VP} (D : p.ap) (hz : IsZip s.heap p.z p.TI p.TO .none) (Z : p.At j s.heap) (hx : p.xs[j]? = some x) (hy : p.ys[j]? = some y)
    (hQ : ∀ h', IsZip h' p.z p.TI p.TO (rawInt s.heap.objs.size) → p.At (j + 1) h' → IsPair h' s.heap.objs.size x y → h'.objs.size = s.heap.objs.size + 1 →
      (∀ c o, c ≠ p.z → c ≠ p.TO → c ≠ p.i1 → c ≠ p.i2 → s.heap.get? c = some o → h'.get? c = some o) → Q (.ref s.heap.objs.size) { s with heap := h' }) :
    wpAny (model prog w) A (Builtin.«zip.__next__» ⟨[.ref p.z], []⟩) (fun fin s' => ∃ v, fin = .done (.ret v) ∧ Q v s') E s := by
  obtain ⟨hTI, ⟨a, b, hTO⟩, h1, h2, hl1, hl2⟩ := Z
  show wpAny _ _ (field (.ref p.z) 2 >>= _) _ _ _
  refine wpAny_bind (wpAny_field hz rfl (x := .bool false) rfl ?_)
  show wpAny _ _ (field (.ref p.z) 3 >>= _) _ _ _
  refine wpAny_bind (wpAny_field hz rfl (x := .ref p.TI) rfl ?_)
  refine wpAny_bind (wpAny_seqItems hTI rfl ?_)
  show wpAny _ _ (Builtin.SmallTypes.ownedTupleIsFree (.ref p.z) >>= _) _ _ _
  refine wpAny_bind ?_
  unfold Builtin.SmallTypes.ownedTupleIsFree
  refine wpAny_bind (wpAny_field hz rfl (x := .none) rfl (wpAny_pure ?_))
  rw [if_pos rfl]
  refine wpAny_bind (wpAny_rule ?_)
  refine wpAny_bind (wpAny_field hz rfl (x := .ref p.TO) rfl ?_)
  refine wpAny_bind (wpAny_setField_rec hz (by simp) fun h₁ hz₁ hs₁ => ?_)
  replace hz₁ : IsZip h₁ p.z p.TI p.TO .ellipsis := hz₁
  refine wpAny_bind ?_
  rw [List.zipIdx_cons, List.zipIdx_cons, List.zipIdx_nil, List.forIn_cons]
  refine wpAny_bind (wpAny_bind (wpAny_onRaise ?_))
  show wpAny _ _ (Builtin.SmallTypes.nextOf (.ref p.i1) >>= _) _ _ _
  refine wpAny_bind (nextOf_item (h1.extBut hs₁.extBut D.i1z) (hs₁.extBut _ _ D.l1z hl1) hx fun h₂ h1₂ hs₂ => wpAny_pure ?_)
  have hTO₂ : IsPair h₂ p.TO a b := hs₂.extBut _ _ D.TOi1 (hs₁.extBut _ _ D.TOz hTO)
  refine wpAny_bind (wpAny_seqItems hTO₂ rfl ?_)
  refine wpAny_bind (wpAny_updateSeq_pair hTO₂ fun h₃ hTO₃ hs₃ => ?_)
  replace hTO₃ : IsPair h₃ p.TO x b := hTO₃
  refine wpAny_bind (wpAny_letGo (wpAny_pure ?_))
  refine wpAny_bind (wpAny_bind (wpAny_onRaise ?_))
  show wpAny _ _ (Builtin.SmallTypes.nextOf (.ref p.i2) >>= _) _ _ _
  refine wpAny_bind (nextOf_item (((h2.extBut hs₁.extBut D.i2z).extBut hs₂.extBut D.i12.symm).extBut hs₃.extBut D.TOi2.symm)
    (hs₃.extBut _ _ D.l2TO (hs₂.extBut _ _ D.l2i1 (hs₁.extBut _ _ D.l2z hl2))) hy fun h₄ h2₄ hs₄ => wpAny_pure ?_)
  have hTO₄ : IsPair h₄ p.TO x b := hs₄.extBut _ _ D.TOi2 hTO₃
  refine wpAny_bind (wpAny_seqItems hTO₄ rfl ?_)
  refine wpAny_bind (wpAny_updateSeq_pair hTO₄ fun h₅ hTO₅ hs₅ => ?_)
  replace hTO₅ : IsPair h₅ p.TO x y := hTO₅
  refine wpAny_bind (wpAny_letGo (wpAny_pure (wpAny_pure ?_)))
  refine wpAny_bind (wpAny_seqItems hTO₅ rfl ?_)
  refine wpAny_bind (wpAny_newTuple ?_)
  have hsz : h₅.objs.size = s.heap.objs.size := by rw [hs₅.1, hs₄.1, hs₃.1, hs₂.1, hs₁.1]
  have hz₅ : IsZip h₅ p.z p.TI p.TO .ellipsis := hs₅.extBut _ _ D.TOz.symm (hs₄.extBut _ _ D.i2z.symm (hs₃.extBut _ _ D.TOz.symm (hs₂.extBut _ _ D.i1z.symm hz₁)))
  have hk₅ : ∀ c o, c ≠ p.z → c ≠ p.TO → c ≠ p.i1 → c ≠ p.i2 → s.heap.get? c = some o → h₅.get? c = some o := fun c o c1 c2 c3 c4 e =>
    hs₅.extBut _ _ c2 (hs₄.extBut _ _ c4 (hs₃.extBut _ _ c2 (hs₂.extBut _ _ c3 (hs₁.extBut _ _ c1 e))))
  have h1₅ : SqIt h₅ p.i1 p.l1 p.k1 (j + 1) := ((h1₂.extBut hs₃.extBut D.TOi1.symm).extBut hs₄.extBut D.i12).extBut hs₅.extBut D.TOi1.symm
  have h2₅ : SqIt h₅ p.i2 p.l2 p.k2 (j + 1) := h2₄.extBut hs₅.extBut D.TOi2.symm
  have hzlt : p.z < h₅.objs.size := Heap.lt_size hz₅
  show wpAny _ _ (Builtin.SmallTypes.ownedTupleHandOut (.ref p.z) (.ref h₅.objs.size) >>= _) _ _ _
  refine wpAny_bind ?_
  unfold Builtin.SmallTypes.ownedTupleHandOut
  have hz₆ : IsZip (h₅.push { cls := .type "tuple", data := .seq #[x, y] }) p.z p.TI p.TO .ellipsis := Heap.get?_push_of_some _ hz₅
  refine wpAny_bind (wpAny_setField_rec hz₆ (by simp) fun h₇ hz₇ hs₇ => ?_)
  replace hz₇ : IsZip h₇ p.z p.TI p.TO (rawInt h₅.objs.size) := hz₇
  refine wpAny_setField_rec hz₇ (by simp) fun h₈ hz₈ hs₈ => ?_
  replace hz₈ : IsZip h₈ p.z p.TI p.TO (rawInt h₅.objs.size) := hz₈
  have up : ∀ c o, c ≠ p.z → h₅.get? c = some o → h₈.get? c = some o := fun c o c1 e => hs₈.extBut _ _ c1 (hs₇.extBut _ _ c1 (Heap.get?_push_of_some _ e))
  have hT₈ : IsPair h₈ h₅.objs.size x y := hs₈.extBut _ _ (Nat.ne_of_gt hzlt) (hs₇.extBut _ _ (Nat.ne_of_gt hzlt) (Heap.get?_push_size _ rfl))
  have hz8 : h₈.objs.size = h₅.objs.size + 1 := by rw [hs₈.1, hs₇.1, Heap.size_push]
  rw [hsz] at hz₈ hT₈ hz8
  refine wpAny_pure ⟨_, rfl, ?_⟩
  show Q (.ref h₅.objs.size) _
  rw [hsz]
  have hk₈ : ∀ c o, c ≠ p.z → c ≠ p.TO → c ≠ p.i1 → c ≠ p.i2 → s.heap.get? c = some o → h₈.get? c = some o := fun c o c1 c2 c3 c4 e => up c o c1 (hk₅ c o c1 c2 c3 c4 e)
  exact hQ h₈ hz₈ ⟨hk₈ _ _ D.TIz D.TITO D.TIi1 D.TIi2 hTI, ⟨_, _, up _ _ D.TOz hTO₅⟩, h1₅.at fun o e => up _ o D.i1z e, h2₅.at fun o e => up _ o D.i2z e, hk₈ _ _ D.l1z D.l1TO D.l1i1 D.l1i2 hl1, hk₈ _ _ D.l2z D.l2TO D.l2i1 D.l2i2 hl2⟩ hT₈ hz8 hk₈
theorem zip_end_free {Q : PySem.Fin → Shared → Prop} (hh : A.handled = none) (D : p.ap) (hz : IsZip s.heap p.z p.TI p.TO .none) (Z : p.At j s.heap) (hx : p.xs[j]? = none)
    (hE : ∀ h' e, (∀ c o, c ≠ p.z → c ≠ p.TO → c ≠ p.i1 → c ≠ p.i2 → s.heap.get? c = some o → h'.get? c = some o) → (∃ o, h'.get? e = some o ∧ o.cls = .type "StopIteration") → E (.ref e) { s with heap := h' }) :
    wpAny (model prog w) A (Builtin.«zip.__next__» ⟨[.ref p.z], []⟩) Q E s := by
  obtain ⟨hTI, ⟨a, b, hTO⟩, h1, h2, hl1, hl2⟩ := Z
  show wpAny _ _ (field (.ref p.z) 2 >>= _) _ _ _
  refine wpAny_bind (wpAny_field hz rfl (x := .bool false) rfl ?_)
  show wpAny _ _ (field (.ref p.z) 3 >>= _) _ _ _
  refine wpAny_bind (wpAny_field hz rfl (x := .ref p.TI) rfl ?_)
  refine wpAny_bind (wpAny_seqItems hTI rfl ?_)
  show wpAny _ _ (Builtin.SmallTypes.ownedTupleIsFree (.ref p.z) >>= _) _ _ _
  refine wpAny_bind ?_
  unfold Builtin.SmallTypes.ownedTupleIsFree
  refine wpAny_bind (wpAny_field hz rfl (x := .none) rfl (wpAny_pure ?_))
  rw [if_pos rfl]
  refine wpAny_bind (wpAny_rule ?_)
  refine wpAny_bind (wpAny_field hz rfl (x := .ref p.TO) rfl ?_)
  refine wpAny_bind (wpAny_setField_rec hz (by simp) fun h₁ hz₁ hs₁ => ?_)
  replace hz₁ : IsZip h₁ p.z p.TI p.TO .ellipsis := hz₁
  refine wpAny_bind ?_
  rw [List.zipIdx_cons, List.zipIdx_cons, List.zipIdx_nil, List.forIn_cons]
  refine wpAny_bind (wpAny_bind (wpAny_onRaise ?_))
  show wpAny _ _ (Builtin.SmallTypes.nextOf (.ref p.i1) >>= _) _ _ _
  refine wpAny_bind (nextOf_end hh (h1.extBut hs₁.extBut D.i1z) (hs₁.extBut _ _ D.l1z hl1) hx fun h₂ e hs₂ he => ?_)
  obtain ⟨oe, hoe, hce⟩ := he
  have hz₂ : IsZip h₂ p.z p.TI p.TO .ellipsis := hs₂ _ _ D.i1z.symm hz₁
  have hez : e ≠ p.z := fun x => by subst x; rw [hz₂] at hoe; cases hoe; simp at hce
  exact wpAny_setField_rec hz₂ (by simp) fun h₃ _ hs₃ => hE h₃ e (fun c o c1 _ c3 _ x => hs₃.extBut _ _ c1 (hs₂ _ _ c3 (hs₁.extBut _ _ c1 x))) ⟨oe, hs₃.extBut _ _ hez hoe, hce⟩
end
theorem meets_zipS (l1 l2 : Addr) (k1 k2 : Bool) (xs ys : List Value) (n1 n2 : Nat) :
    Meets (Builtin.«zip.__new__» ⟨[.type "zip", .ref l1, .ref l2], []⟩) (fun _ R s => s.heap.get? l1 = some (sqO k1 xs n1) ∧ s.heap.get? l2 = some (sqO k2 ys n2) ∧
      R (.ok (.ret (.ref (s.heap.objs.size + 4)))) { s with heap := ((((s.heap.push (itO k1 l1 0)).push (itO k2 l2 0)).push (tup [.ref s.heap.objs.size, .ref (s.heap.objs.size + 1)])).push (tup [.none, .none])).push { cls := .type "zip", data := .fields #[.none, .bool false, .bool false, .ref (s.heap.objs.size + 2), .ref (s.heap.objs.size + 3)] } }) :=
  .of_wp fun prog w A R s h => by
    obtain ⟨hp, g, d, tk, os⟩ := s; obtain ⟨hl1, hl2, h⟩ := h
    have hsub := sub_zip
    have hL1 : (Shared.heap ⟨hp, g, d, tk, os⟩).get? l1 = some (sqO k1 xs n1) := hl1
    have hL2 : (Shared.heap ⟨hp.push (itO k1 l1 0), g, d, tk, os⟩).get? l2 = some (sqO k2 ys n2) := Heap.get?_push_of_some _ hl2
    have z1 : (hp.push (itO k1 l1 0)).objs.size = hp.objs.size + 1 := Heap.size_push ..
    wp_walk using pyIter_sq hL1, pyIter_sq hL2
    simp only [Heap.size_push] at *
    exact ⟨_, rfl, h⟩
section
variable {prog : Program} {w : World} {A : Around} {E : VP} {s : Shared}
theorem enum_item {e it : Addr} {i : Nat} {old : Value} {Q : Option Value → Shared → Prop} (he : IsEnum s.heap e it i old)
    (hin : wpAny (model prog w) A.in1 (Builtin.SmallTypes.nextOf (.ref it)) (fun x s1 => IsEnum s1.heap e it i old ∧
      ∀ h' tk, IsEnumOut h' e it ((i : Int) + 1) x s1.heap.objs.size → h'.get? s1.heap.objs.size = some { cls := .type "tuple", data := .seq #[.int i tk, x] } → h'.objs.size = s1.heap.objs.size + 1 →
        (∀ b o, b ≠ e → s1.heap.get? b = some o → h'.get? b = some o) → Q (some (.ref s1.heap.objs.size)) { s1 with heap := h', toks := tk + 1 }) (fun _ _ => False) s) :
    wpAny (model prog w) A (pyNext (.ref e)) Q E s := by
  have hT : s.TypeIs (.ref e) "enumerate" := ⟨_, he, rfl⟩
  unfold pyNext
  refine wpAny_bind (wpAny_attempt (wpAny_callSpecial?_slot (name := Str.ofString "__next__") hT PySem.F.slot_enumerate_next
    (wpAny_call_entry PySem.F.slot_enumerate_next hT PySem.F.entry_enumerate_next (Q := fun v s' => wpAny (model prog w) A (pure (some v)) Q E s') ?_ (PySem.F.args_enumerate_next_1 _))))
  show wpAny _ _ (field (.ref e) 2 >>= _) _ _ _
  refine wpAny_bind (wpAny_field he rfl (x := .ref it) rfl ?_)
  refine wpAny_bind (wpAny_mono hin (fun x s1 h => ?_) fun _ _ h => h.elim)
  obtain ⟨he₁, hQ⟩ := h
  obtain ⟨h₁, g, d, tk, os⟩ := s1
  dsimp only at he₁ hQ
  show wpAny _ _ (field (.ref e) 3 >>= _) _ _ ⟨h₁, g, d, tk, os⟩
  refine wpAny_bind (wpAny_field he₁ rfl (x := rawInt i) rfl ?_)
  show wpAny _ _ (field (.ref e) 4 >>= _) _ _ ⟨h₁, g, d, tk, os⟩
  refine wpAny_bind (wpAny_field he₁ rfl (x := .none) rfl ?_)
  show wpAny _ _ (mkInt i >>= _) _ _ ⟨h₁, g, d, tk, os⟩
  refine wpAny_bind (wpAny_mkInt ?_)
  show wpAny _ _ (setField (.ref e) 3 (rawInt ((i : Int) + 1)) >>= _) _ _ ⟨h₁, g, d, tk + 1, os⟩
  refine wpAny_bind (wpAny_setField_rec he₁ (by simp) fun h₂ he₂ hs₂ => ?_)
  replace hs₂ : Heap.SameBut e h₁ h₂ := hs₂
  replace he₂ : IsEnum h₂ e it ((i : Int) + 1) old := he₂
  show wpAny _ _ (setField (.ref e) 4 .none >>= _) _ _ ⟨h₂, g, d, tk + 1, os⟩
  refine wpAny_bind (wpAny_setField_rec he₂ (by simp) fun h₃ he₃ hs₃ => ?_)
  replace hs₃ : Heap.SameBut e h₂ h₃ := hs₃
  replace he₃ : IsEnum h₃ e it ((i : Int) + 1) old := he₃
  show wpAny _ _ (newTuple [.int i tk, x] >>= _) _ _ ⟨h₃, g, d, tk + 1, os⟩
  refine wpAny_bind (wpAny_newTuple ?_)
  have he₄ : IsEnum (h₃.push { cls := .type "tuple", data := .seq #[.int i tk, x] }) e it ((i : Int) + 1) old := Heap.get?_push_of_some _ he₃
  generalize hh₄ : h₃.push { cls := .type "tuple", data := .seq #[.int i tk, x] } = h₄ at he₄
  have hsz : h₃.objs.size = h₁.objs.size := by rw [hs₃.1, hs₂.1]
  have hel : e < h₁.objs.size := Heap.lt_size he₁
  have ht₄ : h₄.get? h₁.objs.size = some { cls := .type "tuple", data := .seq #[.int i tk, x] } := by rw [← hh₄, ← hsz]; exact Heap.get?_push_size _ rfl
  have hz₄ : h₄.objs.size = h₁.objs.size + 1 := by rw [← hh₄, Heap.size_push, hsz]
  have hk₄ : ∀ b o, b ≠ e → h₁.get? b = some o → h₄.get? b = some o := fun b o hbe hb => by
    rw [← hh₄]; exact Heap.get?_push_of_some _ (hs₃.extBut b o hbe (hs₂.extBut b o hbe hb))
  show wpAny _ _ (Builtin.SmallTypes.ownedTupleIsFree (.ref e) >>= _) _ _ ⟨h₄, g, d, tk + 1, os⟩
  rw [hsz]
  clear hh₄ he₃ hs₃ he₂ hs₂ hsz h₃ h₂
  refine wpAny_bind ?_
  unfold Builtin.SmallTypes.ownedTupleIsFree
  refine wpAny_bind (wpAny_field he₄ rfl (x := .none) rfl (wpAny_pure ?_))
  simp only [if_true]
  refine wpAny_bind (wpAny_rule ?_)
  refine wpAny_bind (wpAny_field he₄ rfl (x := old) rfl ?_)
  refine wpAny_bind (wpAny_setField_rec he₄ (by simp) fun h₅ he₅ hs₅ => ?_)
  replace hs₅ : Heap.SameBut e h₄ h₅ := hs₅
  replace he₅ : IsEnum h₅ e it ((i : Int) + 1) x := he₅
  show wpAny _ _ (Builtin.SmallTypes.ownedTupleHandOut (.ref e) (.ref h₁.objs.size) >>= _) _ _ ⟨h₅, g, d, tk + 1, os⟩
  refine wpAny_bind ?_
  unfold Builtin.SmallTypes.ownedTupleHandOut
  refine wpAny_bind (wpAny_setField_rec he₅ (by simp) fun h₆ he₆ hs₆ => ?_)
  replace hs₆ : Heap.SameBut e h₅ h₆ := hs₆
  replace he₆ : IsEnumOut h₆ e it ((i : Int) + 1) x h₁.objs.size := he₆
  refine wpAny_setField_rec he₆ (by simp) fun h₇ he₇ hs₇ => ?_
  replace hs₇ : Heap.SameBut e h₆ h₇ := hs₇
  replace he₇ : IsEnumOut h₇ e it ((i : Int) + 1) x h₁.objs.size := he₇
  refine wpAny_bind (wpAny_letGo (wpAny_pure ⟨_, rfl, wpAny_pure (hQ h₇ tk he₇ ?_ ?_ ?_)⟩))
  · exact hs₇.extBut _ _ (Nat.ne_of_gt hel) (hs₆.extBut _ _ (Nat.ne_of_gt hel) (hs₅.extBut _ _ (Nat.ne_of_gt hel) ht₄))
  · rw [hs₇.1, hs₆.1, hs₅.1, hz₄]
  · exact fun b o hbe hb => hs₇.extBut b o hbe (hs₆.extBut b o hbe (hs₅.extBut b o hbe (hk₄ b o hbe hb)))
theorem enum_end {e it : Addr} {i : Int} {old : Value} {Q : Option Value → Shared → Prop} (he : IsEnum s.heap e it i old)
    (hin : ∀ Q', wpAny (model prog w) A.in1 (Builtin.SmallTypes.nextOf (.ref it)) Q' (fun x s1 => ∃ a, x = .ref a ∧ (∃ o, s1.heap.get? a = some o ∧ o.cls = .type "StopIteration") ∧ Q none s1) s) :
    wpAny (model prog w) A (pyNext (.ref e)) Q E s := by
  have hT : s.TypeIs (.ref e) "enumerate" := ⟨_, he, rfl⟩
  unfold pyNext
  refine wpAny_bind (wpAny_attempt (wpAny_callSpecial?_slot (name := Str.ofString "__next__") hT PySem.F.slot_enumerate_next
    (wpAny_call_entry PySem.F.slot_enumerate_next hT PySem.F.entry_enumerate_next ?_ (PySem.F.args_enumerate_next_1 _))))
  show wpAny _ _ (field (.ref e) 2 >>= _) _ _ _
  refine wpAny_bind (wpAny_field he rfl (x := .ref it) rfl ?_)
  refine wpAny_bind (wpAny_mono (hin (fun _ _ => False)) (fun _ _ h => h.elim) fun x s1 h => ?_)
  obtain ⟨a, rfl, ⟨o, ho, hc⟩, h⟩ := h
  refine wpAny_bind (wpAny_isInstance (T := "StopIteration") (b := true) ⟨o, ho, hc⟩ isSubtype_stop ?_)
  exact wpAny_pure h
end
end
section
open PySem.Builtin
open AutoSeq1 (wpAny_loadPart')
set_option maxHeartbeats 1000000 in
theorem meets_enumerate_newZ (z TI TO : Addr) (v : Value) :
    Meets (Builtin.«enumerate.__new__» ⟨[.type "enumerate", .ref z], []⟩) (fun _ R s => IsZip s.heap z TI TO v ∧
      R (.ok (.ret (.ref s.heap.objs.size))) { s with heap := s.heap.push { cls := .type "enumerate", data := .fields #[.none, .bool false, .ref z, rawInt 0, .none, .none] } }) :=
  .of_wp fun prog w A R s h => by
    obtain ⟨hp, g, d, tk, os⟩ := s; obtain ⟨hl, h⟩ := h
    have hsub := sub_enumerate
    have hL : IsZip (Shared.heap ⟨hp, g, d, tk, os⟩) z TI TO v := hl
    wp_walk using wpAny_loadPart' hl
    refine wpAny_stack_any fun st => wpAny_pure ?_
    split
    · rename_i c _ _ _ _ _
      cases (c == Value.type "enumerate")
      · wp_walk using wpAny_loadPart' hl, wpAny_pyIter_zip hL
        exact ⟨_, rfl, h⟩
      · wp_walk using wpAny_loadPart' hl, wpAny_pyIter_zip hL
        exact ⟨_, rfl, h⟩
    · wp_walk using wpAny_loadPart' hl, wpAny_pyIter_zip hL
      exact ⟨_, rfl, h⟩
section
variable {prog : Program} {w : World} {A : Around} {E : VP} {s : Shared}
theorem call_enumerate_zip {z TI TO : Addr} {v : Value} {Q : VP} (hL : IsZip s.heap z TI TO v)
    (h : Q (.ref s.heap.objs.size) { s with heap := s.heap.push { cls := .type "enumerate", data := .fields #[.none, .bool false, .ref z, rawInt 0, .none, .none] } }) :
    wpAny (model prog w) A (call (.type "enumerate") [.ref z]) Q E s := by
  refine callType_new PySem.F.called_enumerate (by decide) (PySem.F.typeCall_enumerate_1 _) (PySem.F.newCall_enumerate_1 _) (fun obj => PySem.F.args_object_init_2 obj _) PySem.F.entry_enumerate_new
    (meets_enumerate_newZ z TI TO v) ⟨hL, ?_⟩
  show _ ∧ _
  have he : IsEnum (s.heap.push { cls := .type "enumerate", data := .fields #[.none, .bool false, .ref z, rawInt 0, .none, .none] }) s.heap.objs.size z 0 .none := Heap.get?_push_size _ rfl
  exact ⟨⟨_, he, rfl⟩, h⟩
end
end
section
open PySem.Builtin
section
variable {prog : Program} {w : World} {A : Around} {E : VP} {s : Shared} {p : ZP} {i : Nat}
noncomputable def ZS (L : Addr → Prop) (p : ZP) (i : Nat) (h : Heap) : Prop := p.At i h ∧ ((i = 0 ∧ IsZip h p.z p.TI p.TO .none) ∨ ∃ T b, IsZipH h p.z p.TI p.TO T b ∧ L T)
theorem next_zip {L : Addr → Prop} {Q : VP} (D : p.ap) (Z : ZS L p i s.heap) (hL : ∀ T, L T → ∃ o, s.heap.get? T = some o)
    {x y : Value} (hx : p.xs[i]? = some x) (hy : p.ys[i]? = some y)
    (hQ : ∀ h', (∀ L' : Addr → Prop, (∀ T, L T → L' T) → L' s.heap.objs.size → ZS L' p (i + 1) h') → IsPair h' s.heap.objs.size x y → h'.objs.size = s.heap.objs.size + 1 →
      (∀ c o, c ≠ p.z → c ≠ p.TO → c ≠ p.i1 → c ≠ p.i2 → s.heap.get? c = some o → h'.get? c = some o) → Q (.ref s.heap.objs.size) { s with heap := h' }) :
    wpAny (model prog w) A (Builtin.SmallTypes.nextOf (.ref p.z)) Q E s := by
  obtain ⟨ZA, hz⟩ := Z
  unfold Builtin.SmallTypes.nextOf
  rcases hz with ⟨rfl, hz⟩ | ⟨T, b, hz, hT⟩
  · have hTy : s.TypeIs (.ref p.z) "zip" := ⟨_, hz, rfl⟩
    refine wpAny_bind (wpAny_callSpecial?_slot (name := Str.ofString "__next__") hTy PySem.F.slot_zip_next (wpAny_call_entry PySem.F.slot_zip_next hTy PySem.F.entry_zip_next
      (zip_free D hz ZA hx hy fun h' a1 a2 a5 a6 hk => ?_) (PySem.F.args_zip_next_1 _)))
    exact wpAny_pure (hQ h' (fun L' hLL hn => ⟨a2, .inr ⟨_, false, a1, hn⟩⟩) a5 a6 hk)
  · have hTy : s.TypeIs (.ref p.z) "zip" := ⟨_, hz, rfl⟩
    obtain ⟨oT, hoT⟩ := hL T hT
    refine wpAny_bind (wpAny_callSpecial?_slot (name := Str.ofString "__next__") hTy PySem.F.slot_zip_next (wpAny_call_entry PySem.F.slot_zip_next hTy PySem.F.entry_zip_next
      (zip_held D hz hoT ZA hx hy fun h' a1 a2 a5 a6 hk => ?_) (PySem.F.args_zip_next_1 _)))
    exact wpAny_pure (hQ h' (fun L' hLL hn => ⟨a2, .inr ⟨T, true, a1, hLL _ hT⟩⟩) a5 a6 hk)
theorem end_zip {L : Addr → Prop} {Q : VP} (hh : A.handled = none) (D : p.ap) (Z : ZS L p i s.heap) (hL : ∀ T, L T → ∃ o, s.heap.get? T = some o) (hx : p.xs[i]? = none)
    (hE : ∀ h' e, (∀ c o, c ≠ p.z → c ≠ p.TO → c ≠ p.i1 → c ≠ p.i2 → s.heap.get? c = some o → h'.get? c = some o) → (∃ o, h'.get? e = some o ∧ o.cls = .type "StopIteration") → E (.ref e) { s with heap := h' }) :
    wpAny (model prog w) A (Builtin.SmallTypes.nextOf (.ref p.z)) Q E s := by
  obtain ⟨ZA, hz⟩ := Z
  unfold Builtin.SmallTypes.nextOf
  rcases hz with ⟨rfl, hz⟩ | ⟨T, b, hz, hT⟩
  · have hTy : s.TypeIs (.ref p.z) "zip" := ⟨_, hz, rfl⟩
    exact wpAny_bind (wpAny_callSpecial?_slot (name := Str.ofString "__next__") hTy PySem.F.slot_zip_next (wpAny_call_entry PySem.F.slot_zip_next hTy PySem.F.entry_zip_next
      (zip_end_free hh D hz ZA hx hE) (PySem.F.args_zip_next_1 _)))
  · have hTy : s.TypeIs (.ref p.z) "zip" := ⟨_, hz, rfl⟩
    obtain ⟨oT, hoT⟩ := hL T hT
    exact wpAny_bind (wpAny_callSpecial?_slot (name := Str.ofString "__next__") hTy PySem.F.slot_zip_next (wpAny_call_entry PySem.F.slot_zip_next hTy PySem.F.entry_zip_next
      (zip_end_held hh D hz hoT ZA hx hE) (PySem.F.args_zip_next_1 _)))
theorem pyNext_zip {x y : Value} {Q : Option Value → Shared → Prop} (D : p.ap) (hz : IsZip s.heap p.z p.TI p.TO .none) (Z : p.At i s.heap) (hx : p.xs[i]? = some x) (hy : p.ys[i]? = some y)
    (hQ : ∀ h', IsZip h' p.z p.TI p.TO (rawInt s.heap.objs.size) → p.At (i + 1) h' → IsPair h' s.heap.objs.size x y → h'.objs.size = s.heap.objs.size + 1 →
      (∀ c o, c ≠ p.z → c ≠ p.TO → c ≠ p.i1 → c ≠ p.i2 → s.heap.get? c = some o → h'.get? c = some o) → Q (some (.ref s.heap.objs.size)) { s with heap := h' }) :
    wpAny (model prog w) A (pyNext (.ref p.z)) Q E s := by
  have hT : s.TypeIs (.ref p.z) "zip" := ⟨_, hz, rfl⟩
  unfold pyNext
  exact wpAny_bind (wpAny_attempt (wpAny_callSpecial?_slot (name := Str.ofString "__next__") hT PySem.F.slot_zip_next
    (wpAny_call_entry PySem.F.slot_zip_next hT PySem.F.entry_zip_next (zip_free D hz Z hx hy fun h' a1 a2 a5 a6 hk => wpAny_pure (hQ h' a1 a2 a5 a6 hk)) (PySem.F.args_zip_next_1 _))))
theorem pyEnd_zip {Q : Option Value → Shared → Prop} (hh : A.handled = none) (D : p.ap) (hz : IsZip s.heap p.z p.TI p.TO .none) (Z : p.At i s.heap) (hx : p.xs[i]? = none)
    (hQ : ∀ h', (∀ c o, c ≠ p.z → c ≠ p.TO → c ≠ p.i1 → c ≠ p.i2 → s.heap.get? c = some o → h'.get? c = some o) → Q none { s with heap := h' }) : wpAny (model prog w) A (pyNext (.ref p.z)) Q E s := by
  have hT : s.TypeIs (.ref p.z) "zip" := ⟨_, hz, rfl⟩
  unfold pyNext
  refine wpAny_bind (wpAny_attempt (wpAny_callSpecial?_slot (name := Str.ofString "__next__") hT PySem.F.slot_zip_next
    (wpAny_call_entry PySem.F.slot_zip_next hT PySem.F.entry_zip_next (zip_end_free hh D hz Z hx fun h' e hk he => ?_) (PySem.F.args_zip_next_1 _))))
  exact wpAny_bind (wpAny_isInstance (T := "StopIteration") (b := true) he isSubtype_stop (wpAny_pure (hQ _ hk)))
end
theorem ZP.At.keep {p : ZP} {i : Nat} {h h' : Heap} (Z : p.At i h) (k : ∀ b ∈ [p.z, p.TI, p.TO, p.i1, p.i2, p.l1, p.l2], ∀ o, h.get? b = some o → h'.get? b = some o) : p.At i h' := by
  obtain ⟨hTI, ⟨a, b, hTO⟩, h1, h2, hl1, hl2⟩ := Z
  exact ⟨k p.TI (by simp) _ hTI, ⟨a, b, k p.TO (by simp) _ hTO⟩, h1.at fun o e => k p.i1 (by simp) o e, h2.at fun o e => k p.i2 (by simp) o e, k p.l1 (by simp) _ hl1, k p.l2 (by simp) _ hl2⟩
theorem ZS.keep {L L' : Addr → Prop} {p : ZP} {i : Nat} {h h' : Heap} (Z : ZS L p i h)
    (k : ∀ b ∈ [p.z, p.TI, p.TO, p.i1, p.i2, p.l1, p.l2], ∀ o, h.get? b = some o → h'.get? b = some o) (hL : ∀ T, L T → L' T) : ZS L' p i h' := by
  obtain ⟨Z, hz⟩ := Z
  refine ⟨Z.keep k, ?_⟩
  rcases hz with ⟨rfl, hz⟩ | ⟨T, b, hz, hT⟩
  · exact .inl ⟨rfl, k p.z (by simp) _ hz⟩
  · exact .inr ⟨T, b, k p.z (by simp) _ hz, hL _ hT⟩
variable {G : Base} {c : Fm} {st : St} {s : Shared} {A : Around}
set_option maxHeartbeats 1000000 in
inductive LoopE (G : Base) (c : Fm) (p : ZP) (e : Addr) (wr : List Addr) (J : Nat → St → Prop) (k : Nat) (s' : Shared) : Prop
  | mk (i : Nat) (st' : St) (Wi' : Ws) (h1 : k = p.xs.length + 1 - i) (h2 : i ≤ p.xs.length) (h3 : ∃ old, IsEnum s'.heap e p.z i old) (h4 : ZS (fun T => ∃ o, st'.I T = some o) p i s'.heap) (h5 : J i st') (h6 : Wi'.map Prod.fst = wr) (h7 : Ok G c ⟨st'.m, st'.I, Wi' ++ st'.W⟩ s') : LoopE G c p e wr J k s'
theorem loop_ez {xi xa xb : Str} {pi pa pb p1 p2 : Pos} {k1 k2 : Nat} {body : List Stmt} {e : Addr} {p : ZP} {Wi W0 : Ws} {m : Mp} {I : Hp} {R : Result → Shared → Prop}
    (J : Nat → St → Prop) (D : p.ap) (hez : e ∉ [p.z, p.TI, p.TO, p.i1, p.i2, p.l1, p.l2]) (hh : A.handled = none)
    (hxi : c.env.kindOf xi = some .local) (hxa : c.env.kindOf xa = some .local) (hxb : c.env.kindOf xb = some .local) (hl1 : I p.l1 = some (sqO p.k1 p.xs p.n1)) (hl2 : I p.l2 = some (sqO p.k2 p.ys p.n2)) (hn : p.xs.length = p.ys.length)
    (O : Ok G c ⟨m, I, Wi ++ W0⟩ s) (hWi : Wi.map Prod.fst = [e, p.z, p.TI, p.TO, p.i1, p.i2]) (hw0 : ∀ b ∈ [e, p.z, p.TI, p.TO, p.i1, p.i2], b ∉ c.W0)
    (he : IsEnum s.heap e p.z 0 .none) (hZ : ZS (fun _ => False) p 0 s.heap) (j0 : J 0 ⟨m, I, W0⟩)
    (turn : ∀ i x y t st' Wi' s', p.xs[i]? = some x → p.ys[i]? = some y → J i st' → Ok G (c.re I) ⟨ov [(xb, y), (xa, x), (xi, .int i t)] st'.m, st'.I, Wi' ++ st'.W⟩ s' →
      wpAny (model G.prog G.w) A (execs body c.env) (fun f s3 => f = .next ∧ ∃ st3, J (i + 1) st3 ∧ (∀ a o, st'.I a = some o → st3.I a = some o) ∧ Ok G (c.re I) ⟨st3.m, st3.I, Wi' ++ st3.W⟩ s3) (fun _ _ => False) s')
    (hJ : ∀ i (st' : St) I', J i st' → (∀ a o, st'.I a = some o → I' a = some o) → J i ⟨st'.m, I', st'.W⟩)
    (done : ∀ st' s', J p.xs.length st' → Ok G (c.re I) st' s' → R (.ok .next) s') :
    codeAny (model G.prog G.w) A (.forLoop (.Tuple [.Name xi pi, .Tuple [.Name xa pa, .Name xb pb] k2 p2] k1 p1) (.ref e) body [] c.env) R s := by
  have wrN : ∀ b ∈ [p.z, p.TI, p.TO, p.i1, p.i2, p.l1, p.l2], b ∈ [e, p.z, p.TI, p.TO, p.i1, p.i2] ∨ ∃ o, I b = some o := fun b hb => by
    simp only [List.mem_cons, List.not_mem_nil, or_false] at hb ⊢
    rcases hb with rfl | rfl | rfl | rfl | rfl | rfl | rfl
    · exact .inl (.inr (.inl rfl))
    · exact .inl (.inr (.inr (.inl rfl)))
    · exact .inl (.inr (.inr (.inr (.inl rfl))))
    · exact .inl (.inr (.inr (.inr (.inr (.inl rfl)))))
    · exact .inl (.inr (.inr (.inr (.inr (.inr rfl)))))
    · exact .inr ⟨_, hl1⟩
    · exact .inr ⟨_, hl2⟩
  refine codeAny_forLoop_any (LoopE G (c.re I) p e [e, p.z, p.TI, p.TO, p.i1, p.i2] J) ?_ (p.xs.length + 1)
    ⟨0, ⟨m, I, W0⟩, Wi, rfl, Nat.zero_le _, ⟨_, he⟩, hZ.keep (fun _ _ _ e => e) (fun _ h => h.elim), j0, hWi, O.re⟩
  rintro k s' ⟨i, st', Wi', rfl, hi, ⟨old, he'⟩, Z, hj, hw, O'⟩
  have hL : ∀ T, (∃ o, st'.I T = some o) → ∃ o, s'.heap.get? T = some o := fun T ⟨o, ho⟩ => ⟨o, O'.im _ _ ho⟩
  by_cases hlt : i < p.xs.length
  · have hx : p.xs[i]? = some p.xs[i] := by simp [hlt]
    have hy : p.ys[i]? = some (p.ys[i]'(hn ▸ hlt)) := by simp [hn ▸ hlt]
    refine enum_item he' (next_zip (A := A.in1) D Z hL hx hy fun h1 hZ1 hT1 hsz1 hk1 => ?_)
    have ez : ∀ b ∈ [p.z, p.TI, p.TO, p.i1, p.i2, p.l1, p.l2], e ≠ b := fun b hb q => hez (q ▸ hb)
    refine ⟨hk1 _ _ (ez p.z (by simp)) (ez p.TO (by simp)) (ez p.i1 (by simp)) (ez p.i2 (by simp)) he', fun h2 tk hout hT2 hsz2 hk2 => ?_⟩
    dsimp only at hout hT2 hsz2 hk2 ⊢
    refine wpAny_letOwnedTupleGo_enum hout fun h3 he3 hs3 => ?_
    dsimp only at hs3 ⊢
    have eL : e < s'.heap.objs.size := Heap.lt_size he'
    have up : ∀ b o, b ∉ [e, p.z, p.TI, p.TO, p.i1, p.i2] → s'.heap.get? b = some o → h3.get? b = some o := fun b o hb q => by
      simp only [List.mem_cons, List.not_mem_nil, or_false, not_or] at hb
      exact hs3.extBut _ _ hb.1 (hk2 _ _ hb.1 (hk1 _ _ hb.2.1 hb.2.2.2.1 hb.2.2.2.2.1 hb.2.2.2.2.2 q))
    have up1 : ∀ b o, b ≠ e → h1.get? b = some o → h3.get? b = some o := fun b o hb q => hs3.extBut _ _ hb (hk2 _ _ hb q)
    have Z1 := hZ1 (fun T => (∃ o, st'.I T = some o) ∨ T = s'.heap.objs.size) (fun T h => .inl h) (.inr rfl)
    have live : ∀ b ∈ [e, p.z, p.TI, p.TO, p.i1, p.i2], ∃ o, h3.get? b = some o := fun b hb => by
      rcases List.mem_cons.mp hb with rfl | hb
      · exact ⟨_, he3⟩
      obtain ⟨⟨hTI, ⟨a, b', hTO⟩, ⟨o1, q1, _⟩, ⟨o2, q2, _⟩, _, _⟩, hz⟩ := Z1
      have hz' : ∃ o, h1.get? p.z = some o := by
        rcases hz with ⟨_, hz⟩ | ⟨T, b, hz, _⟩
        · exact ⟨_, hz⟩
        · exact ⟨_, hz⟩
      obtain ⟨oz, hz'⟩ := hz'
      simp only [List.mem_cons, List.not_mem_nil, or_false] at hb
      rcases hb with rfl | rfl | rfl | rfl | rfl
      · exact ⟨_, up1 _ _ (Ne.symm (ez _ (by simp))) hz'⟩
      · exact ⟨_, up1 _ _ (Ne.symm (ez _ (by simp))) hTI⟩
      · exact ⟨_, up1 _ _ (Ne.symm (ez _ (by simp))) hTO⟩
      · exact ⟨_, up1 _ _ (Ne.symm (ez _ (by simp))) q1⟩
      · exact ⟨_, up1 _ _ (Ne.symm (ez _ (by simp))) q2⟩
    obtain ⟨Wi2, hw2, O2⟩ := Ok.iter (st' := st') (s'' := { s' with heap := h3, toks := tk + 1 }) O' hw live up rfl rfl
    have adr : ∀ r ∈ Wi2 ++ st'.W, ∃ q ∈ Wi' ++ st'.W, q.1 = r.1 := fun r hp => by
      rcases List.mem_append.mp hp with hp | hp
      · have : r.1 ∈ Wi'.map Prod.fst := by rw [hw, ← hw2]; exact List.mem_map.mpr ⟨r, hp, rfl⟩
        obtain ⟨q, hq, e⟩ := List.mem_map.mp this
        exact ⟨q, List.mem_append_left _ hq, e⟩
      · exact ⟨r, List.mem_append_right _ hp, rfl⟩
    have nT1 : s'.heap.get? s'.heap.objs.size = none := size_free _
    have gT1 : h3.get? s'.heap.objs.size = some (tup [p.xs[i], p.ys[i]'(hn ▸ hlt)]) := up1 _ _ (Nat.ne_of_gt eL) hT1
    have O3 := (Ok.add O' nT1 O2 adr gT1).fix
    have gT2 : h3.get? h1.objs.size = some (tup [.int i tk, .ref s'.heap.objs.size]) := hs3.extBut _ _ (Nat.ne_of_gt (Nat.lt_of_lt_of_le eL (by rw [hsz1]; exact Nat.le_succ _))) hT2
    refine r_unpack (c := c.re I) O3 gT2 hh (by rfl) (by rfl) fun s4 O4 => ?_
    have ns1 : ∀ a o, st'.I a = some o → (fun a => if a = s'.heap.objs.size then some (tup [p.xs[i], p.ys[i]'(hn ▸ hlt)]) else st'.I a) a = some o := fun a o h => by
      have : a ≠ s'.heap.objs.size := fun q => by have := O'.im _ _ h; rw [q, nT1] at this; cases this
      show (if a = _ then _ else _) = _
      rw [if_neg this]; exact h
    refine assignInOrder_cons (wpAny_assign_Name (r_store (c := c.re I) (l := []) (m := st'.m) O4 hxi fun s5 O5 => ?_))
    refine assignInOrder_cons ?_
    refine r_unpack (x1 := k2) (c := c.re I) O5 (O5.im _ _ (if_pos rfl)) hh (by rfl) (by rfl) fun s6 O6 => ?_
    refine assignInOrder_cons (wpAny_assign_Name (r_store (c := c.re I) O6 hxa fun s7 O7 => ?_))
    refine assignInOrder_cons (wpAny_assign_Name (r_store (c := c.re I) O7 hxb fun s8 O8 => ?_))
    refine assignInOrder_nil (assignInOrder_nil ?_)
    refine wpAny_mono (turn i _ _ tk ⟨st'.m, _, st'.W⟩ Wi2 s8 hx hy (hJ i st' _ hj ns1) O8) (fun f s9 hf => ?_) fun _ _ h => h.elim
    obtain ⟨rfl, st3, hj3, hs3', O9⟩ := hf
    have keep : ∀ b ∈ [e, p.z, p.TI, p.TO, p.i1, p.i2], ∀ o, h3.get? b = some o → s9.heap.get? b = some o := fun b hb o q => by
      rw [← hw2] at hb
      obtain ⟨r, hp, rfl⟩ := List.mem_map.mp hb
      have e1 : h3.get? r.1 = some r.2 := O2.wr r (List.mem_append_left _ hp)
      rw [q] at e1; cases e1
      exact O9.wr r (List.mem_append_left _ hp)
    refine ⟨p.xs.length + 1 - (i + 1), lt_dec (Nat.lt_succ_of_lt hlt), i + 1, st3, Wi2, rfl, hlt, ⟨_, keep e (.head _) _ he3⟩, ?_, hj3, hw2, O9⟩
    refine Z1.keep (fun b hb o q => ?_) fun T hT => ?_
    · have q3 := up1 _ _ (Ne.symm (ez b hb)) q
      rcases wrN b hb with hb' | ⟨o', ho'⟩
      · exact keep b hb' o q3
      · have e3 : h3.get? b = some o' := O2.im _ _ (O2.sub _ _ ho')
        rw [q3] at e3; cases e3
        exact O9.im _ _ (O9.sub _ _ ho')
    · rcases hT with ⟨o, ho⟩ | rfl
      · exact ⟨o, hs3' _ _ (ns1 _ _ ho)⟩
      · exact ⟨_, hs3' _ _ (if_pos rfl)⟩
  · have hin : i = p.xs.length := by lia
    subst hin
    have ez : ∀ b ∈ [p.z, p.TI, p.TO, p.i1, p.i2, p.l1, p.l2], e ≠ b := fun b hb q => hez (q ▸ hb)
    refine enum_end he' fun Q' => end_zip (A := A.in1) (i := p.xs.length) hh D Z hL (by simp) fun h' a hk ha => ⟨a, rfl, ha, wpAny_execs_nil ?_⟩
    have O2 := Ok.dropWi (s' := { s' with heap := h' }) O' hw hw0 (fun b o hb q => by
      simp only [List.mem_cons, List.not_mem_nil, or_false, not_or] at hb
      exact hk _ _ hb.2.1 hb.2.2.2.1 hb.2.2.2.2.1 hb.2.2.2.2.2 q) rfl rfl
    exact done st' _ hj O2
end
section
open PySem.Builtin
variable {G : Base} {c : Fm} {st : St} {s : Shared} {A : Around} {E : VP}
theorem Ok.add2 {m0 m : Mp} {I : Hp} {W0 W : Ws} {s0 : Shared} {x : Addr} {o : Obj} (O0 : Ok G c ⟨m0, I, W0⟩ s0) (n : s0.heap.get? x = none) (O : Ok G c ⟨m, I, W⟩ s) (nW : ∀ p ∈ W, p.1 ≠ x) (hx : s.heap.get? x = some o) :
    Ok G c ⟨m, I, (x, o) :: W⟩ s :=
  { O with
    wr := fun p hp => by rcases List.mem_cons.mp hp with rfl | hp; exact hx; exact O.wr p hp
    wI := fun p hp => by
      rcases List.mem_cons.mp hp with rfl | hp
      · cases q : I x with
        | none => exact q
        | some ob => have := O0.im _ _ q; rw [n] at this; cases this
      · exact O.wI p hp
    nd := by
      show (x :: W.map Prod.fst).Nodup
      refine List.nodup_cons.mpr ⟨fun h => ?_, O.nd⟩
      obtain ⟨p, hp, e⟩ := List.mem_map.mp h
      exact nW p hp e
    LW := fun p hp => by
      rcases List.mem_cons.mp hp with rfl | hp
      · rintro rfl
        obtain ⟨ob, _, _, h, _⟩ := O0.ns
        rw [n] at h; cases h
      · exact O.LW p hp
    fI := fun y hy => ⟨(O.fI y hy).1, fun p hp => by
      rcases List.mem_cons.mp hp with rfl | hp
      · rintro rfl
        obtain ⟨e, he, hf⟩ := List.mem_filterMap.mp hy
        obtain ⟨_, L, ob, _, _, h2, h3, _⟩ := O0.ff e he
        rw [hf] at h2; cases h2; rw [n] at h3; cases h3
      · exact (O.fI y hy).2 p hp⟩
    xW := fun p hp => by rcases List.mem_cons.mp hp with rfl | hp; exact O0.size_none _ n; exact O.xW p hp }
theorem Ok.addL {m : Mp} {I : Hp} {W : Ws} {s0 : Shared} (O0 : Ok G c ⟨m, I, W⟩ s0) (k : ∀ a o, s0.heap.get? a = some o → s.heap.get? a = some o) (hg : s.gens = s0.gens) (ho : s.os = s0.os) : ∀ {N : Ws},
    (∀ p ∈ N, s0.heap.get? p.1 = none) → (∀ p ∈ N, s.heap.get? p.1 = some p.2) → (N.map Prod.fst).Nodup → Ok G c ⟨m, I, N ++ W⟩ s
  | [], _, _, _ => O0.grown k hg ho
  | (x, o) :: N, n, h, nd => by
    have nd' := List.nodup_cons.mp nd
    refine Ok.add2 O0 (n _ (.head _)) (Ok.addL O0 k hg ho (N := N) (fun p hp => n p (.tail _ hp)) (fun p hp => h p (.tail _ hp)) nd'.2) (fun p hp e => ?_) (h _ (.head _))
    rcases List.mem_append.mp hp with hp | hp
    · exact nd'.1 (List.mem_map.mpr ⟨p, hp, e⟩)
    · have := O0.wr p hp
      rw [e] at this
      have n0 : s0.heap.get? x = none := n (x, o) (.head _)
      rw [n0] at this; cases this
theorem call_zipS {prog : Program} {w : World} {l1 l2 : Addr} {k1 k2 : Bool} {xs ys : List Value} {n1 n2 : Nat} {Q : VP} (hl1 : s.heap.get? l1 = some (sqO k1 xs n1)) (hl2 : s.heap.get? l2 = some (sqO k2 ys n2))
    (h : ∀ h', IsZip h' (s.heap.objs.size + 4) (s.heap.objs.size + 2) (s.heap.objs.size + 3) .none → IsPair h' (s.heap.objs.size + 2) (.ref s.heap.objs.size) (.ref (s.heap.objs.size + 1)) →
      IsPair h' (s.heap.objs.size + 3) .none .none → SqIt h' s.heap.objs.size l1 k1 0 → SqIt h' (s.heap.objs.size + 1) l2 k2 0 →
      (∀ c o, s.heap.get? c = some o → h'.get? c = some o) → Q (.ref (s.heap.objs.size + 4)) { s with heap := h' }) :
    wpAny (model prog w) A (call (.type "zip") [.ref l1, .ref l2]) Q E s := by
  refine callType_new PySem.F.called_zip (by decide) (PySem.F.typeCall_zip_2 _ _) (PySem.F.newCall_zip_2 _ _) (fun obj => PySem.F.args_object_init_3 obj _ _) PySem.F.entry_zip_new
    (meets_zipS l1 l2 k1 k2 xs ys n1 n2) ⟨hl1, hl2, ?_⟩
  have up : ∀ {h : Heap} {o o' : Obj} {c : Addr}, h.get? c = some o → (h.push o').get? c = some o := fun e => Heap.get?_push_of_some _ e
  have z1 : (s.heap.push (itO k1 l1 0)).objs.size = s.heap.objs.size + 1 := Heap.size_push ..
  generalize h1e : s.heap.push (itO k1 l1 0) = h1 at z1 ⊢
  have g1 : h1.get? s.heap.objs.size = some (itO k1 l1 0) := h1e ▸ Heap.get?_push_size _ rfl
  have k1' : ∀ c o, s.heap.get? c = some o → h1.get? c = some o := fun c o e => h1e ▸ up e
  have z2 : (h1.push (itO k2 l2 0)).objs.size = s.heap.objs.size + 2 := by rw [Heap.size_push, z1]
  generalize h2e : h1.push (itO k2 l2 0) = h2 at z2 ⊢
  have g2 : h2.get? (s.heap.objs.size + 1) = some (itO k2 l2 0) := by rw [← h2e, ← z1]; exact Heap.get?_push_size _ rfl
  have k2' : ∀ c o, h1.get? c = some o → h2.get? c = some o := fun c o e => h2e ▸ up e
  generalize h3e : h2.push (tup [.ref s.heap.objs.size, .ref (s.heap.objs.size + 1)]) = h3
  have z3 : h3.objs.size = s.heap.objs.size + 3 := by rw [← h3e, Heap.size_push, z2]
  have g3 : h3.get? (s.heap.objs.size + 2) = some (tup [.ref s.heap.objs.size, .ref (s.heap.objs.size + 1)]) := by rw [← h3e, ← z2]; exact Heap.get?_push_size _ rfl
  have k3' : ∀ c o, h2.get? c = some o → h3.get? c = some o := fun c o e => h3e ▸ up e
  generalize h4e : h3.push (tup [.none, .none]) = h4
  have z4 : h4.objs.size = s.heap.objs.size + 4 := by rw [← h4e, Heap.size_push, z3]
  have g4 : h4.get? (s.heap.objs.size + 3) = some (tup [.none, .none]) := by rw [← h4e, ← z3]; exact Heap.get?_push_size _ rfl
  have k4' : ∀ c o, h3.get? c = some o → h4.get? c = some o := fun c o e => h4e ▸ up e
  have g5 := Heap.get?_push_size h4 (o := { cls := .type "zip", data := .fields #[.none, .bool false, .bool false, .ref (s.heap.objs.size + 2), .ref (s.heap.objs.size + 3)] }) rfl
  rw [z4] at g5
  show _ ∧ _
  exact ⟨⟨_, g5, rfl⟩, h _ g5 (up (k4' _ _ g3)) (up g4) ⟨_, up (k4' _ _ (k3' _ _ (k2' _ _ g1))), rfl, rfl⟩ ⟨_, up (k4' _ _ (k3' _ _ g2)), rfl, rfl⟩ fun c o e => up (k4' _ _ (k3' _ _ (k2' _ _ (k1' _ _ e))))⟩
theorem r_zip {l1 l2 : Addr} {k1 k2 : Bool} {xs ys : List Value} {n1 n2 : Nat} {m : Mp} {I : Hp} {W : Ws} {Q : VP} (O : Ok G c ⟨m, I, W⟩ s) (h1 : I l1 = some (sqO k1 xs n1)) (h2 : I l2 = some (sqO k2 ys n2))
    (h : ∀ z TI TO i1 i2 (Wi : Ws) s', ZP.ap ⟨z, TI, TO, i1, i2, l1, l2, k1, k2, xs, ys, n1, n2⟩ → Wi.map Prod.fst = [z, TI, TO, i1, i2] → (∀ b ∈ [z, TI, TO, i1, i2], b ∉ c.W0) → Ok G c ⟨m, I, Wi ++ W⟩ s' → IsZip s'.heap z TI TO .none → ZP.At ⟨z, TI, TO, i1, i2, l1, l2, k1, k2, xs, ys, n1, n2⟩ 0 s'.heap → Q (.ref z) s') :
    wpAny (model G.prog G.w) A (call (.type "zip") [.ref l1, .ref l2]) Q E s := by
  have e1 := O.im _ _ h1
  have e2 := O.im _ _ h2
  refine call_zipS e1 e2 fun h' hz hTI hTO hi1 hi2 hk => ?_
  have lt1 := Heap.lt_size e1
  have lt2 := Heap.lt_size e2
  have ff : ∀ k, s.heap.get? (s.heap.objs.size + k) = none := fun k => Heap.get?_none_of_le (Nat.le_add_right _ _)
  have f0 : ∀ k, s.heap.objs.size + k ∉ c.W0 := fun k hm => O.w0 _ hm (ff k)
  generalize hn : s.heap.objs.size = n at *
  obtain ⟨o1, q1, r1⟩ := hi1
  obtain ⟨o2, q2, r2⟩ := hi2
  have D : ZipApart (n + 4) (n + 2) (n + 3) n (n + 1) l1 l2 := by
    have lt1' : (l1 : Nat) < n := lt1
    have lt2' : (l2 : Nat) < n := lt2
    constructor <;> first | (intro q; have q' : @Eq Nat _ _ := q; lia) | skip
    all_goals first | exact Nat.ne_of_lt (Nat.lt_add_right _ lt1) | exact Nat.ne_of_lt lt1 | exact Nat.ne_of_lt (Nat.lt_add_right _ lt2) | exact Nat.ne_of_lt lt2
  have O2 := Ok.addL (s := { s with heap := h' }) O hk rfl rfl (N := [(n + 4, ({ cls := .type "zip", dict := none, data := .fields #[.none, .bool false, .bool false, .ref (n + 2), .ref (n + 3)], slots := #[] } : Obj)), (n + 2, ({ cls := .type "tuple", data := .seq #[.ref n, .ref (n + 1)] } : Obj)), (n + 3, ({ cls := .type "tuple", data := .seq #[.none, .none] } : Obj)), (n, o1), (n + 1, o2)]) (fun p hp => ?_) (fun p hp => ?_) (by simp)
  · refine h _ _ _ _ _ _ { s with heap := h' } D rfl (fun b hb => ?_) O2 hz ⟨hTI, ⟨_, _, hTO⟩, ⟨_, q1, r1⟩, ⟨_, q2, r2⟩, O2.im _ _ h1, O2.im _ _ h2⟩
    simp only [List.mem_cons, List.not_mem_nil, or_false] at hb
    rcases hb with rfl | rfl | rfl | rfl | rfl
    · exact f0 4
    · exact f0 2
    · exact f0 3
    · exact f0 0
    · exact f0 1
  · simp only [List.mem_cons, List.not_mem_nil, or_false] at hp
    rcases hp with rfl | rfl | rfl | rfl | rfl
    · exact ff 4
    · exact ff 2
    · exact ff 3
    · exact ff 0
    · exact ff 1
  · simp only [List.mem_cons, List.not_mem_nil, or_false] at hp
    rcases hp with rfl | rfl | rfl | rfl | rfl
    · exact hz
    · exact hTI
    · exact hTO
    · exact q1
    · exact q2
theorem r_enumZ {z TI TO : Addr} {v : Value} {m : Mp} {I : Hp} {W : Ws} {Q : VP} (O : Ok G c ⟨m, I, W⟩ s) (hz : IsZip s.heap z TI TO v)
    (h : ∀ e eo s', s.heap.get? e = none → e ∉ c.W0 → Ok G c ⟨m, I, (e, eo) :: W⟩ s' → IsEnum s'.heap e z 0 .none → (∀ b o, s.heap.get? b = some o → s'.heap.get? b = some o) → Q (.ref e) s') :
    wpAny (model G.prog G.w) A (call (.type "enumerate") [.ref z]) Q E s := by
  refine call_enumerate_zip hz ?_
  have hf := size_free s.heap
  have k : ∀ b o, s.heap.get? b = some o → (s.heap.push { cls := .type "enumerate", data := .fields #[.none, .bool false, .ref z, rawInt 0, .none, .none] }).get? b = some o := fun b o e => Heap.get?_push_of_some _ e
  have O₂ := O.own (s' := { s with heap := s.heap.push { cls := .type "enumerate", data := .fields #[.none, .bool false, .ref z, rawInt 0, .none, .none] } }) k hf (Heap.get?_push_size _ rfl) rfl rfl
  exact h _ _ _ hf (off_fresh O hf).2.2.2 O₂ (Heap.get?_push_size _ rfl) k
end
section
open PySem.Builtin
noncomputable abbrev baO (x : List UInt8) : Obj := { cls := .type "bytearray", data := .bytearray x.toArray 0 }
inductive Bv (h : Hp) : Value → List UInt8 → Prop
  | b (x : List UInt8) (t : Tok) : Bv h (.bytes x.toArray t) x
  | a {a : Addr} {x : List UInt8} : h a = some (baO x) → Bv h (.ref a) x
theorem Bv.mono {h h' : Hp} {v : Value} {x : List UInt8} (b : Bv h v x) (k : ∀ a o, h a = some o → h' a = some o) : Bv h' v x := by
  cases b with
  | b => exact .b ..
  | a e => exact .a (k _ _ e)
namespace BA
theorem look_buffer : typeLookup (.type "bytearray") "__buffer__" = pure (some (.builtin "bytearray.__buffer__")) := by rw [typeLookup_type, builtinLookup_eq_fast]; kernel_rfl
theorem look_release : typeLookup (.type "bytearray") "__release_buffer__" = pure (some (.builtin "bytearray.__release_buffer__")) := by rw [typeLookup_type, builtinLookup_eq_fast]; kernel_rfl
theorem sub : isSubtype (.type "bytearray") (.type "bytearray") = pure true := by rw [isSubtype_type]; kernel_rfl
section
variable {prog : Program} {w : World} {A : Around} {E : VP} {s : Shared} {a : Addr} {x : List UInt8}
theorem ty (e : s.heap.get? a = some (baO x)) : s.TypeIs (.ref a) "bytearray" := ⟨_, e, rfl⟩
theorem own {n : String} {Q : Bool → Shared → Prop} (e : s.heap.get? a = some (baO x)) (hl : typeLookup (.type "bytearray") (n : Str) = pure (some (.builtin ("bytearray." ++ n)))) (h1 : ("bytearray." ++ n).endsWith ("." ++ n) = true) (h2 : ("bytearray." ++ n).dropRight (n.length + 1) = "bytearray") (h : Q true s) :
    wpAny (model prog w) A (Bytes.slotIsOwn (.ref a) n) Q E s := by
  unfold Bytes.slotIsOwn
  refine wpAny_bind (wpAny_specialOf (ty e) hl ?_)
  dsimp only
  rw [h1, h2]
  exact wpAny_isInstance (ty e) sub h
theorem payload {Q : Array UInt8 → Shared → Prop} (e : s.heap.get? a = some (baO x)) (h : Q x.toArray s) : wpAny (model prog w) A (Bytes.payload (.ref a)) Q E s := by
  unfold Bytes.payload Bytes.payload?
  exact wpAny_bind (wpAny_bind (wpAny_load e (wpAny_pure (wpAny_pure h))))
theorem buffer {id : String} {full : Bool} {Q : Option (Array UInt8) → Shared → Prop} (e : s.heap.get? a = some (baO x)) (h : Q (some x.toArray) s) : wpAny (model prog w) A (Bytes.buffer? id (.ref a) full) Q E s := by
  unfold Bytes.buffer?
  refine wpAny_bind (wpAny_specialOf (ty e) look_buffer ?_)
  dsimp only
  refine wpAny_bind (own (n := "__buffer__") e look_buffer (by decide +kernel) (by decide +kernel) ?_)
  rw [if_neg (by simp)]
  refine wpAny_bind (wpAny_specialOf (ty e) look_buffer ?_)
  show wpAny (model prog w) A (Bytes.ownRelease (.ref a) >>= _) Q E s
  refine wpAny_bind ?_
  unfold Bytes.ownRelease
  refine wpAny_bind (own (n := "__release_buffer__") e look_release (by decide +kernel) (by decide +kernel) (wpAny_pure ?_))
  rw [if_neg (by simp)]
  exact wpAny_bind (payload e (wpAny_pure h))
theorem take {id : String} {v : Value} {Q : Option (Array UInt8 × Option Value) → Shared → Prop} (b : Bv s.heap.get? v x) (h : Q (some (x.toArray, none)) s) : wpAny (model prog w) A (Bytes.takeBufferQuiet? id v 0) Q E s := by
  cases b with
  | b x t =>
    have e : Bytes.takeBuffer? id (.bytes x.toArray t) 0 = pure (some (x.toArray, none)) := by
      unfold Bytes.takeBuffer?
      rw [KBy.special_eq KBy.look_buffer, KBy.own_buffer, show (0 == Bytes.fullReadOnly) = false by decide +kernel, KBy.buffer_eq]
      rfl
    unfold Bytes.takeBufferQuiet?
    rw [e]; exact wpAny_pure h
  | a e =>
    unfold Bytes.takeBufferQuiet?
    refine wpAny_bind (wpAny_attempt ?_)
    unfold Bytes.takeBuffer?
    refine wpAny_bind (wpAny_specialOf (ty e) look_buffer ?_)
    dsimp only
    refine wpAny_bind (own (n := "__buffer__") e look_buffer (by decide +kernel) (by decide +kernel) ?_)
    rw [if_neg (by simp)]
    refine wpAny_bind (wpAny_specialOf (ty e) look_buffer ?_)
    show wpAny (model prog w) A (Bytes.buffer? id _ _ >>= _) _ _ _
    exact wpAny_bind (buffer e (wpAny_pure (wpAny_pure h)))
theorem special {v : Value} {Q : Option Value → Shared → Prop} (b : Bv s.heap.get? v x) (h : ∀ id, Q (some (.builtin id)) s) : wpAny (model prog w) A (specialOf v "__buffer__") Q E s := by
  cases b with
  | b x t => rw [KBy.special_eq KBy.look_buffer]; exact wpAny_pure (h _)
  | a e => exact wpAny_specialOf (ty e) look_buffer (h _)
end
end BA
end
section
section
variable {prog : Program} {w : World} {A : Around} {E : VP} {s : Shared} {env : Env}
end
section
variable {prog : Program} {w : World} {A : Around} {E : VP} {s : Shared} {K : Frag} {C x : Addr} {ox : Obj} {od : Option Obj} {name : PySem.Str} {expr : Bool} {Q : VP}
end
variable {G : Base} {c : Fm} {st : St} {s : Shared} {A : Around} {E : VP}
end
section
open PySem.Builtin
namespace BA
theorem owner_ba : Manifest.owners.lookup (String.ofList ['y', 'a', 'r', 'r', 'a', 'e', 't', 'y', 'b'].reverse) = some Manifest.sig_bytearray := by kernel_rfl
theorem slot_len : Slot "bytearray" "__len__" "bytearray.__len__" :=
  .of (owner := "bytearray") (n := "__len__") (by rw [typeLookup_type, builtinLookup_eq_fast]; kernel_rfl) (by decide +kernel) (by decide +kernel) (by decide +kernel)
    (by first | exact .inl (by decide +kernel) | exact .inr (by decide +kernel)) (by rw [isSubtype_type]; kernel_rfl)
theorem entry_len : entryFor table "bytearray.__len__" = some Builtin.«bytearray.__len__» := entryFor_of_tree (by kernel_rfl)
theorem args_len (a : Value) : argsOk "bytearray.__len__" ⟨[a], []⟩ := by
  unfold argsOk; rw [signature?_of (id := "bytearray.__len__") (n := ['_', '_', 'n', 'e', 'l', '_', '_']) (o := ['y', 'a', 'r', 'r', 'a', 'e', 't', 'y', 'b']) (by kernel_rfl) owner_ba]; kernel_rfl
theorem slot_getitem : Slot "bytearray" "__getitem__" "bytearray.__getitem__" :=
  .of (owner := "bytearray") (n := "__getitem__") (by rw [typeLookup_type, builtinLookup_eq_fast]; kernel_rfl) (by decide +kernel) (by decide +kernel) (by decide +kernel)
    (by first | exact .inl (by decide +kernel) | exact .inr (by decide +kernel)) (by rw [isSubtype_type]; kernel_rfl)
theorem entry_getitem : entryFor table "bytearray.__getitem__" = some Builtin.«bytearray.__getitem__» := entryFor_of_tree (by kernel_rfl)
theorem args_getitem (a b : Value) : argsOk "bytearray.__getitem__" ⟨[a, b], []⟩ := by
  unfold argsOk; rw [signature?_of (id := "bytearray.__getitem__") (n := ['_', '_', 'm', 'e', 't', 'i', 't', 'e', 'g', '_', '_']) (o := ['y', 'a', 'r', 'r', 'a', 'e', 't', 'y', 'b']) (by kernel_rfl) owner_ba]; kernel_rfl
theorem slot_eq : Slot "bytearray" (cmpInfo .Eq).2.1 "bytearray.__eq__" :=
  .of (owner := "bytearray") (n := "__eq__") (by rw [typeLookup_type, builtinLookup_eq_fast]; kernel_rfl) (by decide +kernel) (by decide +kernel) (by decide +kernel)
    (by first | exact .inl (by decide +kernel) | exact .inr (by decide +kernel)) (by rw [isSubtype_type]; kernel_rfl)
theorem entry_eq : entryFor table "bytearray.__eq__" = some Builtin.«bytearray.__eq__» := entryFor_of_tree (by kernel_rfl)
theorem args_eq (a b : Value) : argsOk "bytearray.__eq__" ⟨[a, b], []⟩ := by
  unfold argsOk; rw [signature?_of (id := "bytearray.__eq__") (n := ['_', '_', 'q', 'e', '_', '_']) (o := ['y', 'a', 'r', 'r', 'a', 'e', 't', 'y', 'b']) (by kernel_rfl) owner_ba]; kernel_rfl
theorem slot_ne : Slot "bytearray" (cmpInfo .NotEq).2.1 "bytearray.__ne__" :=
  .of (owner := "bytearray") (n := "__ne__") (by rw [typeLookup_type, builtinLookup_eq_fast]; kernel_rfl) (by decide +kernel) (by decide +kernel) (by decide +kernel)
    (by first | exact .inl (by decide +kernel) | exact .inr (by decide +kernel)) (by rw [isSubtype_type]; kernel_rfl)
theorem entry_ne : entryFor table "bytearray.__ne__" = some Builtin.«bytearray.__ne__» := entryFor_of_tree (by kernel_rfl)
theorem args_ne (a b : Value) : argsOk "bytearray.__ne__" ⟨[a, b], []⟩ := by
  unfold argsOk; rw [signature?_of (id := "bytearray.__ne__") (n := ['_', '_', 'e', 'n', '_', '_']) (o := ['y', 'a', 'r', 'r', 'a', 'e', 't', 'y', 'b']) (by kernel_rfl) owner_ba]; kernel_rfl
theorem slot_ga : Slot "bytearray" "__getattribute__" "bytearray.__getattribute__" :=
  .of (owner := "bytearray") (n := "__getattribute__") (by rw [typeLookup_type, builtinLookup_eq_fast]; kernel_rfl) (by decide +kernel) (by decide +kernel) (by decide +kernel)
    (by first | exact .inl (by decide +kernel) | exact .inr (by decide +kernel)) (by rw [isSubtype_type]; kernel_rfl)
theorem args_ga (a b : Value) : argsOk "bytearray.__getattribute__" ⟨[a, b], []⟩ := by
  unfold argsOk; rw [signature?_of (id := "bytearray.__getattribute__") (n := ['_', '_', 'e', 't', 'u', 'b', 'i', 'r', 't', 't', 'a', 't', 'e', 'g', '_', '_']) (o := ['y', 'a', 'r', 'r', 'a', 'e', 't', 'y', 'b']) (by kernel_rfl) owner_ba]; kernel_rfl
theorem entry_ga : entryFor table "bytearray.__getattribute__" = some Builtin.«object.__getattribute__» :=
  entryFor_alias (id' := "object.__getattribute__") (by kernel_rfl) (by first | rfl | decide +kernel) (by decide +kernel) (by kernel_rfl)
theorem lk_class : typeLookup (.type "bytearray") "__class__" = pure (some (.builtin "object.__class__")) := by rw [typeLookup_type, builtinLookup_eq_fast]; kernel_rfl
theorem sub_owner : isSubtype (.type "bytearray") (.type (".".intercalate ("object.__class__".cutAt '.').dropLast)) = pure true := by
  rw [PySem.F.owner_object_class, isSubtype_type]; kernel_rfl
section
variable {prog : Program} {w : World} {A : Around} {E : VP} {h : Heap} {g : Array GenState} {d : Drawn} {t : Nat} {os : OsState} {a : Addr} {o : Obj}
theorem class_get {R : Result → Shared → Prop} (hx : h.get? a = some o) (hc : o.cls = .type "bytearray") (hq : R (.ok (.ret (.type "bytearray"))) ⟨h, g, d, t, os⟩) :
    codeAny (model prog w) A (.call (.builtin "getset_descriptor.__get__") ⟨[.builtin "object.__class__", .ref a, .type "bytearray"], []⟩) R ⟨h, g, d, t, os⟩ := by
  have hT : (⟨h, g, d, t, os⟩ : Shared).TypeIs (.ref a) "bytearray" := ⟨_, hx, hc⟩
  have hT5 : (⟨h, g, d, t, os⟩ : Shared).TypeIs (.builtin "object.__class__") "getset_descriptor" := PySem.F.typeOf_object_class
  have f8 := sub_owner
  refine codeAny_call_builtin PySem.F.slot_gs_get.plain PySem.F.entry_gs_get (PySem.F.slot_gs_get.check _ _ _ _ _ _ _ _ hT5 (PySem.F.args_gs_get _ _ _) ?_)
  repeat (any_goals (first | assumption | wp_step))
  refine ⟨Code.quiet_builtin _ (by decide +kernel), codeAny_builtin PySem.F.entry_object_class ?_⟩
  repeat (any_goals (first | assumption | wp_step))
theorem class_entry {tk : Tok} {Q : PySem.Fin → Shared → Prop} (hx : h.get? a = some o) (hc : o.cls = .type "bytearray") (hq : Q (.done (.ret (.type "bytearray"))) ⟨h, g, d, t, os⟩) :
    wpAny (model prog w) A (Builtin.«object.__getattribute__» ⟨[.ref a, .str "__class__" tk], []⟩) Q E ⟨h, g, d, t, os⟩ := by
  have hT : (⟨h, g, d, t, os⟩ : Shared).TypeIs (.ref a) "bytearray" := ⟨_, hx, hc⟩
  have hT5 : (⟨h, g, d, t, os⟩ : Shared).TypeIs (.builtin "object.__class__") "getset_descriptor" := PySem.F.typeOf_object_class
  have f4 := lk_class
  have f5 := PySem.F.typeOf_object_class
  have f6 := PySem.F.slot_gs_get.lookup
  have f7 := PySem.F.slot_gs_set.lookup
  repeat (any_goals (first | assumption | wp_step))
  refine class_get hx hc ?_
  repeat (any_goals (first | assumption | wp_step))
theorem class_call {tk : Tok} {R : Result → Shared → Prop} (hx : h.get? a = some o) (hc : o.cls = .type "bytearray") (hq : R (.ok (.ret (.type "bytearray"))) ⟨h, g, d, t, os⟩) :
    codeAny (model prog w) A (.call (.builtin "bytearray.__getattribute__") ⟨[.ref a, .str "__class__" tk], []⟩) R ⟨h, g, d, t, os⟩ :=
  codeAny_call_builtin slot_ga.plain entry_ga (slot_ga.check _ _ _ _ _ _ _ _ (show (⟨h, g, d, t, os⟩ : Shared).TypeIs (.ref a) "bytearray" from ⟨_, hx, hc⟩) (args_ga _ _) (class_entry hx hc hq))
theorem class_by {tk : Tok} {Q : VP} (hx : h.get? a = some o) (hc : o.cls = .type "bytearray") (hq : Q (.type "bytearray") ⟨h, g, d, t, os⟩) : wpAny (model prog w) A (getAttrBy (.ref a) (.str "__class__" tk) false) Q E ⟨h, g, d, t, os⟩ := by
  have hT : (⟨h, g, d, t, os⟩ : Shared).TypeIs (.ref a) "bytearray" := ⟨_, hx, hc⟩
  have f2 := slot_ga.lookup
  have f3 := slot_ga.bind (.ref a)
  repeat (any_goals (first | assumption | wp_step))
  refine class_call hx hc ?_
  repeat (any_goals (first | assumption | wp_step))
theorem class_attr {Q : Option Value → Shared → Prop} (hx : h.get? a = some o) (hc : o.cls = .type "bytearray") (hq : Q (some (.type "bytearray")) ⟨h, g, d, t + 1, os⟩) : wpAny (model prog w) A (getAttr? (.ref a) "__class__") Q E ⟨h, g, d, t, os⟩ := by
  unfold getAttr? getAttrBy?
  repeat (any_goals (first | assumption | with_reducible apply class_by hx hc | wp_step))
end
theorem kitx {K : Frag} {a : Addr} : KitX K (.ref a) (.type "bytearray") (KitAt a "bytearray") := kitx_of kitAt_ty (fun {_ _ _ _ _ s} p k => by obtain ⟨h, g, d, t, os⟩ := s; obtain ⟨o, h1, h2⟩ := p; exact class_attr h1 h2 k)
section
variable {prog : Program} {w : World} {A : Around} {E : VP} {s : Shared} {a : Addr} {x y : List UInt8} {Q : VP}
theorem len (e : s.heap.get? a = some (baO x)) (hz : x.length ≤ 16777216) (h : ∀ t k, Q (.int x.length t) { s with toks := k }) : wpAny (model prog w) A (call (.builtin "len") [.ref a]) Q E s := by
  refine PyProof.Rows.call_len_slot (n := (x.length : Int)) (ty e) slot_len (fun Q' hq => wpAny_call_entry slot_len (ty e) entry_len ?_ (args_len _)) (by lia) (by lia) (h _ _)
  show wpAny _ _ (Bytes.payload (.ref a) >>= fun r => retInt r.size) _ _ s
  refine wpAny_bind (payload e ?_)
  refine wpAny_bind (wpAny_mkInt (wpAny_pure ⟨_, rfl, ?_⟩))
  simpa using hq
theorem item {i : Int} {u : Tok} (e : s.heap.get? a = some (baO x)) (hz : x.length ≤ 16777216) (h0 : 0 ≤ i) (h1 : i < x.length) (h : ∀ t k, Q (.int ((x.getD i.toNat 0).toNat : Nat) t) { s with toks := k }) : wpAny (model prog w) A (getItem (.ref a) (.int i u)) Q E s := by
  have hr : Bytes.fitsIndex i = true := by simp only [Bytes.fitsIndex, Bool.and_eq_true, decide_eq_true_eq]; lia
  have hx : (seqIndex? i x.toArray.size).bind (x.toArray[·]?) = some (x.getD i.toNat 0) := by
    have hl : i.toNat < x.length := by lia
    have : seqIndex? i x.toArray.size = some i.toNat := by
      have hn : ¬ i < 0 := by lia
      simp [seqIndex?, hn, h0, h1]
    rw [this]; simp [hl]
  refine wpAny_getItem_slot (ty e) (by decide +kernel) slot_getitem (wpAny_call_entry slot_getitem (ty e) entry_getitem ?_ (args_getitem _ _))
  show wpAny (model prog w) A.in1 (Bytes.subscript? (.int i u) >>= fun r => _) _ E s
  refine wpAny_bind ?_
  unfold Bytes.subscript?
  refine wpAny_bind (wpAny_specialOf (typeIs_int s i u) PySem.F.slot_int_index.lookup ?_)
  show wpAny (model prog w) A.in1 (if (!Bytes.fitsIndex i) = true then _ else pure (some i)) _ E s
  rw [hr]
  refine wpAny_pure ?_
  show wpAny (model prog w) A.in1 (Bytes.payload (.ref a) >>= fun b => (match (seqIndex? i b.size).bind (b[·]?) with | some x => retInt x.toNat | none => _)) _ E s
  refine wpAny_bind (payload e ?_)
  rw [hx]
  exact wpAny_bind (wpAny_mkInt (wpAny_pure ⟨_, rfl, h _ _⟩))
end
end BA
namespace BA
theorem noR_add : typeLookup (.type "bytearray") (dunderR "add") = pure none := by rw [typeLookup_type, builtinLookup_eq_fast]; kernel_rfl
theorem look_add : typeLookup (.type "bytearray") (dunder "add") = pure (some (.builtin "bytearray.__add__")) := by rw [typeLookup_type, builtinLookup_eq_fast]; kernel_rfl
theorem noFill_add : fillsNumberSlot (.type "bytearray") "add" = pure false := PySem.fillsNumberSlot_seq (id := "bytearray.__add__") (r := none) look_add (by decide +kernel) noR_add rfl
theorem not_sub : isSubtype (.type "bytes") (.type "bytearray") = pure false := by rw [isSubtype_type]; kernel_rfl
section
variable {prog : Program} {w : World} {A : Around} {E : VP} {s : Shared} {a : Addr} {x y : List UInt8} {u : Tok} {Q : VP}
theorem quiet {id : String} {v : Value} {Q : Option (Array UInt8) → Shared → Prop} (b : Bv s.heap.get? v x) (h : Q (some x.toArray) s) : wpAny (model prog w) A (Bytes.bufferQuiet? id v) Q E s := by
  cases b with
  | b x t => rw [KBy.quiet_eq]; exact wpAny_pure h
  | a e =>
    unfold Bytes.bufferQuiet?
    exact wpAny_bind (wpAny_attempt (buffer e (wpAny_pure h)))
theorem rc {op : CmpOp} {id : String} {B : Builtin} {r : Bool} (hu : A.units < cLine) (e : s.heap.get? a = some (baO x)) (slot : Slot "bytearray" (cmpInfo op).2.1 id) (entry : entryFor table id = some B) (args : ∀ a b, argsOk id ⟨[a, b], []⟩)
    (body : ∀ A' Q', Q' (.done (.ret (.bool r))) s → wpAny (model prog w) A' (B ⟨[.ref a, .bytes y.toArray u], []⟩) Q' E s) (h : Q (.bool r) s) : wpAny (model prog w) A (richCompare op (.ref a) (.bytes y.toArray u)) Q E s := by
  have ha := ty e
  rcases hi : cmpInfo op with ⟨sym, f, r'⟩
  rw [hi] at slot
  simp only [richCompare, hi, ha.oneThing_none]
  try with_reducible refine wpAny_holding ?_
  refine wpAny_bind (wpAny_cRoomFor_or (.inr hu) ?_)
  refine wpAny_bind (wpAny_typeOf ha (wpAny_bind (wpAny_typeOf (typeIs_bytes s y.toArray u) ?_)))
  rw [if_pos (by decide)]
  refine wpAny_bind (wpAny_of_eq not_sub ?_)
  simp only [Bool.false_eq_true, if_false, pure_bind]
  refine wpAny_bind (wpAny_tryCompare_slot ha slot (wpAny_call_entry slot ha entry (body _ _ ⟨_, rfl, by simp, wpAny_pure h⟩) (args _ _)))
theorem ne (hu : A.units < cLine) (e : s.heap.get? a = some (baO x)) (h : Q (.bool (x != y)) s) : wpAny (model prog w) A (compareOp .NotEq (.ref a) (.bytes y.toArray u)) Q E s := by
  refine rc (op := .NotEq) (r := x != y) hu e slot_ne entry_ne args_ne (fun A' Q' hq => ?_) h
  show wpAny (model prog w) A' (Bytes.buffer? s!"bytearray.{"__ne__"}" (.ref a) >>= _) _ _ _
  refine wpAny_bind (buffer e ?_)
  refine wpAny_bind (quiet (.b y u) ?_)
  refine wpAny_pure ?_
  rw [bne, ← order_eq] at hq; exact hq
theorem eq (hu : A.units < cLine) (e : s.heap.get? a = some (baO x)) (h : Q (.bool (x == y)) s) : wpAny (model prog w) A (richCompare .Eq (.ref a) (.bytes y.toArray u)) Q E s := by
  refine rc (op := .Eq) (r := x == y) hu e slot_eq entry_eq args_eq (fun A' Q' hq => ?_) h
  show wpAny (model prog w) A' (Bytes.buffer? s!"bytearray.{"__eq__"}" (.ref a) >>= _) _ _ _
  refine wpAny_bind (buffer e ?_)
  refine wpAny_bind (quiet (.b y u) ?_)
  refine wpAny_pure ?_
  rw [← order_eq] at hq; exact hq
theorem add {v : Value} (b : Bv s.heap.get? v y) (hx : x ≠ []) (hz : x.length + y.length ≤ 16777216) (h : ∀ t k, Q (.bytes (x ++ y).toArray t) { s with toks := k }) : wpAny (model prog w) A (binaryOp .Add (.bytes x.toArray u) v) Q E s := by
  cases b with
  | b y t => exact KBy.add_bytes (by simpa using hz) (by simpa using h)
  | @a a _ e =>
    unfold binaryOp
    refine wpAny_holding ?_
    refine wpAny_bind ?_
    show wpAny _ _ (binaryOp1 "add" _ _) _ _ _
    unfold binaryOp1
    refine wpAny_bind (wpAny_typeOf (typeIs_bytes s x.toArray u) (wpAny_bind (wpAny_typeOf (ty e) (wpAny_bind (wpAny_of_eq KBy.noFill_bytes_add ?_)))))
    rw [if_neg (by decide)]
    refine wpAny_bind (wpAny_of_eq noFill_add ?_)
    refine wpAny_of_eq (a := none) (by with_unfolding_all rfl) ?_
    refine wpAny_bind (wpAny_typeOf (typeIs_bytes s x.toArray u) ?_)
    refine wpAny_bind (wpAny_of_eq KBy.seq_bytes_add ?_)
    refine wpAny_bind (wpAny_rule (wpAny_call_entry FB.slot_bytes_add (typeIs_bytes s x.toArray u) FB.entry_bytes_add ?_ (FB.args_bytes_add_2 _ _)))
    show wpAny _ _ (Bytes.buffer? "bytes.__add__" (.bytes x.toArray u) >>= fun r => _) _ E s
    refine wpAny_bind (wpAny_of_eq KBy.buffer_eq ?_)
    show wpAny _ _ (Bytes.bufferQuiet? "bytes.__add__" (.ref a) >>= fun r => _) _ E s
    refine wpAny_bind (quiet (.a e) ?_)
    show wpAny _ _ (if x.toArray.isEmpty = true then _ else _) _ E s
    rw [if_neg (by simpa using hx)]
    show wpAny _ _ (if y.toArray.isEmpty = true then _ else _) _ E s
    by_cases hc : y.toArray.isEmpty = true
    · rw [if_pos hc]
      refine wpAny_bind (wpAny_typeOf (typeIs_bytes s x.toArray u) ?_)
      have : y = [] := by simpa using hc
      subst this
      refine wpAny_bind (wpAny_rule (wpAny_pure ⟨_, rfl, by simpa using h u s.toks⟩))
    · rw [if_neg hc]
      show wpAny _ _ (if Bytes.tooLong (x.toArray.size + y.toArray.size) = true then _ else _) _ E s
      rw [if_neg (by rw [KBy.tooLong_not (by simpa using hz)]; exact Bool.false_ne_true)]
      refine wpAny_bind (wpAny_mkBytes (wpAny_pure ⟨_, rfl, by simpa using h s.toks (s.toks + 1)⟩) (by rw [Array.size_append, sizeLine_eq]; simpa using hz))
end
end BA
end
section
inductive Th where
  | no
  | n (i : Int)
  | b (x : Bool)
  | o (x : List UInt8)
  | ba (x : List UInt8)
  | sq (k : Bool) (ts : List Th)
mutual
noncomputable def fm : Th → It
  | .no => .s []
  | .n i => .s (bytesOf (be i.toNat))
  | .b x => .s (if x then [1] else [])
  | .o x => .s x
  | .ba x => .s x
  | .sq _ ts => .l (fmL ts)
noncomputable def fmL : List Th → List It
  | [] => []
  | t :: ts => fm t :: fmL ts
end
mutual
noncomputable def okT : Th → Bool
  | .no => false
  | .n i => decide (0 ≤ i)
  | .b _ => true
  | .o _ => true
  | .ba _ => true
  | .sq _ ts => okL ts
noncomputable def okL : List Th → Bool
  | [] => true
  | t :: ts => okT t && okL ts
end
mutual
noncomputable def plT : Th → Bool
  | .no => false
  | .n _ => false
  | .b _ => false
  | .o _ => true
  | .ba _ => true
  | .sq _ ts => plL ts
noncomputable def plL : List Th → Bool
  | [] => true
  | t :: ts => plT t && plL ts
end
mutual
noncomputable def smT : Th → Prop
  | .n i => i.natAbs < 256 ^ 40
  | .sq _ ts => smL ts
  | _ => True
noncomputable def smL : List Th → Prop
  | [] => True
  | t :: ts => smT t ∧ smL ts
end
theorem fmL_len : ∀ ts, (fmL ts).length = ts.length
  | [] => rfl
  | _ :: ts => by rw [fmL, List.length_cons, List.length_cons, fmL_len ts]
theorem fmL_get : ∀ {ts : List Th} {i : Nat} {t : Th}, ts[i]? = some t → (fmL ts)[i]? = some (fm t)
  | _ :: _, 0, _, h => by rw [fmL]; simp at h ⊢; rw [h]
  | _ :: ts, i + 1, _, h => by rw [fmL]; simp at h ⊢; exact fmL_get h
theorem fmL_append : ∀ a b, fmL (a ++ b) = fmL a ++ fmL b
  | [], _ => rfl
  | _ :: a, b => by rw [List.cons_append, fmL, fmL, fmL_append a b, List.cons_append]
theorem okL_append : ∀ a b, okL (a ++ b) = (okL a && okL b)
  | [], _ => by simp [okL]
  | _ :: a, b => by rw [List.cons_append, okL, okL, okL_append a b, Bool.and_assoc]
theorem plL_append : ∀ a b, plL (a ++ b) = (plL a && plL b)
  | [], _ => by simp [plL]
  | _ :: a, b => by rw [List.cons_append, plL, plL, plL_append a b, Bool.and_assoc]
theorem smL_append : ∀ a b, smL (a ++ b) ↔ (smL a ∧ smL b)
  | [], _ => by simp [smL]
  | _ :: a, b => by rw [List.cons_append, smL, smL, smL_append a b, and_assoc]
theorem smL_get : ∀ {ts : List Th} {i : Nat} {t : Th}, smL ts → ts[i]? = some t → smT t
  | _ :: _, 0, _, h, e => by rw [smL] at h; simp at e; exact e ▸ h.1
  | _ :: ts, i + 1, _, h, e => by rw [smL] at h; simp at e; exact smL_get h.2 e
/-! a thing in the heap -/
mutual
inductive RepT (I : Hp) : Value → Th → Prop
  | no : RepT I .none .no
  | n (i : Int) (t : Tok) : RepT I (.int i t) (.n i)
  | b (x : Bool) : RepT I (.bool x) (.b x)
  | o (x : List UInt8) (t : Tok) : RepT I (.bytes x.toArray t) (.o x)
  | ba {a : Addr} {x : List UInt8} : I a = some (baO x) → RepT I (.ref a) (.ba x)
  | sq {a : Addr} {k : Bool} {vs : List Value} {nn : Nat} {ts : List Th} : I a = some (sqO k vs nn) → RepTL I vs ts → RepT I (.ref a) (.sq k ts)
inductive RepTL (I : Hp) : List Value → List Th → Prop
  | nil : RepTL I [] []
  | cons {v : Value} {vs : List Value} {t : Th} {ts : List Th} : RepT I v t → RepTL I vs ts → RepTL I (v :: vs) (t :: ts)
end
theorem RepT.mono {I I' : Hp} (h : ∀ a o, I a = some o → I' a = some o) {v : Value} {t : Th} (r : RepT I v t) : RepT I' v t :=
  RepT.rec (motive_1 := fun v t _ => RepT I' v t) (motive_2 := fun vs ts _ => RepTL I' vs ts) .no (fun i t => .n i t) (fun x => .b x) (fun x t => .o x t) (fun e => .ba (h _ _ e)) (fun e _ ih => .sq (h _ _ e) ih) .nil (fun _ _ a b => .cons a b) r
theorem RepTL.mono {I I' : Hp} (h : ∀ a o, I a = some o → I' a = some o) {vs : List Value} {ts : List Th} (r : RepTL I vs ts) : RepTL I' vs ts :=
  RepTL.rec (motive_1 := fun v t _ => RepT I' v t) (motive_2 := fun vs ts _ => RepTL I' vs ts) .no (fun i t => .n i t) (fun x => .b x) (fun x t => .o x t) (fun e => .ba (h _ _ e)) (fun e _ ih => .sq (h _ _ e) ih) .nil (fun _ _ a b => .cons a b) r
theorem RepTL.ind {I : Hp} {P : List Value → List Th → Prop} (h0 : P [] []) (h1 : ∀ {v vs t ts}, RepT I v t → P vs ts → P (v :: vs) (t :: ts)) {vs : List Value} {ts : List Th} (r : RepTL I vs ts) : P vs ts :=
  RepTL.rec (motive_1 := fun _ _ _ => True) (motive_2 := fun vs ts _ => P vs ts) trivial (fun _ _ => trivial) (fun _ => trivial) (fun _ _ => trivial) (fun _ => trivial) (fun _ _ _ => trivial) h0 (fun r _ _ b => h1 r b) r
theorem RepTL.length {I : Hp} {vs : List Value} {ts : List Th} (r : RepTL I vs ts) : vs.length = ts.length := r.ind (P := fun vs ts => vs.length = ts.length) rfl fun _ b => congrArg Nat.succ b
theorem RepTL.snoc {I : Hp} {v : Value} {t : Th} (q : RepT I v t) {vs : List Value} {ts : List Th} (r : RepTL I vs ts) : RepTL I (vs ++ [v]) (ts ++ [t]) :=
  r.ind (P := fun vs ts => RepTL I (vs ++ [v]) (ts ++ [t])) (.cons q .nil) fun r b => .cons r b
theorem RepTL.get {I : Hp} {vs : List Value} {ts : List Th} {i : Nat} {v : Value} (r : RepTL I vs ts) : vs[i]? = some v → ∃ t, ts[i]? = some t ∧ RepT I v t :=
  r.ind (P := fun vs ts => ∀ i v, vs[i]? = some v → ∃ t, ts[i]? = some t ∧ RepT I v t) (fun _ _ h => by simp at h) (fun r b i v h => by
    cases i with
    | zero => cases (show some _ = some _ from h); exact ⟨_, rfl, r⟩
    | succ i => exact b i v h) i v
end
section
open PySem.Builtin
namespace BA
theorem no_bytes : typeLookup (.type "bytearray") "__bytes__" = pure none := by rw [typeLookup_type, builtinLookup_eq_fast]; kernel_rfl
theorem noIndex : typeLookup (.type "bytearray") "__index__" = pure none := by rw [typeLookup_type, builtinLookup_eq_fast]; kernel_rfl
theorem look_bytes : typeLookup (.type "bytes") "__bytes__" = pure (some (.builtin "bytes.__bytes__")) := by rw [typeLookup_type, builtinLookup_eq_fast]; kernel_rfl
section
variable {prog : Program} {w : World} {A : Around} {E : VP} {s : Shared} {x : List UInt8} {Q : VP}
theorem bytes_new {v : Value} (b : Bv s.heap.get? v x) (hz : x.length ≤ 16777216) (h : ∀ t k, Q (.bytes x.toArray t) { s with toks := k }) :
    codeAny (model prog w) A (.call (.builtin "bytes.__new__") ⟨[.type "bytes", v], []⟩) (wants Q E) s := by
  refine codeAny_of_tree ?_
  show wpAny _ A.in1 (do checkBuiltinCall "bytes.__new__" ⟨[.type "bytes", v], []⟩; again (.builtin "bytes.__new__" ⟨[.type "bytes", v], []⟩)) _ _ s
  refine wpAny_bind (wpAny_of_eq (PySem.F.bm_newCall _) (wpAny_pure ⟨plainId_quiet PySem.F.bm_plain _, codeAny_builtin PySem.F.bm_entry ?_⟩))
  rw [Around.under_plainId PySem.F.bm_plain _]
  unfold Builtin.«bytes.__new__»
  refine wpAny_bind (wpAny_of_eq (a := true) rfl ?_)
  refine bm_if_false rfl ?_
  refine wpAny_bind (wpAny_of_eq PySem.F.bm_sub ?_)
  refine bm_if_false rfl ?_
  refine wpAny_bind (wpAny_of_eq (PySem.F.bm_bind _) ?_)
  refine wpAny_bind (wpAny_of_eq (a := ()) rfl ?_)
  refine wpAny_bind (wpAny_of_eq (a := ()) rfl ?_)
  refine bm_if_false rfl ?_
  cases b with
  | b x t =>
    refine wpAny_bind (wpAny_specialOf (typeIs_bytes s x.toArray t) look_bytes ?_)
    refine wpAny_bind (wpAny_rule ?_)
    refine wpAny_bind (wpAny_typeOf (typeIs_bytes s x.toArray t) ?_)
    refine bm_if_true (by decide) ?_
    show wpAny _ _ (if (Value.type "bytes" == Value.type "bytes") = true then _ else _) _ _ _
    refine bm_if_true (by decide) ?_
    first
      | exact wpAny_pure (h _ _)
      | exact wpAny_bind (wpAny_pure (wpAny_pure (h _ _)))
  | @a a _ e =>
    refine wpAny_bind (wpAny_specialOf (ty e) no_bytes ?_)
    refine wpAny_bind (wpAny_bind ?_)
    show wpAny _ _ (load a >>= _) _ _ _
    refine wpAny_bind (wpAny_load e ?_)
    refine wpAny_pure (wpAny_pure ?_)
    refine bm_if_false rfl ?_
    refine wpAny_bind (wpAny_specialOf (ty e) noIndex ?_)
    refine bm_if_true rfl ?_
    first
      | show wpAny _ _ (Builtin.Bytes.buffer? "bytes.__new__" (.ref a) true >>= _) _ _ _
      | (refine wpAny_bind ?_; show wpAny _ _ (Builtin.Bytes.buffer? "bytes.__new__" (.ref a) true >>= _) _ _ _)
    refine wpAny_bind (buffer e ?_)
    refine wpAny_bind (wpAny_rule ?_)
    refine wpAny_bind (wpAny_mkBytes ?_ (by rw [sizeLine_eq, List.size_toArray]; exact hz))
    show wpAny _ _ (if (Value.type "bytes" == Value.type "bytes") = true then _ else _) _ _ _
    refine bm_if_true (by decide) ?_
    first
      | exact wpAny_pure (h _ _)
      | exact wpAny_pure (wpAny_pure (h _ _))
      | exact wpAny_bind (wpAny_pure (wpAny_pure (h _ _)))
theorem bytes_of {v : Value} (b : Bv s.heap.get? v x) (hz : x.length ≤ 16777216) (h : ∀ t k, Q (.bytes x.toArray t) { s with toks := k }) : wpAny (model prog w) A (call (.type "bytes") [v]) Q E s := by
  refine callType_codes (Q₁ := fun obj s₁ => s₁.TypeIs obj "bytes" ∧ Q obj s₁) PySem.F.bm_called (PySem.F.bm_typeCall _) PySem.F.entry_object_init
    (bytes_new b hz fun t k => ⟨PySem.W.typeIs_bytes _ _ _, h t k⟩) fun obj s₁ h₁ => ?_
  exact ⟨h₁.1, PySem.F.args_object_init_2 obj _, object_init_meets PySem.F.bm_called.init.lookup PySem.F.bm_called.made (by decide) prog w A.in1 _ s₁ ⟨h₁.1, rfl, h₁.2⟩⟩
end
end BA
end
section
theorem be_pow (n : Nat) : n < 256 ^ (be n).length ∧ (n ≠ 0 → 256 ^ ((be n).length - 1) ≤ n) := by
  induction n using Nat.strongRecOn with
  | ind n ih =>
    by_cases h : n = 0
    · subst h; rw [be_zero]; exact ⟨by decide, fun h => absurd rfl h⟩
    · have i := ih (n / 256) (by lia)
      rw [be_pos h, List.length_append, List.length_singleton]
      refine ⟨?_, fun _ => ?_⟩
      · rw [Nat.pow_succ]; have := i.1; lia
      · rw [Nat.add_sub_cancel]
        by_cases q : n / 256 = 0
        · rw [q, be_zero]; simp; lia
        · have h2 := i.2 q
          have hl : (be (n / 256)).length ≠ 0 := by rw [be_pos q, List.length_append, List.length_singleton]; lia
          have e : (be (n / 256)).length = ((be (n / 256)).length - 1) + 1 := by lia
          rw [e, Nat.pow_succ]; lia
theorem little_be (n : Nat) : (KTBy.little (be n).length (n : Int)).reverse = (be n).map fun d : Nat => (d : Int) := by
  induction n using Nat.strongRecOn with
  | ind n ih =>
    by_cases h : n = 0
    · subst h; rw [be_zero]; rfl
    · rw [be_pos h, List.length_append, List.length_singleton]
      show (KTBy.little ((be (n / 256)).length + 1) (n : Int)).reverse = _
      rw [KTBy.little, List.reverse_cons, show (n : Int) / 256 = ((n / 256 : Nat) : Int) by lia, ih (n / 256) (by lia), List.map_append]
      simp
theorem bytes_of_ints {b : Array UInt8} {l : List Nat} (hl : ∀ d ∈ l, d < 256) (h : KBw.bInts b = l.map fun d : Nat => (d : Int)) : b.toList = bytesOf l := by
  have h' : b.toList.map (fun c => ((c.toNat : Nat) : Int)) = l.map fun d : Nat => (d : Int) := h
  unfold bytesOf
  generalize b.toList = bl at h'
  clear h
  induction bl generalizing l with
  | nil => cases l with
    | nil => rfl
    | cons d l => cases h'
  | cons c bl ih =>
    cases l with
    | nil => cases h'
    | cons d l =>
      simp only [List.map_cons, List.cons.injEq] at h' ⊢
      refine ⟨?_, ih (fun d hd => hl d (.tail _ hd)) h'.2⟩
      have : c.toNat = d := by lia
      subst this
      simp
theorem intBits_be {n : Nat} (h : n ≠ 0) : (Builtin.Int.intBits (n : Int) + 7) / 8 = (be n).length := by
  have h1 := be_pow n
  have h2 := h1.2 h
  have hl : (be n).length ≠ 0 := by rw [be_pos h, List.length_append, List.length_singleton]; lia
  have e : Builtin.Int.intBits (n : Int) = n.log2 + 1 := by
    unfold Builtin.Int.intBits
    rw [if_neg (by simpa using h)]
    simp
  rw [e]
  generalize hL : (be n).length = L at h1 h2 hl
  have p : ∀ k, 256 ^ k = 2 ^ (8 * k) := fun k => by rw [Nat.pow_mul]
  have a1 : n.log2 < 8 * L := (Nat.log2_lt h).mpr (by rw [← p]; exact h1.1)
  have a2 : 8 * (L - 1) ≤ n.log2 := (Nat.le_log2 h).mpr (by rw [← p]; exact h2)
  lia
end
section
open PySem.Builtin
namespace BN
section
variable {prog : Program} {w : World} {M : Model} {A : Around} {E : VP} {s : Shared}
theorem to_big {k : Nat} {x B : Int} {t u v : Tok} {Q : VP} (hk : k ≤ 1000) (hB : (256 : Int) ^ k = B) (h0 : 0 ≤ x) (h1 : x < B) (h : ∀ (b : Array UInt8) t' k', KBw.bInts b = (KTBy.little k x).reverse → Q (.bytes b t') { s with toks := k' }) :
    wpAny (model prog w) A (call (.builtin "int.to_bytes") [.int x t, .int (k : Int) u, .str (PySem.Str.ofString "big") v]) Q E s := by
  refine wpAny_call_entry KTBy.slot (typeIs_int s x t) KTBy.entry ?_ (KTBy.args _ _ _)
  have hb := KTBy.bits_le hB h0 h1
  have h1' : x < 256 ^ k := by rw [hB]; exact h1
  show wpAny _ _ (Builtin.Int.intOfSelf (.int x t) >>= fun y => _) _ _ s
  refine wpAny_bind (wpAny_of_eq (a := x) rfl ?_)
  show wpAny _ _ (Builtin.Int.intBindNamed "to_bytes" ["length", "byteorder", "signed"] 0 2 [.int (k : Int) u, .str (PySem.Str.ofString "big") v] [] >>= fun l => _) _ _ s
  refine wpAny_bind (wpAny_of_eq (a := [some (.int (k : Int) u), some (.str (PySem.Str.ofString "big") v), none]) (by kernel_rfl) ?_)
  show wpAny _ _ (Builtin.Int.intIndex "int.to_bytes" (.int (k : Int) u) >>= fun n => _) _ _ s
  refine wpAny_bind (wpAny_of_eq (a := (k : Int)) rfl ?_)
  refine KTBy.if_not (by show (decide ((k : Int) < -(2 ^ 63 : Int)) || decide ((k : Int) ≥ 2 ^ 63)) = false; rw [decide_eq_false (show ¬ ((k : Int) < -(2 ^ 63 : Int)) by omega), decide_eq_false (show ¬ ((k : Int) ≥ 2 ^ 63) by omega)]; rfl) ?_
  refine wpAny_bind (wpAny_of_eq (a := PySem.Str.ofString "big") (by kernel_rfl) ?_)
  refine wpAny_bind (wpAny_of_eq (a := false) rfl ?_)
  refine wpAny_bind (wpAny_of_eq (a := false) (by kernel_rfl) ?_)
  refine wpAny_ite_false (decide_eq_false (show ¬ ((k : Int) < 0) by omega)) ?_
  refine wpAny_ite_false (decide_eq_false (show ¬ ((k : Int) > 2 ^ 63 - 1 - 33) by omega)) ?_
  refine wpAny_ite_false (decide_eq_false (show ¬ ((k : Int) > (sizeLine : Int)) by rw [sizeLine_eq]; omega)) ?_
  refine KTBy.if_not (by show (decide (x < 0) && !false) = false; rw [decide_eq_false (show ¬ x < 0 by omega)]; rfl) ?_
  refine KTBy.if_not (by show (_ && decide ((Builtin.Int.intBits x : Int) > 8 * (k : Int))) = false; rw [decide_eq_false (show ¬ ((Builtin.Int.intBits x : Int) > 8 * (k : Int)) by omega), Bool.and_false]) ?_
  refine wpAny_bind (wpAny_mkBytes (wpAny_pure ⟨_, rfl, h _ _ _ ?_⟩) (by show (List.reverse (KTBy.low x (Int.toNat (k : Int)))).length ≤ sizeLine; rw [List.length_reverse, KTBy.low_length, Int.toNat_natCast, sizeLine_eq]; omega))
  show (List.map (fun c : UInt8 => ((c.toNat : Nat) : Int)) (List.reverse (KTBy.low x (Int.toNat (k : Int))))) = (KTBy.little k x).reverse
  rw [Int.toNat_natCast, List.map_reverse, KTBy.low_ints h0 h1', ← KTBy.little_eq]
theorem grown {n k : Nat} {Q : VP} (hk : k ≤ 1000) (hn : n < 256 ^ k) (h : Q (.int (n : Int) s.toks) { s with toks := s.toks + 1 }) : wpAny M A (mkIntGrown (n : Int)) Q E s := by
  unfold mkIntGrown
  have hl : ¬ ((n : Int).natAbs.log2 ≥ bitsLine) := by
    rw [Int.natAbs_natCast]
    have hb : bitsLine = 134217728 := by first | rfl | decide
    by_cases hz : n = 0
    · subst hz
      rw [hb]
      decide
    · have e2 : (2 : Nat) ^ 8 = 256 := by decide
      rw [← e2, ← Nat.pow_mul] at hn
      have h1 := (Nat.log2_lt hz).mpr hn
      omega
  rw [if_neg hl]
  exact wpAny_mkInt h
theorem tree_big {b : Array UInt8} {t u : Tok} {P : PySem.Fin → Shared → Prop} (hl : b.size ≤ 1000) (h : P (.done (.ret (.int (KFB.value (KBw.bInts b)) s.toks))) { s with toks := s.toks + 1 }) :
    wpAny M A (Builtin.«int.from_bytes» ⟨[.type "int", .bytes b t, .str (PySem.Str.ofString "big") u], []⟩) P E s := by
  have hv : ((b.toList.foldl (fun (acc : Nat) (b : UInt8) => acc * 256 + b.toNat) 0 : Nat) : Int) = KFB.value (KBw.bInts b) := KFB.fold_cast b.toList 0
  have hn : b.toList.foldl (fun (acc : Nat) (b : UInt8) => acc * 256 + b.toNat) 0 < 256 ^ b.size := by
    have h1 := KFB.fold_lt b.toList 0
    rw [Nat.zero_add, Nat.one_mul, Array.length_toList] at h1
    exact h1
  unfold Builtin.«int.from_bytes»
  refine wpAny_bind (wpAny_of_eq (a := true) KFB.type_int ?_)
  refine KFB.if_not rfl ?_
  refine wpAny_bind (wpAny_of_eq (a := true) PySem.F.conv_sub_int ?_)
  refine KFB.if_not rfl ?_
  refine wpAny_bind (wpAny_of_eq (a := [some (.bytes b t), some (.str (PySem.Str.ofString "big") u), none]) (by kernel_rfl) ?_)
  refine wpAny_bind (wpAny_of_eq (a := PySem.Str.ofString "big") (by kernel_rfl) ?_)
  refine wpAny_bind (wpAny_of_eq (a := false) rfl ?_)
  refine wpAny_bind (wpAny_of_eq (a := false) (by kernel_rfl) ?_)
  refine wpAny_bind (wpAny_of_eq (a := b) rfl ?_)
  show wpAny _ _ (mkIntGrown (b.toList.foldl (fun (acc : Int) (b : UInt8) => acc * 256 + (b.toNat : Int)) ((0 : Nat) : Int)) >>= fun v => _) _ _ _
  rw [KFB.foldI_eq]
  refine wpAny_bind (grown hl hn ?_)
  rw [hv]
  refine KFB.if_so (by decide +kernel) ?_
  exact wpAny_bind (wpAny_pure (wpAny_pure h))
end
end BN
variable {G : Base} {c : Fm} {st : St} {s : Shared} {A : Around} {E : VP} {env : Env}
theorem r_fbBigN {u : Addr} {x : List UInt8} {t k : Tok} {Q : VP} (O : Ok G c st s) (hu : s.heap.get? u = some KFB.bound) (hl : x.length ≤ 1000) (h : ∀ t s', Ok G c st s' → Q (.int (vD x) t) s') :
    wpAny (model G.prog G.w) A (call (.ref u) [.bytes x.toArray t, .str (PySem.Str.ofString "big") k]) Q E s :=
  KFB.call_of hu (fun z => BN.tree_big (by simpa using hl) z) (by rw [vD_int]; exact h _ _ O.toks)
theorem r_pow {k : Nat} {t u : Tok} {Q : VP} (O : Ok G c st s) (hk : 0 < k ∧ k ≤ 1000) (h : ∀ t s', Ok G c st s' → Q (.int ((256 : Int) ^ k) t) s') : wpAny (model G.prog G.w) A (binaryOp .Pow (.int 256 t) (.int k u)) Q E s := by
  refine AutoIntOps.pow_4 (by lia) (by simp; lia) (by decide) (by decide) ?_ ?_
  · have hb : bitsLine = 134217728 := by first | rfl | decide
    have h9 : Builtin.Int.intBits 256 = 9 := by decide +kernel
    unfold Builtin.Int.intTooBig
    rw [h9, hb]
    simp; lia
  · rw [Int.toNat_natCast]
    exact h _ _ O.toks
theorem r_tupleOf {l : Addr} {vs : List Value} {n : Nat} {m : Mp} {I : Hp} {W : Ws} {Q : VP} (O : Ok G c ⟨m, I, W⟩ s) (e : s.heap.get? l = some (lst vs n)) (hz : vs.length ≤ 1000000) (h : ∀ a s', Ok G c ⟨m, I, (a, tup vs) :: W⟩ s' → Q (.ref a) s') :
    wpAny (model G.prog G.w) A (call (.type "tuple") [.ref l]) Q E s := by
  refine call_tuple_list (isL e) (fun h' hk => ?_) (by rw [sizeLine_eq, List.size_toArray]; lia)
  have O1 := O.grown (s' := { s with heap := h' }) hk rfl rfl
  exact h _ _ (O1.own (s' := { s with heap := h'.push (tup vs) }) (fun _ _ e => Heap.get?_push_of_some _ e) (size_free h') (Heap.get?_push_size _ rfl) rfl rfl)
noncomputable def clsT : Th → Value
  | .no => .type "NoneType"
  | .n _ => .type "int"
  | .b _ => .type "bool"
  | .o _ => .type "bytes"
  | .ba _ => .type "bytearray"
  | .sq true _ => .type "tuple"
  | .sq false _ => .type "list"
noncomputable def isBy : Th → Bool
  | .o _ => true
  | .ba _ => true
  | _ => false
noncomputable def isSq : Th → Bool
  | .sq _ _ => true
  | _ => false
noncomputable def isBo : Th → Bool
  | .b _ => true
  | _ => false
noncomputable def isIn : Th → Bool
  | .b _ => true
  | .n _ => true
  | _ => false
noncomputable def isBa : Th → Bool
  | .ba _ => true
  | _ => false
noncomputable def isTu : Th → Bool
  | .sq true _ => true
  | _ => false
noncomputable def isO : Th → Bool
  | .o _ => true
  | _ => false
variable {G : Base} {c : Fm} {st : St} {s : Shared} {A : Around} {E : VP} {env : Env}
theorem RepT.kit {K : Frag} {I : Hp} {v : Value} {t : Th} (r : RepT I v t) : ∃ H : Heap → Prop, KitX K v (clsT t) H ∧ (∀ h : Heap, (∀ a o, I a = some o → h.get? a = some o) → H h) ∧ v ≠ .builtin "__main__.__loader__#opaque" := by
  cases r with
  | no => exact ⟨_, kitx_none, fun _ _ => trivial, by simp⟩
  | n i t => exact ⟨_, kitx_int, fun _ _ => trivial, by simp⟩
  | b x => exact ⟨_, kitx_bool, fun _ _ => trivial, by simp⟩
  | o x t => exact ⟨_, kitx_bytes, fun _ _ => trivial, by simp⟩
  | ba e => exact ⟨_, BA.kitx, fun h k => ⟨_, k _ _ e, rfl⟩, by simp⟩
  | @sq a k vs nn ts e r =>
    cases k with
    | true => exact ⟨_, kitx_tuple, fun h k => ⟨_, k _ _ e, rfl⟩, by simp⟩
    | false => exact ⟨_, kitx_list, fun h k => ⟨_, k _ _ e, rfl⟩, by simp⟩
theorem r_isT {v : Value} {t : Th} {I : Hp} {tp : Addr} {its : List Value} {b : Bool} {Q : VP} (r : RepT I v t) (O : Ok G c st s) (hI : ∀ a o, I a = some o → s.heap.get? a = some o) (ht : s.heap.get? tp = some (tup its)) (e : kitAny G.K (clsT t) its = some b)
    (h : ∀ s', Ok G c st s' → Q (.bool b) s') : wpAny (model G.prog G.w) A (call (.builtin "isinstance") [v, .ref tp]) Q E s := by
  obtain ⟨H, Z, p, hn⟩ := r.kit (K := G.K)
  exact r_isiT Z O (p _ hI) ht e hn h
theorem kBy {K : Frag} (t : Th) : kitAny K (clsT t) [.type "bytes", .type "bytearray"] = some (isBy t) := by rcases t with _ | _ | _ | _ | _ | ⟨_ | _, _⟩ <;> rfl
theorem kSq {K : Frag} (t : Th) : kitAny K (clsT t) [.type "list", .type "tuple"] = some (isSq t) := by rcases t with _ | _ | _ | _ | _ | ⟨_ | _, _⟩ <;> rfl
theorem kBo {K : Frag} (t : Th) : kitOne K (clsT t) (.type "bool") = some (isBo t) := by rcases t with _ | _ | _ | _ | _ | ⟨_ | _, _⟩ <;> rfl
theorem kIn {K : Frag} (t : Th) : kitOne K (clsT t) (.type "int") = some (isIn t) := by rcases t with _ | _ | _ | _ | _ | ⟨_ | _, _⟩ <;> rfl
theorem kBa {K : Frag} (t : Th) : kitOne K (clsT t) (.type "bytearray") = some (isBa t) := by rcases t with _ | _ | _ | _ | _ | ⟨_ | _, _⟩ <;> rfl
theorem kTu {K : Frag} (t : Th) : kitOne K (clsT t) (.type "tuple") = some (isTu t) := by rcases t with _ | _ | _ | _ | _ | ⟨_ | _, _⟩ <;> rfl
theorem kO {K : Frag} (t : Th) : kitOne K (clsT t) (.type "bytes") = some (isO t) := by rcases t with _ | _ | _ | _ | _ | ⟨_ | _, _⟩ <;> rfl
theorem k_isT {y T1 T2 : Str} {v c1 c2 : Value} {t : Th} {b : Bool} {p p1 p2 p3 p4 pos : Pos} {k : Nat} {m : Mp} {I : Hp} {W : Ws} {Q : VP} (O : Ok G c ⟨m, I, W⟩ s) (r : RepT I v t) (hx : c.env.kindOf "isinstance" = some .globalImplicit) (e : nsIn G.K mainGlobals "isinstance" = some none) (hl : c.env.kindOf y = some .local) (hv : m y = some v)
    (hx1 : c.env.kindOf T1 = some .globalImplicit) (e1 : nsIn G.K mainGlobals T1 = some none) (hb1 : bootBuiltins T1 = some c1) (hx2 : c.env.kindOf T2 = some .globalImplicit) (e2 : nsIn G.K mainGlobals T2 = some none) (hb2 : bootBuiltins T2 = some c2) (hk : kitAny G.K (clsT t) [c1, c2] = some b)
    (h : ∀ s', Ok G c ⟨m, I, W⟩ s' → Q (.bool b) s') (hd : (y == ("__debug__" : Str)) = false := by decide +kernel) (hn1 : T1 ≠ ("__name__" : Str) := by decide +kernel) (hd1 : (T1 == ("__debug__" : Str)) = false := by decide +kernel) (hn2 : T2 ≠ ("__name__" : Str) := by decide +kernel) (hd2 : (T2 == ("__debug__" : Str)) = false := by decide +kernel)
    (he : eval (.Call (.Name "isinstance" p) [.Name y p1, .Tuple [.Name T1 p2, .Name T2 p3] k p4] [] pos) c.env = (do callWith pos (← eval (.Name "isinstance" p) c.env) [] (backTo pos (starEach [.Name y p1, .Tuple [.Name T1 p2, .Name T2 p3] k p4] c.env)) (backToKw pos (keywordEach [] c.env))) := by rfl) :
    wpAny (model G.prog G.w) A (eval (.Call (.Name "isinstance" p) [.Name y p1, .Tuple [.Name T1 p2, .Name T2 p3] k p4] [] pos) c.env) Q E s := by
  refine e_call ?_ he
  refine r_blt O hx e PyProof.Rows.Boot.«isinstance» ?_
  refine c_b1 ?_
  refine k_arg O hl hv ?_ hd
  refine e_more ?_
  refine e_tup ?_
  refine e_more ?_
  refine r_blt O hx1 e1 hb1 ?_ hn1 hd1
  refine e_more ?_
  refine r_blt O hx2 e2 hb2 ?_ hn2 hd2
  refine spliced_none ?_
  refine r_newTuple O (sz_small (by simp)) fun a0 s O => ?_
  refine spliced_none ?_
  exact r_isT r O O.im (O.wr (a0, tup _) (.head _)) hk fun s O => h s (O.drop (W1 := [(a0, _)]))
theorem k_is1 {y T : Str} {v cl : Value} {t : Th} {b : Bool} {p p2 p3 pos : Pos} {Q : VP} (O : Ok G c st s) (r : RepT st.I v t) (hx : c.env.kindOf "isinstance" = some .globalImplicit) (e : nsIn G.K mainGlobals "isinstance" = some none) (hl : c.env.kindOf y = some .local) (hv : st.m y = some v)
    (hx2 : c.env.kindOf T = some .globalImplicit) (e2 : nsIn G.K mainGlobals T = some none) (hb : bootBuiltins T = some cl) (hk : kitOne G.K (clsT t) cl = some b)
    (h : ∀ s', Ok G c st s' → Q (.bool b) s') (hd : (y == ("__debug__" : Str)) = false := by decide +kernel) (hn2 : T ≠ ("__name__" : Str) := by decide +kernel) (hd2 : (T == ("__debug__" : Str)) = false := by decide +kernel)
    (he : eval (.Call (.Name "isinstance" p) [.Name y p2, .Name T p3] [] pos) c.env = (do callWith pos (← eval (.Name "isinstance" p) c.env) [] (backTo pos (starEach [.Name y p2, .Name T p3] c.env)) (backToKw pos (keywordEach [] c.env))) := by rfl) :
    wpAny (model G.prog G.w) A (eval (.Call (.Name "isinstance" p) [.Name y p2, .Name T p3] [] pos) c.env) Q E s := by
  obtain ⟨H, Z, p', hn⟩ := r.kit (K := G.K)
  exact k_isi O hx e hl hv hx2 e2 hb Z (p' _ O.im) hk hn h hd hn2 hd2 he
end
section
open PyProof.Rows.LCg (NsObj ns_obj)
variable {G : Base} {c : Fm} {st : St} {s : Shared} {A : Around}
/-! the sedes that a thing is told by -/
noncomputable def sEs (P : Params) (tk tk' : Tok) (p : Addr) : List DictEntry := [⟨PyData.keyHash P (PySem.Str.ofString "parts"), .str (PySem.Str.ofString "parts") tk, .ref p⟩, ⟨PyData.keyHash P (PySem.Str.ofString "strict"), .str (PySem.Str.ofString "strict") tk', .bool true⟩]
mutual
inductive Sed (P : Params) (I : Hp) : Value → Th → Prop
  | n {i : Int} : 0 ≤ i → Sed P I (.ref 1509) (.n i)
  | b (x : Bool) : Sed P I (.ref 1607) (.b x)
  | o (x : List UInt8) : Sed P I (.ref 1576) (.o x)
  | ba (x : List UInt8) : Sed P I (.ref 1576) (.ba x)
  | l {a dx p : Addr} {tk tk' : Tok} {n kk : Nat} {svs : List Value} {k : Bool} {ts : List Th} : I a = some (instObj 1660 dx) → I dx = some (dicObj (sEs P tk tk' p) n) → I p = some (lst svs kk) → SedL P I svs ts → Sed P I (.ref a) (.sq k ts)
inductive SedL (P : Params) (I : Hp) : List Value → List Th → Prop
  | nil : SedL P I [] []
  | cons {v : Value} {vs : List Value} {t : Th} {ts : List Th} : Sed P I v t → SedL P I vs ts → SedL P I (v :: vs) (t :: ts)
end
theorem Sed.mono {P : Params} {I I' : Hp} (h : ∀ a o, I a = some o → I' a = some o) {v : Value} {t : Th} (r : Sed P I v t) : Sed P I' v t :=
  Sed.rec (motive_1 := fun v t _ => Sed P I' v t) (motive_2 := fun vs ts _ => SedL P I' vs ts) (fun i => .n i) (fun x => .b x) (fun x => .o x) (fun x => .ba x) (fun a b c _ ih => .l (h _ _ a) (h _ _ b) (h _ _ c) ih) .nil (fun _ _ a b => .cons a b) r
theorem SedL.mono {P : Params} {I I' : Hp} (h : ∀ a o, I a = some o → I' a = some o) {vs : List Value} {ts : List Th} (r : SedL P I vs ts) : SedL P I' vs ts :=
  SedL.rec (motive_1 := fun v t _ => Sed P I' v t) (motive_2 := fun vs ts _ => SedL P I' vs ts) (fun i => .n i) (fun x => .b x) (fun x => .o x) (fun x => .ba x) (fun a b c _ ih => .l (h _ _ a) (h _ _ b) (h _ _ c) ih) .nil (fun _ _ a b => .cons a b) r
theorem SedL.ind {P : Params} {I : Hp} {K : List Value → List Th → Prop} (h0 : K [] []) (h1 : ∀ {v vs t ts}, Sed P I v t → K vs ts → K (v :: vs) (t :: ts)) {vs : List Value} {ts : List Th} (r : SedL P I vs ts) : K vs ts :=
  SedL.rec (motive_1 := fun _ _ _ => True) (motive_2 := fun vs ts _ => K vs ts) (fun _ => trivial) (fun _ => trivial) (fun _ => trivial) (fun _ => trivial) (fun _ _ _ _ _ => trivial) h0 (fun r _ _ b => h1 r b) r
theorem SedL.length {P : Params} {I : Hp} {vs : List Value} {ts : List Th} (r : SedL P I vs ts) : vs.length = ts.length := r.ind (K := fun vs ts => vs.length = ts.length) rfl fun _ b => congrArg Nat.succ b
theorem SedL.snoc {P : Params} {I : Hp} {v : Value} {t : Th} {vs : List Value} {ts : List Th} (r : SedL P I vs ts) (q : Sed P I v t) : SedL P I (vs ++ [v]) (ts ++ [t]) :=
  r.ind (K := fun vs ts => SedL P I (vs ++ [v]) (ts ++ [t])) (.cons q .nil) fun r b => .cons r b
theorem SedL.get {P : Params} {I : Hp} {vs : List Value} {ts : List Th} (r : SedL P I vs ts) {i : Nat} {v : Value} : vs[i]? = some v → ∃ t, ts[i]? = some t ∧ Sed P I v t :=
  r.ind (K := fun vs ts => ∀ i v, vs[i]? = some v → ∃ t, ts[i]? = some t ∧ Sed P I v t) (fun _ _ h => by simp at h) (fun r b i v h => by
    cases i with
    | zero => cases (show some _ = some _ from h); exact ⟨_, rfl, r⟩
    | succ i => exact b i v h) i v
theorem ivt_spec (hK : G.K = KK G.w.params) {v : Value} {t : Th} {q : Addr} {hd : Option Value} {d u : Nat} {I : Hp} {W : Ws} {Q : Value → Hp → Ws → Prop} {E : Ex → Hp → Ws → Prop} (hr : RepT I v t)
    (h : Q (.bool (isBy t)) I ((q, methodObj (.ref 1543) (.ref 1570)) :: W)) : Cl G (.ref q) [v] hd (d + 1) (u + 3) I ((q, methodObj (.ref 1543) (.ref 1570)) :: W) Q E := by
  refine enterBK (binds := [("cls", .ref 1570), ("obj", v)]) (kl hK) (kc hK) (by rfl) (by rfl) (by rfl) (by rfl) (by rfl) (by rfl) fun c A s hc O B => ?_
  refine k_ret ?_
  exact k_isT O hr (kd hc) (kn hK) (kd hc) (by rfl) (kd hc) (kn hK) PyProof.Rows.Boot.«bytes» (kd hc) (kn hK) PyProof.Rows.Boot.«bytearray» (kBy t) fun s O => ⟨_, I, _, O, h⟩
theorem isq_spec (hK : G.K = KK G.w.params) {v : Value} {t : Th} {hd : Option Value} {d u : Nat} {I : Hp} {W : Ws} {Q : Value → Hp → Ws → Prop} {E : Ex → Hp → Ws → Prop} (hr : RepT I v t)
    (h : Q (.bool (isSq t)) I W) : Cl G (.ref 1621) [v] hd (d + 1) (u + 3) I W Q E := by
  refine enterK (binds := [("obj", v)]) (kl hK) (kc hK) (by rfl) (by rfl) (by rfl) (by rfl) (by rfl) (by rfl) fun c A s hc O B => ?_
  refine k_ret ?_
  exact k_isT O hr (kd hc) (kn hK) (kd hc) (by rfl) (kd hc) (kn hK) PyProof.Rows.Boot.«list» (kd hc) (kn hK) PyProof.Rows.Boot.«tuple» (kSq t) fun s O => ⟨_, I, W, O, h⟩
theorem isd_spec (hK : G.K = KK G.w.params) {v : Value} {t : Th} {hd : Option Value} {d u : Nat} {I : Hp} {W : Ws} {Q : Value → Hp → Ws → Prop} {E : Ex → Hp → Ws → Prop} (hr : Sed G.w.params I v t)
    (h : Q (.bool true) I W) : Cl G (.ref 1614) [v] hd (d + 1) (u + 3) I W Q E := by
  refine enterK (binds := [("obj", v)]) (kl hK) (kc hK) (by rfl) (by rfl) (by rfl) (by rfl) (by rfl) (by rfl) fun c A s hc O B => ?_
  refine k_ret ?_
  refine e_call ?_
  refine r_blt O (kd hc) (kn hK) PyProof.Rows.Boot.«isinstance» ?_
  refine c_b1 ?_
  refine k_arg O (kd hc) (by rfl) ?_
  refine e_more ?_
  refine e_tup ?_
  refine e_more ?_
  refine r_glob O (kd hc) (kn hK) ?_
  refine e_more ?_
  refine r_glob O (kd hc) (kn hK) ?_
  refine e_more ?_
  refine r_glob O (kd hc) (kn hK) ?_
  refine e_more ?_
  refine r_glob O (kd hc) (kn hK) ?_
  refine e_more ?_
  refine r_glob O (kd hc) (kn hK) ?_
  refine spliced_none ?_
  refine r_newTuple O (sz_small (by simp)) fun a0 s O => ?_
  refine spliced_none ?_
  have fin : ∀ {m' : Mp} {o : Obj} s', Ok G c ⟨m', I, (a0, o) :: W⟩ s' → EndQ G c Q (.ret (.bool true)) s' := fun {m' o} s' O => ⟨m', I, W, O.drop (W1 := [(a0, o)]), h⟩
  have X := O.In
  cases hr with
  | n _ => exact r_isiT (kitx_own (D := 1503) (by rw [hK]; rfl) (by rw [hK]; rfl) (by rw [hK]; rfl) (by rw [hK]; rfl) (by rw [hK]; rfl) (by rw [hK]; rfl)) O ⟨X _ _ (kl hK (a := 1509) (by k_is)), rfl, rfl, X _ _ (kl hK (a := 1508) (by k_is))⟩ (O.wr (a0, tup _) (.head _)) (by rw [hK]; rfl) (by simp) fun s O => fin s O
  | b x => exact r_isiT (kitx_own (D := 1601) (by rw [hK]; rfl) (by rw [hK]; rfl) (by rw [hK]; rfl) (by rw [hK]; rfl) (by rw [hK]; rfl) (by rw [hK]; rfl)) O ⟨X _ _ (kl hK (a := 1607) (by k_is)), rfl, rfl, X _ _ (kl hK (a := 1606) (by k_is))⟩ (O.wr (a0, tup _) (.head _)) (by rw [hK]; rfl) (by simp) fun s O => fin s O
  | o x => exact r_isiT (kitx_own (D := 1570) (by rw [hK]; rfl) (by rw [hK]; rfl) (by rw [hK]; rfl) (by rw [hK]; rfl) (by rw [hK]; rfl) (by rw [hK]; rfl)) O ⟨X _ _ (kl hK (a := 1576) (by k_is)), rfl, rfl, X _ _ (kl hK (a := 1575) (by k_is))⟩ (O.wr (a0, tup _) (.head _)) (by rw [hK]; rfl) (by simp) fun s O => fin s O
  | ba x => exact r_isiT (kitx_own (D := 1570) (by rw [hK]; rfl) (by rw [hK]; rfl) (by rw [hK]; rfl) (by rw [hK]; rfl) (by rw [hK]; rfl) (by rw [hK]; rfl)) O ⟨X _ _ (kl hK (a := 1576) (by k_is)), rfl, rfl, X _ _ (kl hK (a := 1575) (by k_is))⟩ (O.wr (a0, tup _) (.head _)) (by rw [hK]; rfl) (by simp) fun s O => fin s O
  | l e1 e2 e3 r => exact r_isiT (kitx_own (D := 1660) (by rw [hK]; rfl) (by rw [hK]; rfl) (by rw [hK]; rfl) (by rw [hK]; rfl) (by rw [hK]; rfl) (by rw [hK]; rfl)) O ⟨O.im _ _ e1, rfl, rfl, O.im _ _ e2⟩ (O.wr (a0, tup _) (.head _)) (by rw [hK]; rfl) (by simp) fun s O => fin s O
end
section
open PyProof.Rows.LCg (NsObj ns_obj)
variable {G : Base} {c : Fm} {st : St} {s : Shared} {A : Around}
set_option maxHeartbeats 0 in
theorem li_spec (hK : G.K = KK G.w.params) {x dx l : Addr} {svs : List Value} {ts : List Th} {nn : Nat} {kt : Bool} {hd : Option Value} {d u : Nat} {I : Hp} {Q : Value → Hp → Ws → Prop} {E : Ex → Hp → Ws → Prop} (e : I l = some (lst svs nn)) (r : SedL G.w.params I svs ts) (hz : svs.length ≤ 1000000) (H : HdH hd I)
    (h : ∀ I', (∀ a o, I a = some o → I' a = some o) → Sed G.w.params I' (.ref x) (.sq kt ts) → Q .none I' []) : Cl G (.ref 1636) [.ref x, .ref l] hd (d + 1 + 1) (u + 3 + 3) I [(x, instObj 1660 dx), (dx, dicObj [] 0)] Q E := by
  refine enterP (binds := [("self", .ref x), ("elements", .ref l), ("strict", .bool true)]) (kl hK) (by rfl) (kc hK) (by rw [hK]; intro S; rfl) (by rfl) (by rfl) (by rfl) (by rfl) (by rfl) (by rfl) (by rfl) fun c A s hfd O B => ?_
  have hc : c.fd.scope = _ := congrArg FuncData.scope hfd
  refine e_cons ?_
  refine plainObj_wpAny_Assign_Attribute ?_
  refine e_lst ?_
  refine spliced_none ?_
  refine r_newList O (sz_small (by simp)) fun p s O => ?_
  refine r_name O (kd hc) (by rfl) ?_
  refine r_setI (C := 1660) (W1 := [(p, lst [] 0), (x, instObj 1660 dx)]) (W2 := []) O (O.wr (x, instObj 1660 dx) (by simp)) (by rw [hK]; rfl) (cd := _) (by rw [hK]; rfl) (.ref .obj) (by rw [hK]; rfl) (by rw [hK]; rfl) (by rfl) (by simp) (by intros; rfl) (by rfl) fun tk101 s O => ?_
  refine e_cons ?_
  refine plainObj_wpAny_Assign_Attribute ?_
  refine r_name O (kd hc) (by rfl) ?_
  refine r_name O (kd hc) (by rfl) ?_
  refine r_setI (C := 1660) (W1 := [(p, lst [] 0), (x, instObj 1660 dx)]) (W2 := []) O (O.wr (x, instObj 1660 dx) (by simp)) (by rw [hK]; rfl) (cd := _) (by rw [hK]; rfl) (.ref .obj) (by rw [hK]; rfl) (by rw [hK]; rfl) (by rfl) (by simp) (by intros; rfl) (by rfl) fun tk102 s O => ?_
  dsimp only [List.nil_append, List.cons_append] at O
  generalize hes : dicObj _ _ = od at O
  have hes' : od = dicObj (sEs G.w.params tk101 tk102 p) 2 := hes.symm
  clear hes
  have fin : ∀ (st : St) (s : Shared), (∃ k, st = ⟨st.m, I, [(p, lst svs k), (x, instObj 1660 dx), (dx, od)]⟩) → Ok G c st s → EndQ G c Q .next s := by
    intro st s hst O
    obtain ⟨k, hst⟩ := hst
    obtain ⟨m, I', W'⟩ := st
    cases hst
    have n1 := O.wI _ (.head _)
    have O := O.fix
    have n2 := O.wI _ (.head _)
    have O := O.fix
    have n3 := O.wI _ (.head _)
    have O := O.fix
    refine ⟨_, _, _, O, h _ (fun a o e => sub_fix n3 _ _ (sub_fix n2 _ _ (sub_fix n1 _ _ e))) ?_⟩
    refine .l (dx := dx) (p := p) (tk := tk101) (tk' := tk102) (n := 2) (kk := k) (svs := svs) (sub_fix n3 _ _ (if_pos rfl)) (by rw [hes']; exact if_pos rfl) (sub_fix n3 _ _ (sub_fix n2 _ _ (if_pos rfl))) (r.mono fun a o e => sub_fix n3 _ _ (sub_fix n2 _ _ (sub_fix n1 _ _ e)))
  refine e_cons ?_
  refine r_if O (0 < svs.length) ?_ (fun s O g0 => ?_) (fun s O g0 => ?_)
  · skip
    refine e_plain ?_
    refine r_name O (kd hc) (by rfl) ?_
    refine r_truthyL O (O.im _ _ e) (by lia) fun s O => ?_
    exact ⟨O, decide_eq_true_iff⟩
  rotate_left
  · skip
    have h0 : svs = [] := List.length_eq_zero_iff.mp (by lia)
    refine wpAny_execs_nil ?_
    refine wpAny_execs_nil ?_
    exact fin _ s ⟨0, by rw [h0]⟩ O
  refine e_cons ?_
  refine wpAny_mono (E := ESt G c (fun _ _ => False)) ?_ (fun f s h => h) (fun y s h => ?_)
  rotate_left
  · obtain ⟨x, st', h1, h2, h3, h4⟩ := h; exact (h4 0).elim
  refine wpAny_For ?_
  refine r_name O (kd hc) (by rfl) ?_
  refine r_seq_loop (k := false) (fun i st => ∃ k, st = ⟨st.m, I, [(p, lst (svs.take i) k), (x, instObj 1660 dx), (dx, od)]⟩ ∧ st.m "self" = some (.ref x)) B.h H O e (kd hc) B.f ⟨0, rfl, rfl⟩ (fun i v st Wi s hi hJ O => ?_) (fun st s hJ O _ => ?_)
  · skip
    obtain ⟨k, hst, hms⟩ := hJ
    obtain ⟨m, I', W'⟩ := st
    cases hst
    dsimp only at O hms
    obtain ⟨t, ht, hrt⟩ := r.get hi
    have B' : Bud A hd ((c.re I).env :: c.outer) (d + 1) (u + 3) := B
    refine e_cons ?_
    refine r_if (c := c.re I) O True ?_ (fun s O g0 => ?_) (fun s O g0 => absurd trivial g0)
    · skip
      refine e_plain ?_
      refine k_def (c := c.re I) O (kd hc) (kn hK) (kk hK (by k_is)) ?_
      refine k_arg (c := c.re I) O (kd hc) (by rfl) ?_
      refine spliced_none ⟨O.In, ?_⟩
      refine r_pure (c := c.re I) O B' (isd_spec hK hrt fun s O _ => ?_)
      refine wpAny_truthy_bool ?_
      exact ⟨O, iff_yes trivial⟩
    refine e_cons ?_
    refine r_expr (c := c.re I) O ?_
    refine e_meth ?_
    refine e_att ?_
    refine r_name (c := c.re I) O (kd hc) hms ?_
    have hx : s.heap.get? x = some (instObj 1660 dx) := O.wr (x, instObj 1660 dx) (by simp)
    have hd : s.heap.get? dx = some od := O.wr (dx, od) (by simp)
    refine r_getA (c := c.re I) O (⟨hx, rfl, rfl, hd⟩ : InstAt s.heap x _ 1660 (some od)) (by rw [hK]; rfl) (v := .ref p) (by rw [hK, hes']; rfl) rfl fun s O => ?_
    refine r_getAppend (c := c.re I) O (vs := svs.take i) (n := k) (l := p) (by simp) ?_
    refine PyProof.Rows.callWith_method1 ?_
    refine k_arg (c := c.re I) O (kd hc) (by rfl) ?_
    refine spliced_none ?_
    have hil := (List.getElem?_eq_some_iff.mp hi).1
    refine r_append (c := c.re I) (W1 := Wi) (W2 := [(x, instObj 1660 dx), (dx, od)]) O (by rw [List.length_take, sizeLine_eq]; lia) fun s n2 O => ?_
    refine wpAny_execs_nil ?_
    refine wpAny_execs_nil ?_
    exact ⟨⟨ov [("e", v)] m, I, (p, lst _ n2) :: [(x, instObj 1660 dx), (dx, od)]⟩, ⟨n2, by rw [List.take_add_one, hi]; rfl, hms⟩, O⟩
  · skip
    obtain ⟨k, hst, hms⟩ := hJ
    rw [List.take_length] at hst
    refine wpAny_execs_nil ?_
    refine wpAny_execs_nil ?_
    exact fin st s ⟨k, hst⟩ O
end
section
open PySem.Builtin
noncomputable abbrev teO (cls : String) (t : Addr) (cx : Value) : Obj := { cls := .type cls, data := .fields #[.ref t, .none, cx, .none, .bool false, .none] }
section
variable {prog : Program} {w : World} {A : Around} {E : VP} {s : Shared} {env : Env}
theorem raiseStmt_hd {cls : String} {hd : Option Value} (F : ExcRaiseFacts cls) {x : Sem Value} {Q : Flow → Shared → Prop} (hh : A.handled = hd)
    (h : wpAny (model prog w) A x (fun v s₁ => ∃ e t, v = .ref e ∧ s₁.heap.get? e = some (teO cls t .none) ∧ HdH hd s₁.heap.get? ∧ hd ≠ some (.ref e) ∧ ∀ h' cx, (∀ b o, b ≠ e → s₁.heap.get? b = some o → h'.get? b = some o) → h'.get? e = some (teO cls t cx) → (hd = none → cx = .none) → E (.ref e) { s₁ with heap := h' }) E s) :
    wpAny (model prog w) A (raiseStmt env (some x) none) Q E s := by
  unfold raiseStmt
  refine wpAny_bind (wpAny_mono h (fun v s₁ h₁ => ?_) fun _ _ x => x)
  obtain ⟨e, t, rfl, he, H, hne, hE⟩ := h₁
  have hsub := F.isExc
  have hmeta := F.plainMeta
  rcases H with rfl | ⟨a, oe, ws, rfl, ea, hda, h2⟩
  · obtain ⟨hp, g, d, tk, os⟩ := s₁
    repeat (first | refine wpAny_loadPart he ?_ | wp_step)
    exact wpAny_raiseNew_none hh (hE hp .none (fun _ _ _ e => e) he fun _ => rfl)
  · have n : a ≠ e := fun q => hne (by rw [q])
    have k := hE (s₁.heap.update e (Obj.mapFields (·.setIfInBounds 2 (.ref a)))) (.ref a) (fun b o hb eb => (Heap.get?_update_other _ _ (Ne.symm hb)).trans eb) (Heap.get?_update_self _ he rfl) (fun q => by cases q)
    obtain ⟨hp, g, d, tk, os⟩ := s₁
    repeat (first | refine wpAny_loadPart he ?_ | wp_step)
    exact raiseNew_held (s := ⟨hp, g, d, tk, os⟩) hh n ea hda h2 he rfl (by simp) k
end
variable {G : Base} {c : Fm} {st : St} {s : Shared} {A : Around} {E : VP}
theorem r_raiseT {cls newId initId : String} {hd : Option Value} (FC : ExcCallFacts cls newId initId) (FR : ExcRaiseFacts cls) {x : Str} {np cpos pos : Pos} {e₀ : PySem.Expr} {rest : List PySem.Expr} {Q : Flow → Shared → Prop} (O : Ok G c st s) (hh : A.handled = hd) (H : HdH hd st.I)
    (hx : c.env.kindOf x = some .globalImplicit) (e : nsIn G.K mainGlobals x = some none) (hb : bootBuiltins x = some (.type cls))
    (h : wpAny (model G.prog G.w) A (spliced (backTo cpos (starEach (e₀ :: rest) c.env))) (fun vs s₂ => Ok G c st s₂ ∧ vs.length ≤ 1000) E s)
    (hE : ∀ y s', Ok G c st s' → NewX c st y s' → y.cls = .type cls → (hd = none → y.cx = .none) → E (.ref y.a) s')
    (he : starEach (e₀ :: rest) c.env = (false, eval e₀ c.env) :: starEach rest c.env := by rfl) (hplain : (backTo cpos (starEach rest c.env)).any (·.1) = false := by rfl)
    (ha : exec (.Raise (some (.Call (.Name x np) (e₀ :: rest) [] cpos)) none pos) c.env = (do standAt pos; raiseStmt c.env (some (do let v ← eval (.Call (.Name x np) (e₀ :: rest) [] cpos) c.env; standAt pos; pure v)) none) := by rfl)
    (hn : x ≠ "__name__" := by decide +kernel) (hd' : (x == ("__debug__" : Str)) = false := by decide +kernel) :
    wpAny (model G.prog G.w) A (exec (.Raise (some (.Call (.Name x np) (e₀ :: rest) [] cpos)) none pos) c.env) Q E s := by
  rw [ha]
  refine wpAny_bind (wpAny_standAt (raiseStmt_hd FR hh (wpAny_bind (wpAny_mono (Q := fun v s₁ => ∃ e t, v = .ref e ∧ s₁.heap.get? e = some (teO cls t .none) ∧ HdH hd s₁.heap.get? ∧ hd ≠ some (.ref e) ∧ ∀ h' cx, (∀ b o, b ≠ e → s₁.heap.get? b = some o → h'.get? b = some o) → h'.get? e = some (teO cls t cx) → (hd = none → cx = .none) → E (.ref e) { s₁ with heap := h' }) (E := E) ?_ (fun v s₁ h₁ => wpAny_bind (wpAny_standAt (wpAny_pure h₁))) fun _ _ x => x))))
  refine wpAny_Call_ofName (r_blt O hx e hb ?_ hn hd')
  refine callWith_excType (by rw [he]; show (false || (backTo cpos (starEach rest c.env)).any (·.1)) = false; rw [hplain]; rfl) ?_
  rw [he] at h ⊢
  refine Calls.evalArgs_plain (wpAny_mono h (fun vs s₂ h₂ => ?_) fun _ _ y => y)
  obtain ⟨O2, hl⟩ := h₂
  obtain ⟨hp, g, d, tk, os⟩ := s₂
  refine wpAny_call_exc FC (hrest := sz_small (Nat.le_trans hl (by decide))) fun h' ex hm => ?_
  obtain ⟨t, ht, _, _⟩ := hm.there
  have hnew := hm.new
  refine ⟨ex, t, rfl, ht, H.mono fun a o ea => hm.keeps _ _ (O2.im _ _ ea), fun q => ?_, fun h2 cx hk he2 hcx => ?_⟩
  · rcases H with r | ⟨a, oe, ws, r, ea, _⟩
    · rw [r] at q; cases q
    · rw [r] at q; cases q
      have := O2.im _ _ ea
      rw [hnew] at this; cases this
  · have O3 := O2.grown (s' := ⟨h2, g, d, tk, os⟩) (fun a o ea => hk a o (fun q => by rw [q, hnew] at ea; cases ea) (hm.keeps _ _ ea)) rfl rfl
    exact hE ⟨ex, 0, .type cls, none, cx⟩ _ O3 ⟨⟨_, _, he2, rfl, rfl, rfl, rfl, rfl⟩, off_fresh O2 hnew⟩ rfl hcx
end
section
open PyProof.Rows.LCg (NsObj ns_obj)
variable {G : Base} {c : Fm} {st : St} {s : Shared} {A : Around}
theorem est_end {E₁ : Ex → St → Prop} {E : Ex → Hp → Ws → Prop} {e : Value} (h : ESt G c E₁ e s) (k : ∀ x st, E₁ x st → E x st.I []) : EndX G c E e s := by
  obtain ⟨x, ⟨m, I, W⟩, rfl, O, X, hx⟩ := h
  exact ⟨x, m, I, [], rfl, Ok.drop (W1 := W) (W := []) (by rw [List.append_nil]; exact O), X.sub (fun p hp => by cases hp), fun tb => k _ _ (hx tb)⟩
theorem szL_get {ts : List Th} {i : Nat} {t : Th} (h : ts[i]? = some t) : (fm t).dp ≤ It.dpL (fmL ts) ∧ (fm t).sz ≤ It.szL (fmL ts) := by
  have := List.mem_of_getElem? (fmL_get h)
  exact ⟨dpL_memR this, szL_memR this⟩
theorem okL_get : ∀ {ts : List Th} {i : Nat} {t : Th}, okL ts = true → ts[i]? = some t → okT t = true
  | _ :: _, 0, _, h, e => by rw [okL] at h; simp at e h; exact e ▸ h.1
  | _ :: ts, i + 1, _, h, e => by rw [okL] at h; simp at e h; exact okL_get h.2 e
set_option maxHeartbeats 0 in
theorem is_spec (hK : G.K = KK G.w.params) {hd : Option Value} : ∀ (n : Nat) (t : Th), (fm t).dp < n → (fm t).sz ≤ 8000000 → ∀ {v : Value} {I : Hp} {Q : Value → Hp → Ws → Prop} {E : Ex → Hp → Ws → Prop}, RepT I v t → HdH hd I →
    (okT t = true → ∀ I' sv, (∀ a o, I a = some o → I' a = some o) → Sed G.w.params I' sv t → Q sv I' []) →
    (okT t = false → ∀ x I', (∀ a o, I a = some o → I' a = some o) → x.cls = .type "TypeError" → (hd = none → x.cx = .none) → E x I' []) → Cl G (.ref 1763) [v] hd (n + 5 + 1) (3 * n + 20 + 3) I [] Q E
  | 0, _, h => absurd h (by lia)
  | n + 1, t, hn => by
    intro hz v I Q E hr H hq hx
    refine enterK (binds := [("obj", v)]) (kl hK) (kc hK) (by rfl) (by rfl) (by rfl) (by rfl) (by rfl) (by rfl) fun c A s hc O B => ?_
    refine e_cons ?_
    refine r_if O (∃ i, t = .n i ∧ 0 ≤ i) ?_ (fun s O g0 => ?_) (fun s O g0 => ?_)
    · skip
      refine e_and ?_
      refine isTrue_not ?_
      refine e_plain ?_
      refine k_is1 O hr (kd hc) (kn hK) (kd hc) (by rfl) (kd hc) (kn hK) PyProof.Rows.Boot.«bool» (kBo t) fun s O => ?_
      refine wpAny_truthy_bool ?_
      refine ite_b (fun hb => ?_) (fun hb => ⟨O, iff_no (by rintro ⟨i, rfl, _⟩; cases hb)⟩)
      refine e_and ?_
      refine e_plain ?_
      refine k_is1 O hr (kd hc) (kn hK) (kd hc) (by rfl) (kd hc) (kn hK) PyProof.Rows.Boot.«int» (kIn t) fun s O => ?_
      refine wpAny_truthy_bool ?_
      refine ite_b (fun hi => ?_) (fun hi => ⟨O, iff_no (by rintro ⟨i, rfl, _⟩; cases hi)⟩)
      obtain ⟨i, rfl⟩ : ∃ i, t = .n i := by
        cases t <;> first | exact ⟨_, rfl⟩ | (cases hi; done) | (cases hb; done)
      cases hr with
      | n _ tk =>
        refine e_and ?_
        refine e_icmp ?_
        refine r_name O (kd hc) (by rfl) ?_
        refine r_int O fun k1 s O => ?_
        refine ge_int ?_
        refine wpAny_truthy_bool ?_
        refine ite_dec (fun h0 => ?_) (fun h0 => ⟨O, iff_no (by rintro ⟨j, e, hj⟩; cases e; exact h0 hj)⟩)
        exact isTrue_and_nil ⟨O, iff_yes ⟨_, rfl, h0⟩⟩
    · skip
      obtain ⟨i, rfl, hi⟩ := g0
      refine k_ret ?_
      refine r_glob O (kd hc) (kn hK) ?_
      exact ⟨_, I, _, O, hq (by simp [okT, hi]) I _ (fun _ _ e => e) (.n hi)⟩
    refine e_cons ?_
    refine r_if O (isBy t = true) ?_ (fun s O g1 => ?_) (fun s O g1 => ?_)
    · skip
      refine e_plain ?_
      refine e_meth ?_
      refine r_glob O (kd hc) (kn hK) ?_
      refine r_cmGet (C := 1570) (p := 1545) (f := .ref 1543) O (by rw [hK]; rfl) (mc := .type "type") (by rw [hK]; rfl) (by rw [hK]; rfl) (rest := _) (by rw [hK]; rfl) fun q s O => ?_
      refine r_defB (q := q) (g := 1543) (self := .ref 1570) (by rw [hK]; rfl) ?_
      refine k_arg O (kd hc) (by rfl) ?_
      refine spliced_none ⟨⟨O.wr (q, methodObj (.ref 1543) (.ref 1570)) (.head _), O.In⟩, ?_⟩
      refine r_call (E' := fun _ _ _ => False) (Wc := [(q, methodObj (.ref 1543) (.ref 1570))]) (Wr := []) O B ((ivt_spec hK (W := []) (d := 0) (u := 0) hr fun s O _ => ?_).le (by lia) (by lia)) fun _ _ _ _ _ _ _ _ h => h.elim
      refine wpAny_truthy_bool ?_
      exact ⟨O.drop (W1 := [(q, _)]), Iff.rfl⟩
    · skip
      refine k_ret ?_
      refine r_glob O (kd hc) (kn hK) ?_
      cases t <;> first | (cases g1; done) | skip
      · exact ⟨_, I, _, O, hq rfl I _ (fun _ _ e => e) (.o _)⟩
      · exact ⟨_, I, _, O, hq rfl I _ (fun _ _ e => e) (.ba _)⟩
    refine e_cons ?_
    refine r_if O (isSq t = true) ?_ (fun s O g2 => ?_) (fun s O g2 => ?_)
    · skip
      refine e_plain ?_
      refine k_isT O hr (kd hc) (kn hK) (kd hc) (by rfl) (kd hc) (kn hK) PyProof.Rows.Boot.«list» (kd hc) (kn hK) PyProof.Rows.Boot.«tuple» (kSq t) fun s O => ?_
      refine wpAny_truthy_bool ?_
      exact ⟨O, Iff.rfl⟩
    · skip
      obtain ⟨kt, ts, rfl⟩ : ∃ k ts, t = .sq k ts := by
        cases t <;> first | exact ⟨_, _, rfl⟩ | (cases g2; done)
      cases hr with
      | @sq a _ vs nn _ e r =>
      have lent := r.length
      have lenf := fmL_len ts
      rw [fm, It.dp] at hn
      rw [fm, It.sz] at hz
      have hvl := len_szL (fmL ts)
      refine k_ret ?_
      refine k_def O (kd hc) (kn hK) (kk hK (by k_is)) ?_
      refine e_more ?_
      refine r_compS (kd := kt) (E₁ := fun x st => okL ts = false ∧ (∀ a o, I a = some o → st.I a = some o) ∧ x.cls = .type "TypeError" ∧ (hd = none → x.cx = .none)) B.f (fun e s h => est_end h fun x st h => hx h.1 x st.I h.2.1 h.2.2.1 h.2.2.2) (fun i I' W' ys => W' = [] ∧ okL (ts.take i) = true ∧ SedL G.w.params I' ys (ts.take i)) B.h H (kd hc) (by rfl) e (by lia) (by rfl) (by rfl) (by rfl) (by rfl) (by rfl) O ⟨rfl, rfl, .nil⟩ (fun i v C oC D k I' W' Wi ys s hi hJ hyl hsub O hC => ?_) (fun D I' W' ys k s hJ hyl hsub O => ?_)
      · skip
        obtain ⟨rfl, hok, hJ⟩ := hJ
        obtain ⟨mC, nsC, hmC⟩ := hC
        obtain ⟨t, ht, hrt⟩ := r.get hi
        obtain ⟨h2, h1⟩ := szL_get ht
        refine tests_nil ?_
        rw [if_pos rfl]
        refine e_call ?_
        refine r_cglob O (by rfl) (by rfl) (kn hK) ?_
        refine r_def (kk hK (by k_is)) ?_
        refine e_more ?_
        refine r_cname (O.wr (C, oC) (.head _)) nsC (by rfl) (by rfl) hmC ?_
        refine spliced_none ⟨O.In, ?_⟩
        refine r_call (Wc := []) (E' := fun x I' W' => okT t = false ∧ (∀ a o, I a = some o → I' a = some o) ∧ x.cls = .type "TypeError" ∧ (hd = none → x.cx = .none) ∧ W' = []) O B ((is_spec hK n t (by lia) (by lia) (hrt.mono hsub) (H.mono hsub) (fun ho I2 sv hs2 hsv s O _ => ?_) (fun ho x I2 hs2 hcl hcx => ⟨ho, fun a o e => hs2 _ _ (hsub _ _ e), hcl, hcx, rfl⟩)).le (by lia) (by lia)) fun x I2 W2 s2 O2 hs2 F2 hn2 h => ?_
        · exact ⟨I2, [], ⟨rfl, by rw [List.take_add_one, ht]; simp [okL_append, hok, okL, ho], by rw [List.take_add_one, ht]; exact (hJ.mono hs2).snoc hsv⟩, hs2, O⟩
        · obtain ⟨ho, hs3, hcl, hcx, rfl⟩ := h
          refine ⟨x, I2, _, oC, mC, rfl, nsC, O2, .inr (.inl (F2.tr (st' := ⟨_, I2, _⟩) O hn2)), fun tb => ⟨?_, hs3, hcl, hcx⟩⟩
          cases q : okL ts with
          | false => rfl
          | true => have := okL_get q ht; rw [ho] at this; cases this
      · skip
        obtain ⟨rfl, hok, hJ⟩ := hJ
        rw [lent, List.take_length] at hJ hok
        have n1 := O.wI _ (.head _)
        have O := O.fix
        refine spliced_none ⟨O.In, ?_⟩
        refine r_newI (C := 1660) (fI := 1636) (d := n + 5) (u := 3 * n + 22) O B ⟨by rw [hK]; rfl, by rw [hK]; rfl, by rw [hK]; rfl⟩ fun x dx => ?_
        refine (li_spec hK (l := D) (svs := ys) (ts := ts) (kt := kt) (nn := k) (d := 0) (u := 0) (if_pos rfl) (hJ.mono (sub_fix n1)) (by lia) (H.mono fun a o e => sub_fix n1 _ _ (hsub _ _ e)) fun I2 hs2 hsd => ?_).le (by lia) (by lia)
        exact ⟨rfl, fun s O hs3 => ⟨_, _, _, O, hq hok I2 _ (fun a o e => hs2 _ _ (sub_fix n1 _ _ (hsub _ _ e))) hsd⟩⟩
    refine e_cons ?_
    refine r_if O (isBo t = true) ?_ (fun s O g3 => ?_) (fun s O g3 => ?_)
    · skip
      refine e_plain ?_
      refine k_is1 O hr (kd hc) (kn hK) (kd hc) (by rfl) (kd hc) (kn hK) PyProof.Rows.Boot.«bool» (kBo t) fun s O => ?_
      refine wpAny_truthy_bool ?_
      exact ⟨O, Iff.rfl⟩
    · skip
      refine k_ret ?_
      refine r_glob O (kd hc) (kn hK) ?_
      cases t <;> first | (cases g3; done) | skip
      exact ⟨_, I, _, O, hq rfl I _ (fun _ _ e => e) (.b _)⟩
    have hbad : okT t = false := by
      cases t with
      | no => rfl
      | n i => exact decide_eq_false fun h => g0 ⟨i, rfl, h⟩
      | b x => exact absurd rfl g3
      | o x => exact absurd rfl g1
      | ba x => exact absurd rfl g1
      | sq k ts => exact absurd rfl g2
    refine wpAny_execs_nil ?_
    refine wpAny_execs_nil ?_
    refine wpAny_execs_nil ?_
    refine wpAny_execs_nil ?_
    refine k_asg ?_
    refine r_str O fun k1 s O => ?_
    refine r_store O.over (kd hc) fun s O => ?_
    refine e_cons ?_
    refine wpAny_mono (E := ESt G c (fun x st => (∀ a o, I a = some o → st.I a = some o) ∧ x.cls = .type "TypeError" ∧ (hd = none → x.cx = .none))) ?_ (fun f s h => h) (fun y s h => est_end h fun x st h => hx hbad x st.I h.1 h.2.1 h.2.2)
    refine r_raiseT PySem.F.excCall_TypeError PySem.F.excRaise_TypeError O B.h H (kd hc) (kn hK) PyProof.Rows.Boot.«TypeError» ?_ fun y s' O' X hcl hcx => ⟨y, _, rfl, O', .inl X, fun tb => ⟨fun _ _ e => e, hcl, hcx⟩⟩
    refine k_arg O (kd hc) (by rfl) ?_
    exact spliced_none ⟨O, by simp⟩
end
section
variable {G : Base} {c : Fm} {st : St} {s : Shared} {A : Around}
theorem toBE_spec (hK : G.K = KK G.w.params) {n : Nat} {t1 : Tok} (hn : n ≠ 0) (hb : n < 256 ^ 1000) {d u : Nat} {I : Hp} {W : Ws} {Q : Value → Hp → Ws → Prop} {E : Ex → Hp → Ws → Prop}
    (h : ∀ t, Q (.bytes (bytesOf (be n)).toArray t) I W) : Cl G (.ref 1471) [.int n t1] none (d + 1) (u + 3) I W Q E := by
  refine enterK (binds := [("value", .int n t1)]) (kl hK) (kc hK) (by rfl) (by rfl) (by rfl) (by rfl) (by rfl) (by rfl) fun c A s hc O B => ?_
  have hl8 := be_len 1000 n hb
  have hI := intBits_be hn
  have hl0 : (be n).length ≠ 0 := by rw [be_pos hn, List.length_append, List.length_singleton]; lia
  refine k_ret ?_
  refine e_meth ?_
  refine r_name O (kd hc) (by rfl) ?_
  refine KTBy.method ?_
  refine c_m1 ?_
  refine e_more ?_
  refine BoolOp_or ?_
  refine e_bin ?_
  refine e_bin ?_
  refine e_meth ?_
  refine r_name O (kd hc) (by rfl) ?_
  refine getMethod_int_bit_length ?_
  refine PyProof.Rows.callWith_method0 ?_
  refine call_int_bit_length ?_
  have O : Ok G c _ _ := O.toks (k := s.toks + 1)
  refine r_int O fun k1 s O => ?_
  refine r_add O fun k2 s O => ?_
  refine r_int O fun k3 s O => ?_
  refine r_fdiv O (by decide) fun k4 s O => ?_
  have eL : ((Builtin.Int.intBits (n : Int) : Int) + 7) / 8 = (((be n).length : Nat) : Int) := by lia
  rw [eL]
  refine truthy_int ?_
  rw [show ((((be n).length : Nat) : Int) != 0) = true from bne_iff_ne.mpr (by lia)]
  refine ite_t ?_
  refine e_more ?_
  refine r_str O fun k5 s O => ?_
  refine spliced_none ?_
  have hp := (be_pow n).1
  refine BN.to_big hl8 (KTBy.p256 _) (Int.natCast_nonneg n) (Int.ofNat_lt.mpr hp) fun b t' k' hbi => ?_
  rw [little_be] at hbi
  have eb := bytes_of_ints (be_lt n) hbi
  have eb' : b = (bytesOf (be n)).toArray := by rw [← eb]
  subst eb'
  exact ⟨_, I, W, O.toks, h _⟩
theorem all_bytes {P : Params} {k : Nat} (h : k < 256) : (bytesTo 256)[k]? = some (.bytes #[UInt8.ofNat k] (397 + 3 * k)) := by
  unfold bytesTo
  rw [List.getElem?_map, List.getElem?_range h]; rfl
theorem lp_spec (hK : G.K = KK G.w.params) {n off : Nat} {t1 t2 : Tok} (ho : off = 128 ∨ off = 192) (hb : n ≤ 16000000) {d u : Nat} {I : Hp} {W : Ws} {Q : Value → Hp → Ws → Prop} {E : Ex → Hp → Ws → Prop}
    (h : ∀ t, Q (.bytes (bytesOf (headF off n false)).toArray t) I W) : Cl G (.ref 1729) [.int n t1, .int off t2] none (d + 2 + 1) (u + 5 + 3) I W Q E := by
  refine enterK (binds := [("length", .int n t1), ("offset", .int off t2)]) (kl hK) (kc hK) (by rfl) (by rfl) (by rfl) (by rfl) (by rfl) (by rfl) fun c A s hc O B => ?_
  refine e_cons ?_
  refine r_if O (n < 56) ?_ (fun s O gA => ?_) (fun s O gB => ?_)
  · skip
    refine e_icmp ?_
    refine r_name O (kd hc) (by rfl) ?_
    refine r_int O fun k1 s O => ?_
    refine lt_int ?_
    refine wpAny_truthy_bool ?_
    exact ⟨O, iff_dec (by lia)⟩
  · skip
    refine k_ret ?_
    refine e_sub ?_
    refine r_glob O (kd hc) (kn hK) ?_
    refine e_bin ?_
    refine r_name O (kd hc) (by rfl) ?_
    refine r_name O (kd hc) (by rfl) ?_
    refine r_add O fun k2 s O => ?_
    have X := O.In
    refine r_itemT (X _ _ (kl hK (a := 1450) (by k_is))) (by simp [bytesTo]) (by lia) (v := .bytes #[UInt8.ofNat (off + n)] (397 + 3 * (off + n))) (by rw [show ((off : Int) + (n : Int)).toNat = off + n by lia]; exact all_bytes (P := G.w.params) (by lia)) ?_
    have e : (bytesOf (headF off n false)).toArray = #[UInt8.ofNat (off + n)] := by rw [headF_short gA]; rfl
    rw [e] at h
    exact ⟨_, I, W, O, h _⟩
  refine e_cons ?_
  refine r_if O True ?_ (fun s O gA => ?_) (fun s O gB => absurd trivial gB)
  · skip
    refine e_icmp ?_
    refine r_name O (kd hc) (by rfl) ?_
    refine r_glob O (kd hc) (kn hK) ?_
    refine lt_int ?_
    refine wpAny_truthy_bool ?_
    refine ⟨O, iff_dec ⟨fun _ => trivial, fun _ => ?_⟩⟩
    lia
  have hn0 : n ≠ 0 := by lia
  have hl8 := be_len 8 n (by lia)
  have hl0 : (be n).length ≠ 0 := by rw [be_pos hn0, List.length_append, List.length_singleton]; lia
  refine k_asg ?_
  refine k_def O (kd hc) (kn hK) (kk hK (by k_is)) ?_
  refine k_arg O (kd hc) (by rfl) ?_
  refine spliced_none ⟨O.In, ?_⟩
  refine r_pure O B ((toBE_spec hK hn0 (by lia) (d := 0) (u := 0) fun kv s O _ => ?_).le (by lia) (by lia))
  refine r_store O (kd hc) fun s O => ?_
  refine k_ret ?_
  refine e_bin ?_
  refine e_sub ?_
  refine r_glob O (kd hc) (kn hK) ?_
  refine e_bin ?_
  refine e_bin ?_
  refine e_bin ?_
  refine r_name O (kd hc) (by rfl) ?_
  refine r_int O fun k3 s O => ?_
  refine r_add O fun k4 s O => ?_
  refine r_int O fun k5 s O => ?_
  refine r_sub O fun k6 s O => ?_
  refine k_lenB O (kd hc) (kn hK) (kd hc) (by rfl) (by simp [bytesOf]; lia) fun k7 s O => ?_
  refine r_add O fun k8 s O => ?_
  have X := O.In
  have ei : ((off : Int) + 56 - 1 + ((bytesOf (be n)).length : Nat)) = ((off + 55 + (be n).length : Nat) : Int) := by simp [bytesOf]; lia
  rw [ei]
  refine r_itemT (X _ _ (kl hK (a := 1450) (by k_is))) (by simp [bytesTo]) (by lia) (v := .bytes #[UInt8.ofNat (off + 55 + (be n).length)] (397 + 3 * (off + 55 + (be n).length))) (by rw [Int.toNat_natCast]; exact all_bytes (P := G.w.params) (by lia)) ?_
  refine r_name O (kd hc) (by rfl) ?_
  refine r_addB (x := [UInt8.ofNat (off + 55 + (be n).length)]) O (by simp [bytesOf]; lia) fun k9 s O => ?_
  have e : bytesOf (headF off n false) = [UInt8.ofNat (off + 55 + (be n).length)] ++ bytesOf (be n) := by rw [headF_long (by lia)]; rfl
  rw [e] at h
  exact ⟨_, I, W, O, h _⟩
end
section
open PyProof.Rows.LCg (NsObj ns_obj)
variable {G : Base} {c : Fm} {st : St} {s : Shared} {A : Around}
theorem ivl_spec (hK : G.K = KK G.w.params) {n : Nat} {t1 : Tok} {d u : Nat} {I : Hp} {W : Ws} {Q : Value → Hp → Ws → Prop} {E : Ex → Hp → Ws → Prop}
    (h : Q (.bool true) I W) : Cl G (.ref 1553) [.ref 1576, .int n t1] none (d + 1) (u + 3) I W Q E := by
  refine enterK (binds := [("self", .ref 1576), ("length", .int n t1)]) (kl hK) (kc hK) (by rfl) (by rfl) (by rfl) (by rfl) (by rfl) (by rfl) fun c A s hc O B => ?_
  refine k_ret ?_
  refine e_call ?_
  refine r_blt O (kd hc) (kn hK) PyProof.Rows.Boot.«any» ?_
  refine c_b1 ?_
  refine e_more ?_
  refine e_tup ?_
  refine e_more ?_
  refine BoolOp_and ?_
  refine e_cmp ?_
  refine e_att ?_
  refine r_name O (kd hc) (by rfl) ?_
  refine r_getA O (⟨O.In _ _ (kl hK (a := 1576) (by k_is)), rfl, rfl, O.In _ _ (kl hK (a := 1575) (by k_is))⟩ : InstAt s.heap 1576 _ 1570 (some _)) (by rw [hK]; rfl) (v := .int 0 1342) (by rw [hK]; rfl) rfl fun s O => ?_
  refine r_name O (kd hc) (by rfl) ?_
  refine le_int ?_
  refine wpAny_truthy_bool ?_
  rw [show decide ((0 : Int) ≤ (n : Int)) = true from decide_eq_true (Int.natCast_nonneg n)]
  refine ite_t ?_
  refine BoolOp_one ?_
  refine BoolOp_or ?_
  refine e_cmp ?_
  refine e_att ?_
  refine r_name O (kd hc) (by rfl) ?_
  refine r_getA O (⟨O.In _ _ (kl hK (a := 1576) (by k_is)), rfl, rfl, O.In _ _ (kl hK (a := 1575) (by k_is))⟩ : InstAt s.heap 1576 _ 1570 (some _)) (by rw [hK]; rfl) (v := .none) (by rw [hK]; rfl) rfl fun s O => ?_
  refine r_none ?_
  refine is_none_gen ?_
  refine wpAny_truthy_bool ?_
  refine ite_t ?_
  refine e_more ?_
  refine BoolOp_and ?_
  refine e_att ?_
  refine r_name O (kd hc) (by rfl) ?_
  refine r_getA O (⟨O.In _ _ (kl hK (a := 1576) (by k_is)), rfl, rfl, O.In _ _ (kl hK (a := 1575) (by k_is))⟩ : InstAt s.heap 1576 _ 1570 (some _)) (by rw [hK]; rfl) (v := .bool false) (by rw [hK]; rfl) rfl fun s O => ?_
  refine wpAny_truthy_bool ?_
  refine ite_f ?_
  refine spliced_none ?_
  refine r_newTuple O (sz_small (by simp)) fun a0 s O => ?_
  refine spliced_none ?_
  refine r_anyT (bs := [_, false]) O B.h fun s O => ?_
  exact ⟨_, I, W, O.drop (W1 := [(a0, _)]), h⟩
theorem k_lenV {y : Str} {v : Value} {b : List UInt8} {p p2 pos : Pos} {Q : VP} {E : VP} (O : Ok G c st s) (bv : Bv st.I v b) (hx : c.env.kindOf "len" = some .globalImplicit) (e : nsIn G.K mainGlobals "len" = some none) (hl : c.env.kindOf y = some .local) (hv : st.m y = some v) (hz : b.length ≤ 16777216)
    (h : ∀ t s', Ok G c st s' → Q (.int b.length t) s') (hd : (y == ("__debug__" : Str)) = false := by decide +kernel)
    (he : eval (.Call (.Name "len" p) [.Name y p2] [] pos) c.env = (do callWith pos (← eval (.Name "len" p) c.env) [] (backTo pos (starEach [.Name y p2] c.env)) (backToKw pos (keywordEach [] c.env))) := by rfl) :
    wpAny (model G.prog G.w) A (eval (.Call (.Name "len" p) [.Name y p2] [] pos) c.env) Q E s := by
  cases bv with
  | b x t => exact k_lenB O hx e hl hv hz h hd he
  | @a a _ ea =>
    refine e_call ?_ he
    refine r_blt O hx e PyProof.Rows.Boot.«len» ?_
    refine c_b1 ?_
    refine k_arg O hl hv ?_ hd
    refine spliced_none ?_
    exact BA.len (O.im _ _ ea) hz fun t k => h t _ O.toks
theorem bser_spec (hK : G.K = KK G.w.params) {I : Hp} {v : Value} {t : Th} {x : List UInt8} (hr : RepT I v t) (hb : isBy t = true) (bv : Bv I v x) (hz : x.length ≤ 8000000) {d u : Nat} {W : Ws} {Q : Value → Hp → Ws → Prop} {E : Ex → Hp → Ws → Prop}
    (h : Q v I W) : Cl G (.ref 1560) [.ref 1576, v] none (d + 1 + 1) (u + 3 + 3) I W Q E := by
  refine enterK (binds := [("self", .ref 1576), ("obj", v)]) (kl hK) (kc hK) (by rfl) (by rfl) (by rfl) (by rfl) (by rfl) (by rfl) fun c A s hc O B => ?_
  refine e_cons ?_
  refine r_if O False ?_ (fun s O g0 => g0.elim) (fun s O g0 => ?_)
  · skip
    refine isTrue_not ?_
    refine e_plain ?_
    refine e_meth ?_
    refine r_glob O (kd hc) (kn hK) ?_
    refine r_cmGet (C := 1570) (p := 1545) (f := .ref 1543) O (by rw [hK]; rfl) (mc := .type "type") (by rw [hK]; rfl) (by rw [hK]; rfl) (rest := _) (by rw [hK]; rfl) fun q s O => ?_
    refine r_defB (q := q) (g := 1543) (self := .ref 1570) (by rw [hK]; rfl) ?_
    refine k_arg O (kd hc) (by rfl) ?_
    refine spliced_none ⟨⟨O.wr (q, methodObj (.ref 1543) (.ref 1570)) (.head _), O.In⟩, ?_⟩
    refine r_call (E' := fun _ _ _ => False) (Wc := [(q, methodObj (.ref 1543) (.ref 1570))]) (Wr := W) O B (ivt_spec hK (W := []) hr fun s O _ => ?_) fun _ _ _ _ _ _ _ _ h => h.elim
    refine wpAny_truthy_bool ?_
    rw [hb]
    exact ⟨O.drop (W1 := [(q, _)]), iff_no id⟩
  refine wpAny_execs_nil ?_
  refine e_cons ?_
  refine r_if O False ?_ (fun s O g0 => g0.elim) (fun s O g0 => ?_)
  · skip
    refine isTrue_not ?_
    refine e_plain ?_
    refine e_meth ?_
    refine r_name O (kd hc) (by rfl) ?_
    refine method_fn (f := 1553) O.In (⟨O.In _ _ (kl hK (a := 1576) (by k_is)), rfl, rfl, O.In _ _ (kl hK (a := 1575) (by k_is))⟩ : InstAt s.heap 1576 _ 1570 (some _)) (by rw [hK]; rfl) (by rw [hK]; rfl) (by rw [hK]; rfl) (by rw [hK]; rfl) (by rfl) ?_
    refine r_defI (kk hK (by k_is)) ?_
    refine e_more ?_
    refine k_lenV O bv (kd hc) (kn hK) (kd hc) (by rfl) (by lia) fun k1 s O => ?_
    refine spliced_none ⟨O.In, ?_⟩
    refine r_pure O B (ivl_spec hK fun s O _ => ?_)
    refine wpAny_truthy_bool ?_
    exact ⟨O, iff_no id⟩
  refine wpAny_execs_nil ?_
  refine k_ret ?_
  refine r_name O (kd hc) (by rfl) ?_
  exact ⟨_, I, W, O, h⟩
theorem ll_spec (hK : G.K = KK G.w.params) {a dx p : Addr} {tk tk' : Tok} {n k : Nat} {svs : List Value} (hz : svs.length ≤ 1000000) {d u : Nat} {I : Hp} {W : Ws} {Q : Value → Hp → Ws → Prop} {E : Ex → Hp → Ws → Prop}
    (e1 : I a = some (instObj 1660 dx)) (e2 : I dx = some (dicObj (sEs G.w.params tk tk' p) n)) (e3 : I p = some (lst svs k)) (h : ∀ t, Q (.int svs.length t) I W) : Cl G (.ref 1643) [.ref a] none (d + 1) (u + 3) I W Q E := by
  refine enterK (binds := [("self", .ref a)]) (kl hK) (kc hK) (by rfl) (by rfl) (by rfl) (by rfl) (by rfl) (by rfl) fun c A s hc O B => ?_
  refine k_ret ?_
  refine e_call ?_
  refine r_blt O (kd hc) (kn hK) PyProof.Rows.Boot.«len» ?_
  refine c_b1 ?_
  refine e_more ?_
  refine e_att ?_
  refine r_name O (kd hc) (by rfl) ?_
  refine r_getA O (⟨O.im _ _ e1, rfl, rfl, O.im _ _ e2⟩ : InstAt s.heap a _ 1660 (some _)) (by rw [hK]; rfl) (v := .ref p) (by rw [hK]; rfl) rfl fun s O => ?_
  refine spliced_none ?_
  refine r_lenL O (O.im _ _ e3) (by lia) fun t s O => ?_
  exact ⟨_, I, W, O, h t⟩
theorem beser_spec (hK : G.K = KK G.w.params) {i : Int} {t1 : Tok} (hi : 0 ≤ i) (hb : i.natAbs < 256 ^ 40) {d u : Nat} {I : Hp} {W : Ws} {Q : Value → Hp → Ws → Prop} {E : Ex → Hp → Ws → Prop}
    (h : ∀ t, Q (.bytes (bytesOf (be i.toNat)).toArray t) I W) : Cl G (.ref 1493) [.ref 1509, .int i t1] none (d + 1 + 1) (u + 3 + 3) I W Q E := by
  obtain ⟨n, rfl⟩ := Int.eq_ofNat_of_zero_le hi
  have hr : RepT I (.int (n : Int) t1) (.n n) := .n _ _
  have hb' : n < 256 ^ 1000 := Nat.lt_of_lt_of_le (show n < 256 ^ 40 from hb) (Nat.pow_le_pow_right (n := 256) (i := 40) (j := 1000) (by decide) (show 40 ≤ 1000 by decide))
  rw [Int.toNat_natCast] at h
  refine enterK (binds := [("self", .ref 1509), ("obj", .int n t1)]) (kl hK) (kc hK) (by rfl) (by rfl) (by rfl) (by rfl) (by rfl) (by rfl) fun c A s hc O B => ?_
  have lenA : ∀ {st : St} {s : Shared} {Q : VP} {E : VP}, Ok G c st s → (∀ s', Ok G c st s' → Q .none s') → wpAny (model G.prog G.w) A (getAttr (.ref 1509) "length" true) Q E s := fun {st s Q E} O h =>
    r_getA O (⟨O.In _ _ (kl hK (a := 1509) (by k_is)), rfl, rfl, O.In _ _ (kl hK (a := 1508) (by k_is))⟩ : InstAt s.heap 1509 _ 1503 (some _)) (by rw [hK]; rfl) (v := .none) (by rw [hK]; rfl) rfl h
  refine e_cons ?_
  refine r_if O False ?_ (fun s O g0 => g0.elim) (fun s O g0 => ?_)
  · skip
    refine e_or ?_
    refine e_plain ?_
    refine k_is1 O hr (kd hc) (kn hK) (kd hc) (by rfl) (kd hc) (kn hK) PyProof.Rows.Boot.«bool» (kBo _) fun s O => ?_
    refine wpAny_truthy_bool ?_
    refine ite_f ?_
    refine e_or ?_
    refine isTrue_not ?_
    refine e_plain ?_
    refine k_is1 O hr (kd hc) (kn hK) (kd hc) (by rfl) (kd hc) (kn hK) PyProof.Rows.Boot.«int» (kIn _) fun s O => ?_
    refine wpAny_truthy_bool ?_
    refine ite_f ?_
    exact isTrue_or_nil ⟨O, iff_no id⟩
  refine wpAny_execs_nil ?_
  refine e_cons ?_
  refine r_if O False ?_ (fun s O g0 => g0.elim) (fun s O g0 => ?_)
  · skip
    refine e_and ?_
    refine e_icmp ?_
    refine e_att ?_
    refine r_name O (kd hc) (by rfl) ?_
    refine lenA O fun s O => ?_
    refine r_none ?_
    refine isnot_none_gen ?_
    refine wpAny_truthy_bool ?_
    exact ite_f ⟨O, iff_no id⟩
  refine wpAny_execs_nil ?_
  refine e_cons ?_
  refine r_if O False ?_ (fun s O g0 => g0.elim) (fun s O g0 => ?_)
  · skip
    refine e_icmp ?_
    refine r_name O (kd hc) (by rfl) ?_
    refine r_int O fun k1 s O => ?_
    refine lt_int ?_
    refine wpAny_truthy_bool ?_
    exact ⟨O, iff_dec ⟨fun z => by lia, False.elim⟩⟩
  refine wpAny_execs_nil ?_
  refine r_seq (fun s => ∃ (m' : Mp) (t : Tok), Ok G c ⟨m', I, W⟩ s ∧ m' "s" = some (.bytes (bytesOf (be n)).toArray t) ∧ m' "self" = some (.ref 1509)) ?_ fun s hP => ?_
  rotate_left
  · obtain ⟨m', t, O, hs, hself⟩ := hP
    refine e_cons ?_
    refine r_if O False ?_ (fun s O g0 => g0.elim) (fun s O g0 => ?_)
    · skip
      refine e_icmp ?_
      refine e_att ?_
      refine r_name O (kd hc) hself ?_
      refine lenA O fun s O => ?_
      refine r_none ?_
      refine isnot_none_gen ?_
      refine wpAny_truthy_bool ?_
      exact ⟨O, iff_no id⟩
    refine k_ret ?_
    refine r_name O (kd hc) hs ?_
    exact ⟨_, I, _, O, h _⟩
  refine r_if O (n = 0) ?_ (fun s O g0 => ?_) (fun s O g0 => ?_)
  · skip
    refine e_icmp ?_
    refine r_name O (kd hc) (by rfl) ?_
    refine r_int O fun k1 s O => ?_
    refine r_eqi ?_
    refine wpAny_truthy_bool ?_
    exact ⟨O, iff_dec (by lia)⟩
  · skip
    subst g0
    refine k_asg ?_
    refine r_bytes O fun k1 s O => ?_
    refine r_store O.over (kd hc) fun s O => ?_
    refine wpAny_execs_nil ?_
    exact ⟨_, _, O, by rw [be_zero]; rfl, rfl⟩
  · skip
    refine k_asg ?_
    refine k_def O (kd hc) (kn hK) (kk hK (by k_is)) ?_
    refine k_arg O (kd hc) (by rfl) ?_
    refine spliced_none ⟨O.In, ?_⟩
    refine r_pure O B (toBE_spec hK g0 hb' fun t s O _ => ?_)
    refine r_store O.over (kd hc) fun s O => ?_
    refine wpAny_execs_nil ?_
    exact ⟨_, _, O, rfl, rfl⟩
theorem boser_spec (hK : G.K = KK G.w.params) {x : Bool} {d u : Nat} {I : Hp} {W : Ws} {Q : Value → Hp → Ws → Prop} {E : Ex → Hp → Ws → Prop}
    (h : ∀ t, Q (.bytes (if x then [1] else [] : List UInt8).toArray t) I W) : Cl G (.ref 1591) [.ref 1607, .bool x] none (d + 1) (u + 3) I W Q E := by
  have hr : RepT I (.bool x) (.b x) := .b _
  refine enterK (binds := [("self", .ref 1607), ("obj", .bool x)]) (kl hK) (kc hK) (by rfl) (by rfl) (by rfl) (by rfl) (by rfl) (by rfl) fun c A s hc O B => ?_
  refine e_cons ?_
  refine r_if O False ?_ (fun s O g0 => g0.elim) (fun s O g0 => ?_)
  · skip
    refine isTrue_not ?_
    refine e_plain ?_
    refine k_is1 O hr (kd hc) (kn hK) (kd hc) (by rfl) (kd hc) (kn hK) PyProof.Rows.Boot.«bool» (kBo _) fun s O => ?_
    refine wpAny_truthy_bool ?_
    exact ⟨O, iff_no id⟩
  refine wpAny_execs_nil ?_
  refine e_cons ?_
  refine r_if O (x = false) ?_ (fun s O g0 => ?_) (fun s O g0 => ?_)
  · skip
    refine e_icmp ?_
    refine r_name O (kd hc) (by rfl) ?_
    refine r_bool ?_
    refine is_bool ?_
    refine wpAny_truthy_bool ?_
    exact ⟨O, by simp⟩
  · skip
    subst g0
    refine k_ret ?_
    refine r_bytes O fun k1 s O => ?_
    exact ⟨_, I, _, O, h _⟩
  · skip
    obtain rfl : x = true := by simpa using g0
    refine e_cons ?_
    refine r_if O True ?_ (fun s O g0 => ?_) (fun s O g0 => absurd trivial g0)
    · skip
      refine e_icmp ?_
      refine r_name O (kd hc) (by rfl) ?_
      refine r_bool ?_
      refine is_bool ?_
      refine wpAny_truthy_bool ?_
      exact ⟨O, by simp⟩
    refine k_ret ?_
    refine r_bytes O fun k1 s O => ?_
    exact ⟨_, I, _, O, h _⟩
noncomputable def SedM (G : Base) (I : Hp) (sv : Value) (name : Str) (n : Nat) (v : Value) (P : Hp → Value → Prop) : Prop :=
  ∃ f, keepIn G.K (.ref f) = true ∧ (∀ (Q : Value → Hp → Ws → Prop) (E : Ex → Hp → Ws → Prop), (∀ I' r, (∀ a o, I a = some o → I' a = some o) → P I' r → Q r I' []) → Cl G (.ref f) [sv, v] none (n + 5 + 1) (3 * n + 20 + 3) I [] Q E) ∧
    ∀ (A : Around) (s : Shared) (pl : Sem Bool) (Q : Value × List Value → Shared → Prop) (E : VP), G.K.In s.heap → (∀ a o, I a = some o → s.heap.get? a = some o) → Q (.ref f, [sv]) s → wpAny (model G.prog G.w) A (getMethod sv name pl) Q E s
theorem SedM.go {m : Mp} {I : Hp} {W : Ws} {sv v : Value} {name : Str} {n : Nat} {P : Hp → Value → Prop} {e : PySem.Expr} {pos : Pos} {pl : Sem Bool} {Q : VP} {E : VP} (h : SedM G I sv name n v P) (O : Ok G c ⟨m, I, W⟩ s) (B : Bud A none (c.env :: c.outer) (n + 5 + 1) (3 * n + 20 + 3))
    (ha : ∀ (Q' : VP), (∀ s', Ok G c ⟨m, I, W⟩ s' → Q' v s') → wpAny (model G.prog G.w) A (eval e c.env) Q' E s) (hq : ∀ I' r s', (∀ a o, I a = some o → I' a = some o) → P I' r → Ok G c ⟨m, I', W⟩ s' → Q r s')
    (he : starEach [e] c.env = (false, eval e c.env) :: starEach [] c.env := by rfl) (hplain : (backTo pos (starEach [] c.env)).any (·.1) = false := by rfl) :
    wpAny (model G.prog G.w) A (getMethod sv name pl) (MQ2 (model G.prog G.w) A c.env pos [e] Q E) E s := by
  obtain ⟨f, hk, hC, hM⟩ := h
  refine hM _ _ _ _ _ O.In O.im ?_
  refine r_defI hk ?_ he hplain
  refine spliced_more (ha _ fun s O => ?_) he
  refine spliced_none ⟨O.In, ?_⟩
  exact r_pure O B (hC _ _ fun I' r hs hp s' O' _ => hq I' r s' hs hp O')
end
section
mutual
noncomputable def serT : Th → Th
  | .n i => .o (bytesOf (be i.toNat))
  | .b x => .o (if x then [1] else [])
  | .no => .no
  | .o x => .o x
  | .ba x => .ba x
  | .sq _ ts => .sq false (serL ts)
noncomputable def serL : List Th → List Th
  | [] => []
  | t :: ts => serT t :: serL ts
end
mutual
noncomputable def valT : Th → Th
  | .no => .no
  | .n i => .n i
  | .b x => .b x
  | .o x => .o x
  | .ba x => .o x
  | .sq _ ts => .sq true (valL ts)
noncomputable def valL : List Th → List Th
  | [] => []
  | t :: ts => valT t :: valL ts
end
mutual
theorem fm_ser : ∀ t : Th, okT t = true → fm (serT t) = fm t
  | .no, h => by cases h
  | .n i, _ => by rw [serT, fm, fm]
  | .b x, _ => by rw [serT, fm, fm]
  | .o x, _ => by rw [serT]
  | .ba x, _ => by rw [serT]
  | .sq k ts, h => by rw [okT] at h; rw [serT, fm, fm, fmL_ser ts h]
theorem fmL_ser : ∀ ts : List Th, okL ts = true → fmL (serL ts) = fmL ts
  | [], _ => rfl
  | t :: ts, h => by rw [okL, Bool.and_eq_true] at h; rw [serL, fmL, fmL, fm_ser t h.1, fmL_ser ts h.2]
end
mutual
theorem pl_ser : ∀ t : Th, okT t = true → plT (serT t) = true
  | .no, h => by cases h
  | .n i, _ => by rw [serT, plT]
  | .b x, _ => by rw [serT, plT]
  | .o x, _ => by rw [serT, plT]
  | .ba x, _ => by rw [serT, plT]
  | .sq k ts, h => by rw [okT] at h; rw [serT, plT, plL_ser ts h]
theorem plL_ser : ∀ ts : List Th, okL ts = true → plL (serL ts) = true
  | [], _ => rfl
  | t :: ts, h => by rw [okL, Bool.and_eq_true] at h; rw [serL, plL, pl_ser t h.1, plL_ser ts h.2]; rfl
end
theorem serL_append : ∀ a b, serL (a ++ b) = serL a ++ serL b
  | [], _ => rfl
  | _ :: a, b => by rw [List.cons_append, serL, serL, serL_append a b, List.cons_append]
theorem valL_append : ∀ a b, valL (a ++ b) = valL a ++ valL b
  | [], _ => rfl
  | _ :: a, b => by rw [List.cons_append, valL, valL, valL_append a b, List.cons_append]
theorem serL_len : ∀ ts, (serL ts).length = ts.length
  | [] => rfl
  | _ :: ts => by rw [serL, List.length_cons, List.length_cons, serL_len ts]
theorem valL_len : ∀ ts, (valL ts).length = ts.length
  | [] => rfl
  | _ :: ts => by rw [valL, List.length_cons, List.length_cons, valL_len ts]
mutual
noncomputable def thI : It → Th
  | .s b => .o b
  | .l ts => .sq false (thL ts)
noncomputable def thL : List It → List Th
  | [] => []
  | t :: ts => thI t :: thL ts
end
theorem Rep.toT {I : Hp} {v : Value} {t : It} (r : Rep I v t) : RepT I v (thI t) :=
  Rep.rec (motive_1 := fun v t _ => RepT I v (thI t)) (motive_2 := fun vs ts _ => RepTL I vs (thL ts)) (fun b t => .o b t) (fun e _ ih => .sq (k := false) e ih) .nil (fun _ _ a b => .cons a b) r
theorem RepL.toT {I : Hp} {vs : List Value} {ts : List It} (r : RepL I vs ts) : RepTL I vs (thL ts) :=
  RepL.rec (motive_1 := fun v t _ => RepT I v (thI t)) (motive_2 := fun vs ts _ => RepTL I vs (thL ts)) (fun b t => .o b t) (fun e _ ih => .sq (k := false) e ih) .nil (fun _ _ a b => .cons a b) r

end
section
open PyProof.Rows.LCg (NsObj ns_obj)
variable {G : Base} {c : Fm} {st : St} {s : Shared} {A : Around}
theorem mq_mono {M : Model} {env : Env} {pos : Pos} {name : Str} {pl : Sem Bool} {args : List PySem.Expr} {ov : Value} {Qm Q E : VP} (h : wpAny M A (getMethod ov name pl) (MQ2 M A env pos args Qm E) E s) (k : ∀ v s, Qm v s → Q v s) :
    wpAny M A (getMethod ov name pl) (MQ2 M A env pos args Q E) E s :=
  wpAny_mono h (fun _ _ h => wpAny_mono h k fun _ _ h => h) fun _ _ h => h
theorem r_lenS {E : VP} {l : Addr} {kd : Bool} {vs : List Value} {n : Nat} {Q : VP} (O : Ok G c st s) (e : s.heap.get? l = some (sqO kd vs n)) (hz : vs.length ≤ 16777216) (h : ∀ t s', Ok G c st s' → Q (.int vs.length t) s') :
    wpAny (model G.prog G.w) A (call (.builtin "len") [.ref l]) Q E s := by
  cases kd with
  | false => exact r_lenL O e hz h
  | true =>
    have hT : s.TypeIs (.ref l) "tuple" := ⟨_, e, rfl⟩
    refine call_len_meets hT PySem.F.slot_tuple_len PySem.F.entry_tuple_len (PySem.F.args_tuple_len_1 _) (AutoSeq1.tuple___len___tuple_0 l vs.toArray n) (n := (vs.length : Int)) (by lia) (by lia) (fun Q' hq => ⟨e, by simpa using hq⟩) (h _ _ O.toks)
theorem szL_pos : ∀ ts : List Th, 10 * ts.length ≤ It.szL (fmL ts) := fun ts => by have := len_szL (fmL ts); rw [fmL_len] at this; lia
set_option maxHeartbeats 0 in
theorem sed_ser0 (hK : G.K = KK G.w.params) {n : Nat} (hls : ∀ (ts : List Th), It.dpL (fmL ts) < n → It.szL (fmL ts) ≤ 8000000 → smL ts → ∀ {kt : Bool} {a l : Addr} {I : Hp} {Q : Value → Hp → Ws → Prop} {E : Ex → Hp → Ws → Prop},
    Sed G.w.params I (.ref a) (.sq kt ts) → RepT I (.ref l) (.sq kt ts) → (∀ I' r, (∀ a o, I a = some o → I' a = some o) → RepT I' r (.sq false (serL ts)) → Q r I' []) → Cl G (.ref 1650) [.ref a, .ref l] none (n + 5 + 1) (3 * n + 20 + 3) I [] Q E) {t : Th} (hn : (fm t).dp ≤ n) (hz : (fm t).sz ≤ 8000000) (hsm : smT t) {I : Hp} {sv v : Value} (hst : Sed G.w.params I sv t) (hrt : RepT I v t) : SedM G I sv (PySem.Str.ofString "serialize") n v fun I' r => RepT I' r (serT t) := by
  cases hst with
  | n hi =>
    cases hrt with | n _ tb =>
    refine ⟨1493, by rw [hK]; exact (by k_is), fun Q E hq => ((beser_spec hK hi hsm (d := 0) (u := 0) fun tk => hq _ _ (fun _ _ e => e) (.o _ _)).le (by lia) (by lia)), fun A s pl Q E X im h => ?_⟩
    exact method_fn (f := 1493) X (⟨X _ _ (kl hK (a := 1509) (by k_is)), rfl, rfl, X _ _ (kl hK (a := 1508) (by k_is))⟩ : InstAt s.heap 1509 _ 1503 (some _)) (by rw [hK]; rfl) (by rw [hK]; rfl) (by rw [hK]; rfl) (by rw [hK]; rfl) (by rfl) h
  | b x =>
    cases hrt with | b _ =>
    refine ⟨1591, by rw [hK]; exact (by k_is), fun Q E hq => ((boser_spec hK (d := 0) (u := 0) fun tk => hq _ _ (fun _ _ e => e) (.o _ _)).le (by lia) (by lia)), fun A s pl Q E X im h => ?_⟩
    exact method_fn (f := 1591) X (⟨X _ _ (kl hK (a := 1607) (by k_is)), rfl, rfl, X _ _ (kl hK (a := 1606) (by k_is))⟩ : InstAt s.heap 1607 _ 1601 (some _)) (by rw [hK]; rfl) (by rw [hK]; rfl) (by rw [hK]; rfl) (by rw [hK]; rfl) (by rfl) h
  | o x =>
    have hr1 := hrt
    cases hrt with | o _ tb =>
    rw [fm, It.sz] at hz
    refine ⟨1560, by rw [hK]; exact (by k_is), fun Q E hq => ((bser_spec hK hr1 rfl (.b x tb) (d := 0) (u := 0) (by lia) (hq _ _ (fun _ _ e => e) (.o _ _))).le (by lia) (by lia)), fun A s pl Q E X im h => ?_⟩
    exact method_fn (f := 1560) X (⟨X _ _ (kl hK (a := 1576) (by k_is)), rfl, rfl, X _ _ (kl hK (a := 1575) (by k_is))⟩ : InstAt s.heap 1576 _ 1570 (some _)) (by rw [hK]; rfl) (by rw [hK]; rfl) (by rw [hK]; rfl) (by rw [hK]; rfl) (by rfl) h
  | ba x =>
    have hr1 := hrt
    cases hrt with | ba eb =>
    rw [fm, It.sz] at hz
    refine ⟨1560, by rw [hK]; exact (by k_is), fun Q E hq => ((bser_spec hK hr1 rfl (.a eb) (d := 0) (u := 0) (by lia) (hq _ _ (fun _ _ e => e) (.ba eb))).le (by lia) (by lia)), fun A s pl Q E X im h => ?_⟩
    exact method_fn (f := 1560) X (⟨X _ _ (kl hK (a := 1576) (by k_is)), rfl, rfl, X _ _ (kl hK (a := 1575) (by k_is))⟩ : InstAt s.heap 1576 _ 1570 (some _)) (by rw [hK]; rfl) (by rw [hK]; rfl) (by rw [hK]; rfl) (by rw [hK]; rfl) (by rfl) h
  | @l a2 dx2 p2 tk2 tk2' n2 k2 svs2 kt2 ts2 f1 f2 f3 sr2 =>
    have hr1 := hrt
    cases hrt with | @sq b2 _ vs2 m2 _ fb r2 =>
    rw [fm, It.sz] at hz
    rw [fm, It.dp] at hn
    refine ⟨1650, by rw [hK]; exact (by k_is), fun Q E hq => ((hls ts2 (by lia) (by lia) hsm (.l f1 f2 f3 sr2) hr1 hq).le (by lia) (by lia)), fun A s pl Q E X im h => ?_⟩
    exact method_fn (f := 1650) X (⟨im _ _ f1, rfl, rfl, im _ _ f2⟩ : InstAt s.heap a2 _ 1660 (some _)) (by rw [hK]; rfl) (by rw [hK]; rfl) (by rw [hK]; rfl) (by rw [hK]; rfl) (by rfl) h
inductive JE5 (I : Hp) (fd : Addr) (ts : List Th) (i : Nat) : St → Prop
  | mk {m : Mp} {I2 : Hp} (k : Nat) (rs : List Value) (h2 : ∀ a o, I a = some o → I2 a = some o) (h3 : RepTL I2 rs (serL (ts.take i))) (h4 : m "found" = some (.ref fd)) : JE5 I fd ts i ⟨m, I2, [(fd, lst rs k)]⟩
set_option maxHeartbeats 0 in
theorem ls_spec (hK : G.K = KK G.w.params) : ∀ (n : Nat) (ts : List Th), It.dpL (fmL ts) < n → It.szL (fmL ts) ≤ 8000000 → smL ts → ∀ {kt : Bool} {a l : Addr} {I : Hp} {Q : Value → Hp → Ws → Prop} {E : Ex → Hp → Ws → Prop},
    Sed G.w.params I (.ref a) (.sq kt ts) → RepT I (.ref l) (.sq kt ts) → (∀ I' r, (∀ a o, I a = some o → I' a = some o) → RepT I' r (.sq false (serL ts)) → Q r I' []) → Cl G (.ref 1650) [.ref a, .ref l] none (n + 5 + 1) (3 * n + 20 + 3) I [] Q E
  | 0, _, h => absurd h (by lia)
  | n + 1, ts, hn => by
    intro hz hsm kt a l I Q E hs hr hq
    refine enterK (binds := [("self", .ref a), ("obj", .ref l)]) (kl hK) (kc hK) (by rfl) (by rfl) (by rfl) (by rfl) (by rfl) (by rfl) fun c A s hc O B => ?_
    have hr0 := hr
    cases hs with | @l _ dx p tk tk' n0 k0 svs _ _ e1 e2 e3 sr =>
    cases hr with | @sq _ _ vs nn _ e r =>
    have lent := r.length
    have lens := sr.length
    have hvl := szL_pos ts
    refine e_cons ?_
    refine r_if O False ?_ (fun s O g0 => g0.elim) (fun s O g0 => ?_)
    · skip
      refine isTrue_not ?_
      refine e_plain ?_
      refine k_def O (kd hc) (kn hK) (kk hK (by k_is)) ?_
      refine k_arg O (kd hc) (by rfl) ?_
      refine spliced_none ⟨O.In, ?_⟩
      refine r_pure O B ((isq_spec hK hr0 (d := 0) (u := 0) fun s O _ => ?_).le (by lia) (by lia))
      refine wpAny_truthy_bool ?_
      exact ⟨O, iff_no id⟩
    refine wpAny_execs_nil ?_
    refine e_cons ?_
    refine r_if O False ?_ (fun s O g0 => g0.elim) (fun s O g0 => ?_)
    · skip
      refine e_and ?_
      refine e_plain ?_
      refine e_att ?_
      refine r_name O (kd hc) (by rfl) ?_
      refine r_getA O (⟨O.im _ _ e1, rfl, rfl, O.im _ _ e2⟩ : InstAt s.heap a _ 1660 (some _)) (by rw [hK]; rfl) (v := .bool true) (by rw [hK]; rfl) rfl fun s O => ?_
      refine wpAny_truthy_bool ?_
      refine ite_t ?_
      refine e_and ?_
      refine e_icmp ?_
      refine e_call ?_
      refine r_blt O (kd hc) (kn hK) PyProof.Rows.Boot.«len» ?_
      refine c_b1 ?_
      refine k_arg O (kd hc) (by rfl) ?_
      refine spliced_none ?_
      refine r_lenI (n := svs.length) (d := 1) (u := 3) O (B.le (by lia) (by lia)) (⟨O.im _ _ e1, rfl, rfl, O.im _ _ e2⟩ : InstAt s.heap a _ 1660 (some _)) (by lia) (f := 1643) (by rw [hK]; rfl) (by rw [hK]; rfl) (ll_spec hK (d := 0) (u := 0) (by lia) e1 e2 e3 fun t s O _ => ⟨⟨t, rfl⟩, fun k1 => ?_⟩)
      have O := O.toks (k := k1 + 1)
      refine e_call ?_
      refine r_blt O (kd hc) (kn hK) PyProof.Rows.Boot.«len» ?_
      refine c_b1 ?_
      refine k_arg O (kd hc) (by rfl) ?_
      refine spliced_none ?_
      refine r_lenS O (O.im _ _ e) (by lia) fun k1 s O => ?_
      refine r_nei ?_
      refine wpAny_truthy_bool ?_
      refine ite_dec (fun q => absurd (by lia) q) (fun _ => ⟨O, iff_no id⟩)
    refine wpAny_execs_nil ?_
    refine k_asg ?_
    refine e_lst ?_
    refine spliced_none ?_
    refine r_newList O (sz_small (by simp)) fun fd s O => ?_
    refine r_store O (kd hc) fun s O => ?_
    refine e_cons ?_
    refine wpAny_For ?_
    refine e_call ?_
    refine r_blt O (kd hc) (kn hK) PyProof.Rows.Boot.«enumerate» ?_
    refine c_t1 ?_
    refine e_more ?_
    refine e_call ?_
    refine r_blt O (kd hc) (kn hK) PyProof.Rows.Boot.«zip» ?_
    refine c_t1 ?_
    refine k_arg O (kd hc) (by rfl) ?_
    refine e_more ?_
    refine e_att ?_
    refine r_name O (kd hc) (by rfl) ?_
    refine r_getA O (⟨O.im _ _ e1, rfl, rfl, O.im _ _ e2⟩ : InstAt s.heap a _ 1660 (some _)) (by rw [hK]; rfl) (v := .ref p) (by rw [hK]; rfl) rfl fun s O => ?_
    refine spliced_none ?_
    refine r_zip (k2 := false) O e e3 fun z TI TO i1 i2 Wi s D hWi hw0 O hz' hZ => ?_
    refine spliced_none ?_
    have hm : ∀ b ∈ [z, TI, TO, i1, i2], ∃ o, s.heap.get? b = some o := fun b hb => by
      rw [← hWi] at hb
      obtain ⟨q, hq, rfl⟩ := List.mem_map.mp hb
      exact ⟨_, O.wr q (List.mem_append_left _ hq)⟩
    refine r_enumZ O hz' fun ee eo s2 ne0 nw0 O2 hE2 hk2 => ?_
    refine wpAny_pyIter_enum hE2 ?_
    have nez : ee ∉ [z, TI, TO, i1, i2, l, p] := fun hm' => by
      simp only [List.mem_cons, List.not_mem_nil, or_false] at hm'
      have hb : ∀ b, (∃ o, s.heap.get? b = some o) → ee ≠ b := fun b ⟨o, ho⟩ q => by rw [← q, ne0] at ho; cases ho
      rcases hm' with q | q | q | q | q | q | q
      · exact hb _ (hm z (by simp)) q
      · exact hb _ (hm TI (by simp)) q
      · exact hb _ (hm TO (by simp)) q
      · exact hb _ (hm i1 (by simp)) q
      · exact hb _ (hm i2 (by simp)) q
      · exact hb _ ⟨_, O.im _ _ e⟩ q
      · exact hb _ ⟨_, O.im _ _ e3⟩ q
    refine loop_ez (p := ⟨z, TI, TO, i1, i2, l, p, kt, false, vs, svs, nn, k0⟩) (Wi := (ee, eo) :: Wi) (W0 := [(fd, lst [] 0)]) (JE5 I fd ts) D nez B.h (kd hc) (kd hc) (kd hc) e e3 (lent.trans lens.symm) O2 (by rw [List.map_cons, hWi]) ?_ hE2 ⟨hZ.keep (fun b _ o q => hk2 b o q), .inl ⟨rfl, hk2 _ _ hz'⟩⟩ ⟨0, [], fun _ _ h => h, .nil, rfl⟩ ?_ ?_ ?_
    · intro b hb
      rcases List.mem_cons.mp hb with rfl | hb
      · exact nw0
      · exact hw0 b hb
    rotate_left
    · rintro i st I' ⟨k, rs, h2, h3, h4⟩ hs
      exact ⟨k, rs, fun a o e => hs _ _ (h2 _ _ e), h3.mono hs, h4⟩
    · rintro st s hj O'
      cases hj with | @mk m' I' k rs h2 h3 h4 =>
      rw [lent, List.take_length] at h3
      have O := Ok.unre (st := ⟨_, I, _⟩) O2 rfl O'
      refine k_ret ?_
      refine r_name O (kd hc) h4 ?_
      have n1 := O.wI _ (.head _)
      have O := O.fix
      exact ⟨_, _, _, O, hq _ _ (fun a o e => sub_fix n1 _ _ (h2 _ _ e)) (.sq (k := false) (if_pos rfl) (h3.mono (sub_fix n1)))⟩
    · rintro i x y t st Wi2 s hx hy hj O
      cases hj with | @mk m' I' k rs h2 h3 h4 =>
      dsimp only at O
      obtain ⟨t', ht, hrt⟩ := r.get hx
      obtain ⟨t2, ht2, hst⟩ := sr.get hy
      rw [ht] at ht2
      cases ht2
      have B' : Bud A none ((c.re I).env :: c.outer) (n + 6) (3 * n + 23) := B
      have hrl := h3.length
      have hil := (List.getElem?_eq_some_iff.mp hx).1
      refine e_cons ?_
      refine wpAny_Try_except ?_
      refine e_cons ?_
      refine r_expr (c := c.re I) O ?_
      refine e_meth ?_
      refine r_name (c := c.re I) O (kd hc) h4 ?_
      refine r_getAppend (c := c.re I) O (vs := rs) (n := k) (l := fd) (by simp) ?_
      refine PyProof.Rows.callWith_method1 ?_
      refine e_more ?_
      refine e_meth ?_
      refine r_name (c := c.re I) O (kd hc) (by rfl) ?_
      obtain ⟨hd1, hz1⟩ := szL_get ht
      have hsm1 := smL_get hsm ht
      have hst := hst.mono h2
      have hrl2 : rs.length ≤ ts.length := by rw [hrl, serL_len]; exact List.length_take_le' _ _
      have hrt := hrt.mono h2
      refine mq_mono (Qm := fun v s => ∃ I2, (∀ a o, I' a = some o → I2 a = some o) ∧ RepT I2 v (serT t') ∧ Ok G (c.re I) ⟨(stOf O).m, I2, Wi2 ++ [(fd, lst rs k)]⟩ s) ?_ fun v s hv => ?_
      rotate_left
      · obtain ⟨I2, hs', hv, O⟩ := hv
        refine spliced_none ?_
        refine r_append (W1 := Wi2) O (by unfold sizeLine; lia) fun s n2 O => ?_
        refine wpAny_execs_nil ?_
        refine wpAny_execs_nil ?_
        refine wpAny_execs_nil ?_
        refine ⟨rfl, ⟨_, _, [(fd, _)]⟩, ?_, hs', O⟩
        refine JE5.mk n2 (rs ++ [_]) (fun a o e => hs' a o (h2 a o e)) ?_ h4
        rw [List.take_add_one, ht, serL_append]
        exact RepTL.snoc hv (h3.mono hs')
      exact (sed_ser0 hK (fun ts h1 h2 h3 => ls_spec hK n ts h1 h2 h3) (by lia) (by lia) hsm1 hst hrt).go (c := c.re I) O B' (fun _ h => r_name (c := c.re I) O (kd hc) (by rfl) (h _ O)) fun I2 r s hs' hv O => ⟨_, hs', hv, O⟩
end
section
theorem slc_add (x : List UInt8) (p a b : Nat) : slc x p (a + b) = slc x p a ++ slc x (p + a) b := by
  unfold slc
  rw [List.take_add, List.drop_drop]
theorem slc_one {x : List UInt8} {p : Nat} (h : p < x.length) : slc x p 1 = [x.getD p 0] := by
  unfold slc
  rw [List.drop_eq_getElem_cons h, List.take_succ_cons, List.take_zero]
  congr 1
  simp [List.getD, h]
theorem getD_slc {x y : List UInt8} {p n : Nat} (h : slc x p n = y) (hn : 0 < n) (hp : p < x.length) : x.getD p 0 = y.getD 0 0 := by
  subst h
  have : slc x p n = x.getD p 0 :: slc x (p + 1) (n - 1) := by
    have e : n = 1 + (n - 1) := by lia
    rw [e, slc_add, slc_one hp]
    simp
  rw [this]; rfl
theorem vD_ofD (l : List UInt8) : vD l = ofD (l.map UInt8.toNat) := by
  unfold vD ofD
  rw [List.foldl_map]
theorem toNat_bytesOf {l : List Nat} (h : ∀ d ∈ l, d < 256) : (bytesOf l).map UInt8.toNat = l := by
  unfold bytesOf
  rw [List.map_map]
  conv => rhs; rw [← List.map_id l]
  apply List.map_congr_left
  intro a ha
  have := h a ha
  simp; lia
theorem vD_bytesOf_be (n : Nat) : vD (bytesOf (be n)) = n := by rw [vD_ofD, toNat_bytesOf (be_lt n), ofD_be]
theorem enc_len_pos : ∀ t : It, 1 ≤ (enc t).length
  | .s b => by
    rw [enc]
    split
    · lia
    · have : 1 ≤ (headF 128 b.length false).length := by unfold headF; repeat' split
                                                         all_goals simp
      simp [bytesOf]; lia
  | .l ts => by
    rw [enc]
    have : 1 ≤ (headF 192 (encL ts).length false).length := by unfold headF; repeat' split
                                                               all_goals simp
    simp [bytesOf]; lia
theorem head_len {base n : Nat} (hn : n < 256 ^ 8) : (headF base n false).length = if n < 56 then 1 else 1 + (be n).length := by
  by_cases h : n < 56
  · rw [headF_short h, if_pos h]; rfl
  · rw [headF_long (by lia), if_neg h, List.length_cons]; lia
theorem head_octs {x : List UInt8} {p base n : Nat} (hb : base = 128 ∨ base = 192) (hn : n < 256 ^ 8) (hx : p + (headF base n false).length ≤ x.length) (h : slc x p (headF base n false).length = bytesOf (headF base n false)) :
    (n < 56 → (x.getD p 0).toNat = base + n) ∧ (56 ≤ n → (x.getD p 0).toNat = base + 55 + (be n).length ∧ slc x (p + 1) (be n).length = bytesOf (be n) ∧ 1 ≤ (be n).length ∧ (be n).length ≤ 8 ∧ slc x (p + 1) 1 ≠ [0]) := by
  have hl := head_len (base := base) hn
  have hp : p < x.length := by split at hl <;> lia
  have h8 := be_len 8 n hn
  have hg := getD_slc h (by split at hl <;> lia) hp
  refine ⟨fun h1 => ?_, fun h1 => ?_⟩
  · rw [hg, headF_short h1]
    show (UInt8.ofNat (base + n)).toNat = _
    simp; lia
  · rw [if_neg (by lia)] at hl
    rw [headF_long h1] at hg h
    have hb1 : 1 ≤ (be n).length := by rw [be_pos (by lia), List.length_append, List.length_singleton]; lia
    rw [List.length_cons, show (be n).length + 1 = 1 + (be n).length by lia, slc_add, slc_one hp] at h
    have h2 : slc x (p + 1) (be n).length = bytesOf (be n) := by
      have h' : [x.getD p 0] ++ slc x (p + 1) (be n).length = [UInt8.ofNat (base + 55 + (be n).length)] ++ bytesOf (be n) := h
      exact (List.append_inj h' rfl).2
    refine ⟨?_, h2, hb1, h8, fun hz => ?_⟩
    · rw [hg]
      show (UInt8.ofNat (base + 55 + (be n).length)).toNat = _
      simp; lia
    · obtain ⟨d, l, hd, hd0⟩ := be_head n (by lia)
      have hdl := be_lt n d (by rw [hd]; exact .head _)
      have h3 : slc x (p + 1) (be n).length = slc x (p + 1) 1 ++ slc x (p + 2) ((be n).length - 1) := by
        have e : (be n).length = 1 + ((be n).length - 1) := by lia
        conv => lhs; rw [e, slc_add]
      rw [h2, hz, hd] at h3
      have h4 : UInt8.ofNat d = 0 := by
        have : (UInt8.ofNat d) :: bytesOf l = [0] ++ slc x (p + 2) _ := h3
        simpa using (List.cons.inj this).1
      have := congrArg UInt8.toNat h4
      simp at this; lia
theorem head_rd {x : List UInt8} {p base n : Nat} (hb : base = 128 ∨ base = 192) (hn : n < 256 ^ 8) (hx : p + (headF base n false).length + n ≤ x.length) (h : slc x p (headF base n false).length = bytesOf (headF base n false)) (h1 : base = 128 → n = 1 → 128 ≤ (x.getD (p + 1) 0).toNat) :
    ∃ pre, rdH x p = .ok pre (decide (base = 192)) n (p + (headF base n false).length) := by
  have ho := head_octs hb hn (by lia) h
  have hl := head_len (base := base) hn
  have hpl : ¬ x.length ≤ p := by split at hl <;> lia
  by_cases hs : n < 56
  · have e := ho.1 hs
    rw [if_pos hs] at hl
    clear ho
    unfold rdH
    rw [if_neg hpl, e, if_neg (by lia)]
    rcases hb with rfl | rfl
    · rw [if_pos (by lia), if_neg (by lia), if_neg (by intro hc; have := h1 rfl (by lia); lia)]
      exact ⟨slc x p 1, by rw [hl, Nat.add_sub_cancel_left]; rfl⟩
    · rw [if_neg (by lia), if_neg (by lia), if_pos (by lia)]
      exact ⟨slc x p 1, by rw [hl, Nat.add_sub_cancel_left]; rfl⟩
  · obtain ⟨e, e2, e3, e4, e5⟩ := ho.2 (Nat.le_of_not_lt hs)
    rw [if_neg hs] at hl
    clear ho
    have ev : vD (slc x (p + 1) (be n).length) = n := by rw [e2, vD_bytesOf_be]
    unfold rdH
    rw [if_neg hpl, e, if_neg (by lia)]
    rcases hb with rfl | rfl
    · rw [if_neg (by lia), if_pos (by lia), if_neg e5, show 128 + 55 + (be n).length - 183 = (be n).length from Nat.add_sub_cancel_left .., ev, if_neg hs]
      exact ⟨slc x p 1 ++ slc x (p + 1) (be n).length, by rw [hl, Nat.add_assoc]; rfl⟩
    · rw [if_neg (by lia), if_neg (by lia), if_neg (by lia), if_neg e5, show 192 + 55 + (be n).length - 247 = (be n).length from Nat.add_sub_cancel_left .., ev, if_neg hs]
      exact ⟨slc x p 1 ++ slc x (p + 1) (be n).length, by rw [hl, Nat.add_assoc]; rfl⟩
theorem min_fst {a b y z : Nat} (h : min a y + min b z = a + b) : min a y = a := by lia
theorem enc_split {x : List UInt8} {p : Nat} {t : It} (h : slc x p (enc t).length = enc t) (hx : p + (enc t).length ≤ x.length) :
    (∃ b, t = .s b ∧ b.length = 1 ∧ (b.getD 0 0).toNat < 128 ∧ enc t = b) ∨
    (∃ base y, (base = 128 ∨ base = 192) ∧ enc t = bytesOf (headF base y.length false) ++ y ∧ slc x p (headF base y.length false).length = bytesOf (headF base y.length false) ∧ slc x (p + (headF base y.length false).length) y.length = y ∧
      ((base = 128 ∧ t = .s y ∧ ¬ (y.length = 1 ∧ (y.getD 0 0).toNat < 128)) ∨ (base = 192 ∧ ∃ ts, t = .l ts ∧ y = encL ts))) := by
  have cut : ∀ (a b : List UInt8), slc x p (a ++ b).length = a ++ b → slc x p a.length = a ∧ slc x (p + a.length) b.length = b := fun a b h => by
    rw [List.length_append, slc_add] at h
    have hl : (slc x p a.length).length = a.length := by
      have := congrArg List.length h
      simp only [List.length_append, slc_len] at this ⊢
      exact min_fst this
    exact List.append_inj h hl
  cases t with
  | s b =>
    by_cases hc : b.length = 1 ∧ (b.getD 0 0).toNat < 128
    · exact .inl ⟨b, rfl, hc.1, hc.2, by rw [enc, if_pos hc]⟩
    · have e : enc (.s b) = bytesOf (headF 128 b.length false) ++ b := by rw [enc, if_neg hc]
      rw [e] at h
      have := cut _ _ h
      rw [show (bytesOf (headF 128 b.length false)).length = (headF 128 b.length false).length by simp [bytesOf]] at this
      exact .inr ⟨128, b, .inl rfl, e, this.1, this.2, .inl ⟨rfl, rfl, hc⟩⟩
  | l ts =>
    have e : enc (.l ts) = bytesOf (headF 192 (encL ts).length false) ++ encL ts := by rw [enc]
    rw [e] at h
    have := cut _ _ h
    rw [show (bytesOf (headF 192 (encL ts).length false)).length = (headF 192 (encL ts).length false).length by simp [bytesOf]] at this
    exact .inr ⟨192, encL ts, .inr rfl, e, this.1, this.2, .inr ⟨rfl, ts, rfl, rfl⟩⟩

end
section
variable {G : Base} {c : Fm} {st : St} {s : Shared} {A : Around}
theorem toInt_spec (hK : G.K = KK G.w.params) {x : List UInt8} {t1 : Tok} (hx : x.length ≤ 1000) {d u : Nat} {I : Hp} {W : Ws} {Q : Value → Hp → Ws → Prop} {E : Ex → Hp → Ws → Prop}
    (h : ∀ t, Q (.int (vD x) t) I W) : Cl G (.ref 1464) [.bytes x.toArray t1] none (d + 1) (u + 3) I W Q E := by
  refine enterK (binds := [("value", .bytes x.toArray t1)]) (kl hK) (kc hK) (by rfl) (by rfl) (by rfl) (by rfl) (by rfl) (by rfl) fun c A s hc O B => ?_
  refine k_ret ?_
  refine e_meth ?_
  refine r_blt O (kd hc) (kn hK) PyProof.Rows.Boot.«int» ?_
  refine r_fbGet O (by rfl) fun a s O => ?_
  refine r_fbWith ?_
  refine k_arg O (kd hc) (by rfl) ?_
  refine e_more ?_
  refine r_str O fun k1 s O => ?_
  refine spliced_none ⟨O.wr (a, KFB.bound) (.head _), ?_⟩
  refine r_fbBigN O (O.wr (a, KFB.bound) (.head _)) hx fun t s O => ?_
  exact ⟨_, I, W, O.drop (W1 := [(a, _)]), h t⟩
end
section
open PyProof.Rows.LCg (NsObj ns_obj)
variable {G : Base} {c : Fm} {st : St} {s : Shared} {A : Around}
theorem be_first {n : Nat} (h : n ≠ 0) : ∃ d l, bytesOf (be n) = d :: l ∧ d ≠ (0 : UInt8) := by
  obtain ⟨d, l, e, hd⟩ := be_head n h
  have hlt : d < 256 := be_lt n d (by rw [e]; exact .head _)
  refine ⟨d.toUInt8, bytesOf l, by rw [e]; rfl, fun q => hd ?_⟩
  have : d.toUInt8.toNat = 0 := by rw [q]; rfl
  have e2 : d.toUInt8.toNat = d % 256 := UInt8.toNat_ofNat' ..
  lia
theorem bede_spec (hK : G.K = KK G.w.params) {n : Nat} {t1 : Tok} (hb : n < 256 ^ 40) {d u : Nat} {I : Hp} {W : Ws} {Q : Value → Hp → Ws → Prop} {E : Ex → Hp → Ws → Prop}
    (h : ∀ t, Q (.int n t) I W) : Cl G (.ref 1500) [.ref 1509, .bytes (bytesOf (be n)).toArray t1] none (d + 1 + 1) (u + 3 + 3) I W Q E := by
  have hl : (bytesOf (be n)).length ≤ 40 := by unfold bytesOf; rw [List.length_map]; exact be_len 40 n hb
  refine enterK (binds := [("self", .ref 1509), ("serial", .bytes (bytesOf (be n)).toArray t1)]) (kl hK) (kc hK) (by rfl) (by rfl) (by rfl) (by rfl) (by rfl) (by rfl) fun c A s hc O B => ?_
  have lenA : ∀ {st : St} {s : Shared} {Q : VP} {E : VP}, Ok G c st s → (∀ s', Ok G c st s' → Q .none s') → wpAny (model G.prog G.w) A (getAttr (.ref 1509) "length" true) Q E s := fun {st s Q E} O h =>
    r_getA O (⟨O.In _ _ (kl hK (a := 1509) (by k_is)), rfl, rfl, O.In _ _ (kl hK (a := 1508) (by k_is))⟩ : InstAt s.heap 1509 _ 1503 (some _)) (by rw [hK]; rfl) (v := .none) (by rw [hK]; rfl) rfl h
  refine e_cons ?_
  refine r_if O False ?_ (fun s O g0 => g0.elim) (fun s O g0 => ?_)
  · skip
    refine e_and ?_
    refine e_icmp ?_
    refine e_att ?_
    refine r_name O (kd hc) (by rfl) ?_
    refine lenA O fun s O => ?_
    refine r_none ?_
    refine isnot_none_gen ?_
    refine wpAny_truthy_bool ?_
    exact ite_f ⟨O, iff_no id⟩
  refine wpAny_execs_nil ?_
  refine e_cons ?_
  refine r_if O False ?_ (fun s O g0 => g0.elim) (fun s O g0 => ?_)
  · skip
    refine e_and ?_
    refine e_icmp ?_
    refine e_att ?_
    refine r_name O (kd hc) (by rfl) ?_
    refine lenA O fun s O => ?_
    refine r_none ?_
    refine is_none_gen ?_
    refine wpAny_truthy_bool ?_
    refine ite_t ?_
    refine e_and ?_
    refine e_icmp ?_
    refine k_lenB O (kd hc) (kn hK) (kd hc) (by rfl) (by lia) fun k1 s O => ?_
    refine r_int O fun k2 s O => ?_
    refine gt_int ?_
    refine wpAny_truthy_bool ?_
    refine ite_dec (fun g1 => ?_) (fun g1 => ⟨O, iff_no id⟩)
    have hn : n ≠ 0 := fun q => by rw [q, be_zero] at g1; exact absurd g1 (by decide)
    obtain ⟨d0, l0, e0, hd0⟩ := be_first hn
    refine e_and ?_
    refine e_icmp ?_
    refine e_sub ?_
    refine r_name O (kd hc) (by rfl) ?_
    refine e_slc ?_
    refine p_some ?_
    refine r_int O fun k3 s O => ?_
    refine p_some ?_
    refine r_int O fun k4 s O => ?_
    refine p_none ?_
    refine r_sliceB O (by lia) (.int _ _) (.int _ _) fun k5 s O => ?_
    refine r_bytes O fun k6 s O => ?_
    refine r_eqB ?_
    refine wpAny_truthy_bool ?_
    have e1 : (cut (bytesOf (be n)) (some 0) (some 1) == [0]) = false := by
      rw [cut_slc (a := 0) (n := 1) (by rfl) (by rfl), e0]
      simp [slc, hd0]
    rw [e1]
    exact ite_f ⟨O, iff_no id⟩
  refine wpAny_execs_nil ?_
  refine k_asg ?_
  refine BoolOp_or ?_
  refine r_name O (kd hc) (by rfl) ?_
  refine truthy_bytes (by simp; lia) ?_
  have O := O.toks (k := s.toks + 1 + 1)
  by_cases hn : n = 0
  · subst hn
    rw [show (((bytesOf (be 0)).toArray.size : Int) != 0) = false by rw [be_zero]; rfl]
    refine ite_f ?_
    refine BoolOp_one ?_
    refine r_bytes O fun k7 s O => ?_
    refine r_store O.over (kd hc) fun s O => ?_
    refine k_ret ?_
    refine k_def O (kd hc) (kn hK) (kk hK (by k_is)) ?_
    refine k_arg O (kd hc) (by rfl) ?_
    refine spliced_none ⟨O.In, ?_⟩
    refine r_pure O B (toInt_spec hK (x := [0]) (by decide) fun t s O _ => ?_)
    exact ⟨_, I, _, O, h _⟩
  · obtain ⟨d0, l0, e0, hd0⟩ := be_first hn
    rw [show (((bytesOf (be n)).toArray.size : Int) != 0) = true by rw [e0]; simp; lia]
    refine ite_t ?_
    refine r_store O.over (kd hc) fun s O => ?_
    refine k_ret ?_
    refine k_def O (kd hc) (kn hK) (kk hK (by k_is)) ?_
    refine k_arg O (kd hc) (by rfl) ?_
    refine spliced_none ⟨O.In, ?_⟩
    refine r_pure O B (toInt_spec hK (x := bytesOf (be n)) (by lia) fun t s O _ => ?_)
    rw [vD_bytesOf_be]
    exact ⟨_, I, _, O, h _⟩
theorem bde_spec (hK : G.K = KK G.w.params) {x : List UInt8} {t1 : Tok} (hz : x.length ≤ 8000000) {d u : Nat} {I : Hp} {W : Ws} {Q : Value → Hp → Ws → Prop} {E : Ex → Hp → Ws → Prop}
    (h : Q (.bytes x.toArray t1) I W) : Cl G (.ref 1567) [.ref 1576, .bytes x.toArray t1] none (d + 1 + 1) (u + 3 + 3) I W Q E := by
  have hr : RepT I (.bytes x.toArray t1) (.o x) := .o _ _
  refine enterK (binds := [("self", .ref 1576), ("serial", .bytes x.toArray t1)]) (kl hK) (kc hK) (by rfl) (by rfl) (by rfl) (by rfl) (by rfl) (by rfl) fun c A s hc O B => ?_
  refine e_cons ?_
  refine r_if O False ?_ (fun s O g0 => g0.elim) (fun s O g0 => ?_)
  · skip
    refine isTrue_not ?_
    refine e_plain ?_
    refine k_isT O hr (kd hc) (kn hK) (kd hc) (by rfl) (kd hc) (kn hK) PyProof.Rows.Boot.«bytes» (kd hc) (kn hK) PyProof.Rows.Boot.«bytearray» (kBy _) fun s O => ?_
    refine wpAny_truthy_bool ?_
    exact ⟨O, iff_no id⟩
  refine wpAny_execs_nil ?_
  refine e_cons ?_
  refine r_if O True ?_ (fun s O g0 => ?_) (fun s O g0 => absurd trivial g0)
  · skip
    refine e_plain ?_
    refine e_meth ?_
    refine r_name O (kd hc) (by rfl) ?_
    refine method_fn (f := 1553) O.In (⟨O.In _ _ (kl hK (a := 1576) (by k_is)), rfl, rfl, O.In _ _ (kl hK (a := 1575) (by k_is))⟩ : InstAt s.heap 1576 _ 1570 (some _)) (by rw [hK]; rfl) (by rw [hK]; rfl) (by rw [hK]; rfl) (by rw [hK]; rfl) (by rfl) ?_
    refine r_defI (kk hK (by k_is)) ?_
    refine e_more ?_
    refine k_lenB O (kd hc) (kn hK) (kd hc) (by rfl) (by lia) fun k1 s O => ?_
    refine spliced_none ⟨O.In, ?_⟩
    refine r_pure O B (ivl_spec hK fun s O _ => ?_)
    refine wpAny_truthy_bool ?_
    exact ⟨O, iff_yes trivial⟩
  refine k_ret ?_
  refine r_name O (kd hc) (by rfl) ?_
  exact ⟨_, I, W, O, h⟩
theorem bode_spec (hK : G.K = KK G.w.params) {x : Bool} {t1 : Tok} {d u : Nat} {I : Hp} {W : Ws} {Q : Value → Hp → Ws → Prop} {E : Ex → Hp → Ws → Prop}
    (h : Q (.bool x) I W) : Cl G (.ref 1598) [.ref 1607, .bytes (if x then [1] else [] : List UInt8).toArray t1] none (d + 1) (u + 3) I W Q E := by
  refine enterK (binds := [("self", .ref 1607), ("serial", .bytes (if x then [1] else [] : List UInt8).toArray t1)]) (kl hK) (kc hK) (by rfl) (by rfl) (by rfl) (by rfl) (by rfl) (by rfl) fun c A s hc O B => ?_
  refine e_cons ?_
  refine r_if O (x = false) ?_ (fun s O g0 => ?_) (fun s O g0 => ?_)
  · skip
    refine e_icmp ?_
    refine r_name O (kd hc) (by rfl) ?_
    refine r_bytes O fun k1 s O => ?_
    refine r_eqB ?_
    refine wpAny_truthy_bool ?_
    exact ⟨O, by cases x <;> simp⟩
  · skip
    subst g0
    refine k_ret ?_
    refine r_bool ?_
    exact ⟨_, I, _, O, h⟩
  · skip
    obtain rfl : x = true := by simpa using g0
    refine e_cons ?_
    refine r_if O True ?_ (fun s O g0 => ?_) (fun s O g0 => absurd trivial g0)
    · skip
      refine e_icmp ?_
      refine r_name O (kd hc) (by rfl) ?_
      refine r_bytes O fun k1 s O => ?_
      refine r_eqB ?_
      refine wpAny_truthy_bool ?_
      exact ⟨O, by simp⟩
    refine k_ret ?_
    refine r_bool ?_
    exact ⟨_, I, _, O, h⟩
set_option maxHeartbeats 0 in
theorem sed_des0 (hK : G.K = KK G.w.params) {n : Nat} (hls : ∀ (ts : List Th), It.dpL (fmL ts) < n → It.szL (fmL ts) ≤ 8000000 → smL ts → ∀ {kt : Bool} {a l : Addr} {I : Hp} {Q : Value → Hp → Ws → Prop} {E : Ex → Hp → Ws → Prop},
    Sed G.w.params I (.ref a) (.sq kt ts) → Rep I (.ref l) (.l (fmL ts)) → (∀ I' r, (∀ a o, I a = some o → I' a = some o) → RepT I' r (.sq true (valL ts)) → Q r I' []) → Cl G (.ref 1657) [.ref a, .ref l] none (n + 5 + 1) (3 * n + 20 + 3) I [] Q E) {t : Th} (hn : (fm t).dp ≤ n) (hz : (fm t).sz ≤ 8000000) (hsm : smT t) {I : Hp} {sv v : Value} (hst : Sed G.w.params I sv t) (hrt : Rep I v (fm t)) : SedM G I sv (PySem.Str.ofString "deserialize") n v fun I' r => RepT I' r (valT t) := by
  cases hst with
  | @n i0 hi =>
    obtain ⟨n0, rfl⟩ := Int.eq_ofNat_of_zero_le hi
    rw [fm, Int.toNat_natCast] at hrt
    cases hrt with | s _ tb =>
    refine ⟨1500, by rw [hK]; exact (by k_is), fun Q E hq => ((bede_spec hK (show n0 < 256 ^ 40 from hsm) (d := 0) (u := 0) fun tk => hq _ _ (fun _ _ e => e) (.n _ _)).le (by lia) (by lia)), fun A s pl Q E X im h => ?_⟩
    exact method_fn (f := 1500) X (⟨X _ _ (kl hK (a := 1509) (by k_is)), rfl, rfl, X _ _ (kl hK (a := 1508) (by k_is))⟩ : InstAt s.heap 1509 _ 1503 (some _)) (by rw [hK]; rfl) (by rw [hK]; rfl) (by rw [hK]; rfl) (by rw [hK]; rfl) (by rfl) h
  | b x =>
    rw [fm] at hrt
    cases hrt with | s _ tb =>
    refine ⟨1598, by rw [hK]; exact (by k_is), fun Q E hq => ((bode_spec hK (d := 0) (u := 0) (hq _ _ (fun _ _ e => e) (.b _))).le (by lia) (by lia)), fun A s pl Q E X im h => ?_⟩
    exact method_fn (f := 1598) X (⟨X _ _ (kl hK (a := 1607) (by k_is)), rfl, rfl, X _ _ (kl hK (a := 1606) (by k_is))⟩ : InstAt s.heap 1607 _ 1601 (some _)) (by rw [hK]; rfl) (by rw [hK]; rfl) (by rw [hK]; rfl) (by rw [hK]; rfl) (by rfl) h
  | o x =>
    rw [fm] at hrt
    cases hrt with | s _ tb =>
    rw [fm, It.sz] at hz
    refine ⟨1567, by rw [hK]; exact (by k_is), fun Q E hq => ((bde_spec hK (x := x) (d := 0) (u := 0) (by lia) (hq _ _ (fun _ _ e => e) (.o _ _))).le (by lia) (by lia)), fun A s pl Q E X im h => ?_⟩
    exact method_fn (f := 1567) X (⟨X _ _ (kl hK (a := 1576) (by k_is)), rfl, rfl, X _ _ (kl hK (a := 1575) (by k_is))⟩ : InstAt s.heap 1576 _ 1570 (some _)) (by rw [hK]; rfl) (by rw [hK]; rfl) (by rw [hK]; rfl) (by rw [hK]; rfl) (by rfl) h
  | ba x =>
    rw [fm] at hrt
    cases hrt with | s _ tb =>
    rw [fm, It.sz] at hz
    refine ⟨1567, by rw [hK]; exact (by k_is), fun Q E hq => ((bde_spec hK (x := x) (d := 0) (u := 0) (by lia) (hq _ _ (fun _ _ e => e) (.o _ _))).le (by lia) (by lia)), fun A s pl Q E X im h => ?_⟩
    exact method_fn (f := 1567) X (⟨X _ _ (kl hK (a := 1576) (by k_is)), rfl, rfl, X _ _ (kl hK (a := 1575) (by k_is))⟩ : InstAt s.heap 1576 _ 1570 (some _)) (by rw [hK]; rfl) (by rw [hK]; rfl) (by rw [hK]; rfl) (by rw [hK]; rfl) (by rfl) h
  | @l a2 dx2 p2 tk2 tk2' n2 k2 svs2 kt2 ts2 f1 f2 f3 sr2 =>
    rw [fm] at hrt
    have hr1 := hrt
    cases hrt with | @l b2 vs2 m2 _ fb r2 =>
    rw [fm, It.sz] at hz
    rw [fm, It.dp] at hn
    refine ⟨1657, by rw [hK]; exact (by k_is), fun Q E hq => ((hls ts2 (by lia) (by lia) hsm (kt := kt2) (.l f1 f2 f3 sr2) hr1 hq).le (by lia) (by lia)), fun A s pl Q E X im h => ?_⟩
    exact method_fn (f := 1657) X (⟨im _ _ f1, rfl, rfl, im _ _ f2⟩ : InstAt s.heap a2 _ 1660 (some _)) (by rw [hK]; rfl) (by rw [hK]; rfl) (by rw [hK]; rfl) (by rw [hK]; rfl) (by rfl) h
inductive JE7 (I : Hp) (fd : Addr) (ts : List Th) (i : Nat) : St → Prop
  | mk {m : Mp} {I2 : Hp} (k : Nat) (rs : List Value) (h2 : ∀ a o, I a = some o → I2 a = some o) (h3 : RepTL I2 rs (valL (ts.take i))) (h4 : m "found" = some (.ref fd)) : JE7 I fd ts i ⟨m, I2, [(fd, lst rs k)]⟩
set_option maxHeartbeats 0 in
theorem ld_spec (hK : G.K = KK G.w.params) : ∀ (n : Nat) (ts : List Th), It.dpL (fmL ts) < n → It.szL (fmL ts) ≤ 8000000 → smL ts → ∀ {kt : Bool} {a l : Addr} {I : Hp} {Q : Value → Hp → Ws → Prop} {E : Ex → Hp → Ws → Prop},
    Sed G.w.params I (.ref a) (.sq kt ts) → Rep I (.ref l) (.l (fmL ts)) → (∀ I' r, (∀ a o, I a = some o → I' a = some o) → RepT I' r (.sq true (valL ts)) → Q r I' []) → Cl G (.ref 1657) [.ref a, .ref l] none (n + 5 + 1) (3 * n + 20 + 3) I [] Q E
  | 0, _, h => absurd h (by lia)
  | n + 1, ts, hn => by
    intro hz hsm kt a l I Q E hs hr hq
    refine enterK (binds := [("self", .ref a), ("serial", .ref l)]) (kl hK) (kc hK) (by rfl) (by rfl) (by rfl) (by rfl) (by rfl) (by rfl) fun c A s hc O B => ?_
    have hr0 := hr
    cases hs with | @l _ dx p tk tk' n0 k0 svs _ _ e1 e2 e3 sr =>
    cases hr with | @l _ vs nn _ e r =>
    have lent := r.length
    rw [fmL_len] at lent
    have lens := sr.length
    have hvl := szL_pos ts
    refine e_cons ?_
    refine r_if O False ?_ (fun s O g0 => g0.elim) (fun s O g0 => ?_)
    · skip
      refine isTrue_not ?_
      refine e_plain ?_
      refine k_def O (kd hc) (kn hK) (kk hK (by k_is)) ?_
      refine k_arg O (kd hc) (by rfl) ?_
      refine spliced_none ⟨O.In, ?_⟩
      refine r_pure O B ((isq_spec hK hr0.toT (d := 0) (u := 0) fun s O _ => ?_).le (by lia) (by lia))
      refine wpAny_truthy_bool ?_
      exact ⟨O, iff_no id⟩
    refine wpAny_execs_nil ?_
    refine e_cons ?_
    refine r_if O False ?_ (fun s O g0 => g0.elim) (fun s O g0 => ?_)
    · skip
      refine e_and ?_
      refine e_plain ?_
      refine e_att ?_
      refine r_name O (kd hc) (by rfl) ?_
      refine r_getA O (⟨O.im _ _ e1, rfl, rfl, O.im _ _ e2⟩ : InstAt s.heap a _ 1660 (some _)) (by rw [hK]; rfl) (v := .bool true) (by rw [hK]; rfl) rfl fun s O => ?_
      refine wpAny_truthy_bool ?_
      refine ite_t ?_
      refine e_and ?_
      refine e_icmp ?_
      refine e_call ?_
      refine r_blt O (kd hc) (kn hK) PyProof.Rows.Boot.«len» ?_
      refine c_b1 ?_
      refine k_arg O (kd hc) (by rfl) ?_
      refine spliced_none ?_
      refine r_lenL O (O.im _ _ e) (by lia) fun k1 s O => ?_
      refine e_call ?_
      refine r_blt O (kd hc) (kn hK) PyProof.Rows.Boot.«len» ?_
      refine c_b1 ?_
      refine k_arg O (kd hc) (by rfl) ?_
      refine spliced_none ?_
      refine r_lenI (n := svs.length) (d := 1) (u := 3) O (B.le (by lia) (by lia)) (⟨O.im _ _ e1, rfl, rfl, O.im _ _ e2⟩ : InstAt s.heap a _ 1660 (some _)) (by lia) (f := 1643) (by rw [hK]; rfl) (by rw [hK]; rfl) (ll_spec hK (d := 0) (u := 0) (by lia) e1 e2 e3 fun t s O _ => ⟨⟨t, rfl⟩, fun k1 => ?_⟩)
      have O := O.toks (k := k1 + 1)
      refine r_nei ?_
      refine wpAny_truthy_bool ?_
      refine ite_dec (fun q => absurd (by lia) q) (fun _ => ⟨O, iff_no id⟩)
    refine wpAny_execs_nil ?_
    refine k_asg ?_
    refine e_lst ?_
    refine spliced_none ?_
    refine r_newList O (sz_small (by simp)) fun fd s O => ?_
    refine r_store O (kd hc) fun s O => ?_
    refine e_cons ?_
    refine wpAny_For ?_
    refine e_call ?_
    refine r_blt O (kd hc) (kn hK) PyProof.Rows.Boot.«enumerate» ?_
    refine c_t1 ?_
    refine e_more ?_
    refine e_call ?_
    refine r_blt O (kd hc) (kn hK) PyProof.Rows.Boot.«zip» ?_
    refine c_t1 ?_
    refine e_more ?_
    refine e_att ?_
    refine r_name O (kd hc) (by rfl) ?_
    refine r_getA O (⟨O.im _ _ e1, rfl, rfl, O.im _ _ e2⟩ : InstAt s.heap a _ 1660 (some _)) (by rw [hK]; rfl) (v := .ref p) (by rw [hK]; rfl) rfl fun s O => ?_
    refine k_arg O (kd hc) (by rfl) ?_
    refine spliced_none ?_
    refine r_zip (k1 := false) (k2 := false) O e3 e fun z TI TO i1 i2 Wi s D hWi hw0 O hz' hZ => ?_
    refine spliced_none ?_
    have hm : ∀ b ∈ [z, TI, TO, i1, i2], ∃ o, s.heap.get? b = some o := fun b hb => by
      rw [← hWi] at hb
      obtain ⟨q, hq, rfl⟩ := List.mem_map.mp hb
      exact ⟨_, O.wr q (List.mem_append_left _ hq)⟩
    refine r_enumZ O hz' fun ee eo s2 ne0 nw0 O2 hE2 hk2 => ?_
    refine wpAny_pyIter_enum hE2 ?_
    have nez : ee ∉ [z, TI, TO, i1, i2, p, l] := fun hm' => by
      simp only [List.mem_cons, List.not_mem_nil, or_false] at hm'
      have hb : ∀ b, (∃ o, s.heap.get? b = some o) → ee ≠ b := fun b ⟨o, ho⟩ q => by rw [← q, ne0] at ho; cases ho
      rcases hm' with q | q | q | q | q | q | q
      · exact hb _ (hm z (by simp)) q
      · exact hb _ (hm TI (by simp)) q
      · exact hb _ (hm TO (by simp)) q
      · exact hb _ (hm i1 (by simp)) q
      · exact hb _ (hm i2 (by simp)) q
      · exact hb _ ⟨_, O.im _ _ e3⟩ q
      · exact hb _ ⟨_, O.im _ _ e⟩ q
    refine loop_ez (p := ⟨z, TI, TO, i1, i2, p, l, false, false, svs, vs, k0, nn⟩) (Wi := (ee, eo) :: Wi) (W0 := [(fd, lst [] 0)]) (JE7 I fd ts) D nez B.h (kd hc) (kd hc) (kd hc) e3 e (lens.trans lent.symm) O2 (by rw [List.map_cons, hWi]) ?_ hE2 ⟨hZ.keep (fun b _ o q => hk2 b o q), .inl ⟨rfl, hk2 _ _ hz'⟩⟩ ⟨0, [], fun _ _ h => h, .nil, rfl⟩ ?_ ?_ ?_
    · intro b hb
      rcases List.mem_cons.mp hb with rfl | hb
      · exact nw0
      · exact hw0 b hb
    rotate_left
    · rintro i st I' ⟨k, rs, h2, h3, h4⟩ hs
      exact ⟨k, rs, fun a o e => hs _ _ (h2 _ _ e), h3.mono hs, h4⟩
    · rintro st s hj O'
      cases hj with | @mk m' I' k rs h2 h3 h4 =>
      rw [lens, List.take_length] at h3
      have O := Ok.unre (st := ⟨_, I, _⟩) O2 rfl O'
      refine k_ret ?_
      refine e_call ?_
      refine r_blt O (kd hc) (kn hK) PyProof.Rows.Boot.«tuple» ?_
      refine c_t1 ?_
      refine k_arg O (kd hc) h4 ?_
      refine spliced_none ?_
      have hrl := h3.length
      rw [valL_len] at hrl
      refine r_tupleOf O (O.wr _ (.head _)) (by lia) fun tu s O => ?_
      have n1 := O.wI _ (.head _)
      have O := O.fix
      exact ⟨_, _, _, O.drop (W1 := [(fd, _)]) (W := []), hq _ _ (fun a o e => sub_fix n1 _ _ (h2 _ _ e)) (.sq (k := true) (nn := 0) (if_pos rfl) (h3.mono (sub_fix n1)))⟩
    · rintro i y x t st Wi2 s hy hx hj O
      cases hj with | @mk m' I' k rs h2 h3 h4 =>
      dsimp only at O
      obtain ⟨t', ht, hst⟩ := sr.get hy
      obtain ⟨t2, ht2, hrt⟩ := r.get hx
      rw [fmL_get ht] at ht2
      cases ht2
      have B' : Bud A none ((c.re I).env :: c.outer) (n + 6) (3 * n + 23) := B
      have hrl := h3.length
      have hil := (List.getElem?_eq_some_iff.mp hy).1
      refine e_cons ?_
      refine wpAny_Try_except ?_
      refine e_cons ?_
      refine r_expr (c := c.re I) O ?_
      refine e_meth ?_
      refine r_name (c := c.re I) O (kd hc) h4 ?_
      refine r_getAppend (c := c.re I) O (vs := rs) (n := k) (l := fd) (by simp) ?_
      refine PyProof.Rows.callWith_method1 ?_
      refine e_more ?_
      refine e_meth ?_
      refine r_name (c := c.re I) O (kd hc) (by rfl) ?_
      obtain ⟨hd1, hz1⟩ := szL_get ht
      have hsm1 := smL_get hsm ht
      have hst := hst.mono h2
      have hrl2 : rs.length ≤ ts.length := by rw [hrl, valL_len]; exact List.length_take_le' _ _
      have hrt := hrt.mono h2
      refine mq_mono (Qm := fun v s => ∃ I2, (∀ a o, I' a = some o → I2 a = some o) ∧ RepT I2 v (valT t') ∧ Ok G (c.re I) ⟨(stOf O).m, I2, Wi2 ++ [(fd, lst rs k)]⟩ s) ?_ fun v s hv => ?_
      rotate_left
      · obtain ⟨I2, hs', hv, O⟩ := hv
        refine spliced_none ?_
        refine r_append (W1 := Wi2) O (by unfold sizeLine; lia) fun s n2 O => ?_
        refine wpAny_execs_nil ?_
        refine wpAny_execs_nil ?_
        refine wpAny_execs_nil ?_
        refine ⟨rfl, ⟨_, _, [(fd, _)]⟩, ?_, hs', O⟩
        refine JE7.mk n2 (rs ++ [_]) (fun a o e => hs' a o (h2 a o e)) ?_ h4
        rw [List.take_add_one, ht, valL_append]
        exact RepTL.snoc hv (h3.mono hs')
      exact (sed_des0 hK (fun ts h1 h2 h3 => ld_spec hK n ts h1 h2 h3) (by lia) (by lia) hsm1 hst hrt).go (c := c.re I) O B' (fun _ h => r_name (c := c.re I) O (kd hc) (by rfl) (h _ O)) fun I2 r s hs' hv O => ⟨_, hs', hv, O⟩
end
section
open PySem.Builtin
section
variable {prog : Program} {w : World} {A : Around}
noncomputable def GY (n : Nat) (Inv : Nat → Shared → Prop) (Out : Nat → VP) : Protocol := fun m _ v s kap =>
  ∃ i, i < n ∧ m = n - 1 - i ∧ Out i v s ∧ (∃ s'', Inv (i + 1) s'') ∧ ∀ s'', Inv (i + 1) s'' → kap (.send .none) s''
noncomputable def GR (Fin : Shared → Prop) (FinE : VP) : GenEnd := fun n _ r s₁ => (r = .ok .next ∧ (n = 0 ∧ Fin s₁)) ∨ ∃ e, r = .error e ∧ FinE e s₁
theorem seg_gen {elt iter : PySem.Expr} {x : Str} {px : Pos} {scope : Scope} {pos : Pos} {it : Value} {n : Nat} {cenv : Env} {Inv : Nat → Shared → Prop} {Out : Nat → VP} {Fin : Shared → Prop} {FinE : VP} {Ao : Around}
    (hne : ∀ i y s, Out i y s → ∃ s'', Inv (i + 1) s'') (hAo : A.over (.compLoop (.GeneratorExp elt [⟨.Name x px, iter, [], 0⟩] scope pos) 0 it .none cenv) [] = Ao) (hco : cenv.scope.isCoroutine = false)
    (hnext : ∀ i s, i < n → Inv i s → wpAny (model prog w) Ao (pyNext it) (fun r s1 => ∃ v, r = some v ∧ wpAny (model prog w) Ao (assign (.Name x px) cenv v) (fun _ s2 => wpAny (model prog w) Ao (eval elt cenv) (fun y s3 => Out i y s3) (fun e s3 => wpAny (model prog w) Ao (leaving cenv e) (fun _ s4 => FinE e s4) (fun _ _ => False) s3) s2) (fun _ _ => False) s1) (fun _ _ => False) s)
    (hdone : ∀ s, Inv n s → wpAny (model prog w) Ao (pyNext it) (fun r s1 => r = none ∧ Fin s1) (fun _ _ => False) s) :
    ∀ (k i : Nat) (s₀ s : Shared), n - i = k → i ≤ n → Inv i s →
      Seg (model prog w) A (GR Fin FinE) (GY n Inv Out) k s₀ (.compLoop (.GeneratorExp elt [⟨.Name x px, iter, [], 0⟩] scope pos) 0 it .none cenv)
        ((model prog w).den (.compLoop (.GeneratorExp elt [⟨.Name x px, iter, [], 0⟩] scope pos) 0 it .none cenv)) [] s := by
  intro k
  induction k with
  | zero =>
    intro i s₀ s hk hi hv
    have hin : i = n := Nat.le_antisymm hi (Nat.sub_eq_zero_iff_le.mp hk)
    subst hin
    show Seg _ A _ _ _ s₀ _ ((compTurn (.GeneratorExp elt [⟨.Name x px, iter, [], 0⟩] scope pos) 0 it .none cenv).onRaise (leaving cenv)) [] s
    rw [compTurn_gen, Sem.onRaise_eq_wrap]
    refine seg_bind_wrap (wpAny_standAt ?_)
    refine seg_bind_wrap ?_
    rw [hAo]
    refine wpAny_mono (hdone s hv) (fun r s' h => ?_) fun _ _ h => h.elim
    obtain ⟨rfl, h⟩ := h
    exact seg_end (.ok .next) (.inl ⟨rfl, rfl, h⟩)
  | succ k ih =>
    intro i s₀ s hk hi hv
    have hlt : i < n := Nat.lt_of_sub_eq_succ hk
    show Seg _ A _ _ _ s₀ _ ((compTurn (.GeneratorExp elt [⟨.Name x px, iter, [], 0⟩] scope pos) 0 it .none cenv).onRaise (leaving cenv)) [] s
    rw [compTurn_gen, Sem.onRaise_eq_wrap]
    refine seg_bind_wrap (wpAny_standAt ?_)
    refine seg_bind_wrap ?_
    rw [hAo]
    refine wpAny_mono (hnext i s hlt hv) (fun r s1 h => ?_) fun _ _ h => h.elim
    obtain ⟨v, rfl, h⟩ := h
    refine seg_bind_wrap (wpAny_of_eq (rfl : letOwnedTupleGo (.Name x px) it v = pure ()) ?_)
    refine seg_bind_wrap ?_
    rw [hAo]
    refine wpAny_mono h (fun _ s2 h => ?_) fun _ _ h => h.elim
    refine seg_bind_wrap (wpAny_tests_nil ?_)
    rw [if_pos rfl]
    have hy : ∀ v, yieldOut cenv v = yieldValue v := fun v => by simp only [yieldOut, hco, Bool.false_eq_true, if_false]
    simp only [hy]
    rw [Sem.bind_eq_wrap', Sem.bind_eq_wrap', Sem.wrap_wrap, Sem.wrap_wrap]
    refine seg_wrap ?_
    rw [hAo]
    refine wpAny_mono h (fun y s3 h => ?_) fun e s3 h => ?_
    rotate_left
    · show Seg _ A _ _ _ s₀ _ (leaving cenv e >>= fun _ => Sem.raise e) [] s3
      refine seg_bind ?_
      rw [hAo]
      exact wpAny_mono h (fun _ s4 h => seg_end (.error e) (.inr ⟨e, rfl, h⟩)) fun _ _ h => h.elim
    refine seg_at (seg_yield rfl rfl rfl ⟨i, hlt, by lia, h, hne _ _ _ h, fun s'' hal => ?_⟩)
    exact seg_again rfl (ih (i + 1) s'' s'' (sub_at hk) hlt hal)
theorem seg_genS {elt iter : PySem.Expr} {x : Str} {px : Pos} {scope : Scope} {pos : Pos} {it : Value} {n : Nat} {cenv : Env} {Inv : Nat → Shared → Prop} {Out : Nat → VP} {Fin : Shared → Prop} {FinE : VP} {Ao : Around}
    (hne : ∀ i y s, Out i y s → ∃ s'', Inv (i + 1) s'') (hAo : A.over (.compLoop (.GeneratorExp elt [⟨.Name x px, iter, [], 0⟩] scope pos) 0 it .none cenv) [] = Ao) (hco : cenv.scope.isCoroutine = false)
    (hnext : ∀ i s, i < n → Inv i s → wpAny (model prog w) Ao (pyNext it) (fun r s1 => ∃ v, r = some v ∧ wpAny (model prog w) Ao (assign (.Name x px) cenv v) (fun _ s2 => wpAny (model prog w) Ao (eval elt cenv) (fun y s3 => Out i y s3) (fun e s3 => wpAny (model prog w) Ao (leaving cenv e) (fun _ s4 => FinE e s4) (fun _ _ => False) s3) s2) (fun _ _ => False) s1) (fun _ _ => False) s)
    (hdone : ∀ s, Inv n s → wpAny (model prog w) Ao (pyNext it) (fun r s1 => r = none ∧ Fin s1) (fun _ _ => False) s)
    (hself : ∀ (A' : Around) s (Q : VP) E, Inv 0 s → Q it s → wpAny (model prog w) A' (pyIter it) Q E s) (s₀ s : Shared) (h0 : Inv 0 s) :
    Seg (model prog w) A (GR Fin FinE) (GY n Inv Out) n s₀ (.compStart (.GeneratorExp elt [⟨.Name x px, iter, [], 0⟩] scope pos) 0 it .none cenv)
      ((model prog w).den (.compStart (.GeneratorExp elt [⟨.Name x px, iter, [], 0⟩] scope pos) 0 it .none cenv)) [] s := by
  have loop := seg_gen (iter := iter) hne hAo hco hnext hdone n 0 s₀ s rfl (Nat.zero_le _) h0
  show Seg _ A _ _ _ s₀ _ ((compStart (.GeneratorExp elt [⟨.Name x px, iter, [], 0⟩] scope pos) 0 it .none cenv).onRaise (leaving cenv)) [] s
  unfold compStart
  rw [Sem.onRaise_eq_wrap]
  show Seg _ A _ _ _ s₀ _ ((ask >>= _).wrap _ _ _ _) [] s
  refine seg_bind_wrap (wpAny_askSetting ?_)
  split
  · exact seg_again rfl loop
  · refine seg_bind_wrap (wpAny_rule ?_)
    show Seg _ A _ _ _ s₀ _ ((standAt iter.pos >>= _).wrap _ _ _ _) [] s
    exact seg_bind_wrap (wpAny_standAt (seg_bind_wrap (hself _ s _ _ h0 (seg_again rfl loop))))
structure GSt (prog : Program) (w : World) (A : Around) (a : Addr) (g n : Nat) (Inv : Nat → Shared → Prop) (Out : Nat → VP) (Fin : Shared → Prop) (FinE : VP) (i : Nat) (s : Shared) : Prop where
  isG : s.heap.IsGen a g
  lim : s.heap.NoLimit
  st : ∃ gs, s.gens[g]? = some gs ∧ ∀ s'', Inv i s'' → gs.Goes (model prog w) A.in1 (GR Fin FinE) (GY n Inv Out) (n - i) (.send .none) s''
  inv : Inv i (s.setGen g .running)
noncomputable def NoStop (prog : Program) (w : World) (e : Value) (s : Shared) : Prop :=
  ∀ (A : Around) (gs : Array GenState) (Q : Bool → Shared → Prop) (E : VP), Q false { s with gens := gs } → wpAny (model prog w) A (isInstance e (.type "StopIteration")) Q E { s with gens := gs }
theorem next_any {a : Addr} {g n : Nat} {gs : GenState} {Fin : Shared → Prop} {FinE : VP} {Y : Protocol} {s : Shared} {E : VP} {Q : Option Value → Shared → Prop} (hh : A.handled = none)
    (hl : s.heap.NoLimit) (hroom : A.depth < recursionLimit) (hg : s.heap.IsGen a g) (hgs : s.gens[g]? = some gs)
    (hgo : gs.Goes (model prog w) A.in1 (GR Fin FinE) Y n (.send .none) (s.setGen g .running))
    (hY : ∀ v s₁ gs', gs'.bare = true → Y (n - 1) (s.setGen g .running) v s₁ (fun r' s'' => match n with | 0 => False | m + 1 => gs'.Goes (model prog w) A.in1 (GR Fin FinE) Y m r' s'') → Q (some v) (s₁.setGen g gs'))
    (hP : ∀ s₁, n = 0 → Fin s₁ → ∀ h', (∀ b o, s₁.heap.get? b = some o → h'.get? b = some o) → Q none { s₁.setGen g .finished with heap := h' })
    (hX : ∀ e s₁, FinE e s₁ → s₁.heap.IsGen a g ∧ NoStop prog w e s₁ ∧ E e (s₁.setGen g .finished)) :
    wpAny (model prog w) A (pyNext (.ref a)) Q E s := by
  unfold pyNext
  refine wpAny_bind (wpAny_attempt (wpAny_callSpecial?_slot (name := Str.ofString "__next__") hg.typeIs slot_gen_next
    (wpAny_call_entry slot_gen_next hg.typeIs entry_gen_next ?_ (args_gen_next _))))
  show wpAny _ A.in1 (Builtin.Generator.genWake (.ref a) (.send .none)) _ _ s
  unfold Builtin.Generator.genWake
  refine wpAny_bind (wpAny_holding (wpAny_genNumber hg (wpAny_bind (wpAny_genState hgs ?_))))
  cases gs with
  | running => exact hgo.elim
  | finished => exact hgo.elim
  | _ =>
    refine wpAny_bind (wpAny_roomToWake hl hroom ?_)
    show wpAny _ A.in1 (.resume g (.send .none) [] _) _ _ s
    refine wpAny_resumeQ hgs hgo (fun x s₁ hx => ?_) (fun v s₁ gs' hb hv => ?_)
    · rcases hx with ⟨rfl, hn, hp⟩ | ⟨e, rfl, hp⟩
      · show wpAny _ A.in1 (newExc (.type "StopIteration") [] >>= _) _ _ _
        refine wpAny_bind ?_
        simp only [newExc, newTuple]
        refine wpAny_bind (wpAny_newObj_type ?_ (by size_fits))
        refine wpAny_bind (m := firstArgMember _ _) (wpAny_of_eq (a := Value.none) (by first | rfl | (simp only [firstArgMember]; rfl)) ?_)
        refine wpAny_newObj_type ?_ (by size_fits)
        unfold raiseNew
        refine wpAny_bind (wpAny_bind (wpAny_handled ?_))
        rw [show A.in1.handled = none from hh]
        refine wpAny_throw ?_
        refine wpAny_bind (wpAny_isInstance (T := "StopIteration") (b := true) ⟨_, Heap.get?_push_size _ rfl, rfl⟩ isSubtype_stop ?_)
        exact wpAny_pure (hP s₁ hn hp _ fun b o hb => Heap.get?_push_of_some _ (Heap.get?_push_of_some _ hb))
      · obtain ⟨⟨o, nm, qn, ho, hc, hd, _⟩, hns, hE⟩ := hX e s₁ hp
        show wpAny _ A.in1 (Builtin.Generator.genLeft (.ref a) e) _ _ (s₁.setGen g .finished)
        unfold Builtin.Generator.genLeft Builtin.Generator.madeByALambda
        refine wpAny_bind (wpAny_bind (wpAny_bind (wpAny_load (s := s₁.setGen g .finished) ho (wpAny_pure ?_))))
        rw [hd]
        refine wpAny_pure ?_
        rw [show (o.cls == Value.type "generator" && (#[Value.int g 0, nm, qn][3]? == some (Value.bool true))) = false by simp]
        refine wpAny_bind (hns _ _ _ _ ?_)
        dsimp only
        rw [if_neg (by simp)]
        unfold Builtin.Generator.genEscaped
        refine wpAny_bind (hns _ _ _ _ ?_)
        refine wpAny_throw ?_
        exact wpAny_bind (hns _ _ _ _ (wpAny_throw hE))
    · exact wpAny_pure ⟨v, rfl, wpAny_pure (hY v s₁ gs' hb hv)⟩
theorem next_gen {a : Addr} {g n i : Nat} {Inv : Nat → Shared → Prop} {Out : Nat → VP} {Fin : Shared → Prop} {FinE : VP} {s : Shared} {E : VP} {Q : Option Value → Shared → Prop}
    (X : GSt prog w A a g n Inv Out Fin FinE i s) (hi : i < n) (hh : A.handled = none) (hroom : A.depth < recursionLimit)
    (hQ : ∀ v s₁ gs', gs'.bare = true → Out i v s₁ → (∀ s'', Inv (i + 1) s'' → gs'.Goes (model prog w) A.in1 (GR Fin FinE) (GY n Inv Out) (n - (i + 1)) (.send .none) s'') → Q (some v) (s₁.setGen g gs'))
    (hX : ∀ e s₁, FinE e s₁ → s₁.heap.IsGen a g ∧ NoStop prog w e s₁ ∧ E e (s₁.setGen g .finished)) :
    wpAny (model prog w) A (pyNext (.ref a)) Q E s := by
  obtain ⟨isG, lim, ⟨gs, hgs, hgo⟩, inv⟩ := X
  have hm : n - i = (n - (i + 1)) + 1 := sub_up hi
  have hgo' := hgo _ inv
  rw [hm] at hgo'
  refine next_any hh lim hroom isG hgs hgo' (fun v s₁ gs' hb hv => ?_) (fun s₁ hn _ h' hk => absurd hn (Nat.succ_ne_zero _)) hX
  obtain ⟨j, hj, e, ho, _, hk⟩ := hv
  have hj' : j = i := by simp only [Nat.add_sub_cancel] at e; exact nxt_j hi hj e
  subst hj'
  exact hQ v s₁ gs' hb ho hk
theorem end_gen {a : Addr} {g n : Nat} {Inv : Nat → Shared → Prop} {Out : Nat → VP} {Fin : Shared → Prop} {FinE : VP} {s : Shared} {E : VP} {Q : Option Value → Shared → Prop}
    (X : GSt prog w A a g n Inv Out Fin FinE n s) (hh : A.handled = none) (hroom : A.depth < recursionLimit)
    (hQ : ∀ s₁ h', Fin s₁ → (∀ b o, s₁.heap.get? b = some o → h'.get? b = some o) → Q none { s₁.setGen g .finished with heap := h' })
    (hX : ∀ e s₁, FinE e s₁ → s₁.heap.IsGen a g ∧ NoStop prog w e s₁ ∧ E e (s₁.setGen g .finished)) :
    wpAny (model prog w) A (pyNext (.ref a)) Q E s := by
  obtain ⟨isG, lim, ⟨gs, hgs, hgo⟩, inv⟩ := X
  have hgo' := hgo _ inv
  rw [Nat.sub_self] at hgo'
  refine next_any hh lim hroom isG hgs hgo' (fun v s₁ gs' hb hv => ?_) (fun s₁ _ hp h' hk => hQ s₁ h' hp hk) hX
  obtain ⟨j, hj, e, ho, ⟨s'', q⟩, hk⟩ := hv
  exact (hk s'' q).elim
end
section
variable {prog : Program} {w : World} {A : Around} {E : VP} {s : Shared}
noncomputable abbrev lsA (acc : Array Value) (c : Nat) : Obj := { cls := .type "list", dict := none, data := .seq acc c, slots := #[] }
structure Feeds (prog : Program) (w : World) (A : Around) (S I : Addr) (n : Nat) (J : Nat → Array Value → Shared → Prop) (F : Array Value → Shared → Prop) (X : VP) : Prop where
  ty : ∀ i acc s, J i acc s → s.TypeIs (.ref I) "generator"
  sz : ∀ i acc s, J i acc s → acc.size = i
  at_ : ∀ i acc s, J i acc s → ∃ c, s.heap.get? S = some (lsA acc c)
  upd : ∀ i acc s h' c', J i acc s → Heap.SameBut S s.heap h' → h'.get? S = some (lsA acc c') → J i acc { s with heap := h' }
  self : ∀ i acc s (Q : VP) (E : VP) (A' : Around), J i acc s → Q (.ref I) s → wpAny (model prog w) A' (pyIter (.ref I)) Q E s
  item : ∀ i acc s, i < n → J i acc s → wpAny (model prog w) A (pyNext (.ref I)) (fun r s' => ∃ v c acc', r = some v ∧ s'.heap.get? S = some (lsA acc' c) ∧ acc'.size = i ∧ ∀ h' c', Heap.SameBut S s'.heap h' → h'.get? S = some (lsA (acc'.push v) c') → J (i + 1) (acc'.push v) { s' with heap := h' }) X s
  done : ∀ acc s, J n acc s → wpAny (model prog w) A (pyNext (.ref I)) (fun r s' => r = none ∧ ∃ acc', F acc' s') X s
variable {S I : Addr} {n : Nat} {J : Nat → Array Value → Shared → Prop} {F : Array Value → Shared → Prop} {Xe : VP}
theorem feed_loop {R : Result → Shared → Prop} (X : Feeds prog w A.in1 S I n J F Xe) (hn : n ≤ sizeLine) (res : Value) : ∀ (k i : Nat) (s : Shared) (acc : Array Value), n - i = k → i ≤ n → J i acc s → (∀ acc' s', F acc' s' → R (.ok (.ret res)) s') → (∀ e s', Xe e s' → R (.error e) s') →
    codeAny (model prog w) A (.builtin "list.extend.loop" ⟨[.ref S, .ref I, res], []⟩) R s := by
  intro k
  induction k with
  | zero =>
    intro i s acc hk hi hj hR hE
    have hin : i = n := Nat.le_antisymm hi (Nat.sub_eq_zero_iff_le.mp hk)
    subst hin
    refine codeAny_builtin PySem.F.entry_extend_loop ?_
    rw [Around.under_plainId PySem.F.plain_extend_loop _]
    show wpAny _ A.in1 (pyNext (.ref I) >>= _) _ _ s
    refine wpAny_bind (wpAny_mono (X.done acc s hj) (fun r s' h => ?_) fun e s' h => hE e s' h)
    obtain ⟨rfl, acc', h⟩ := h
    exact wpAny_pure (hR _ _ h)
  | succ k ih =>
    intro i s acc hk hi hj hR hE
    have hlt : i < n := Nat.lt_of_sub_eq_succ hk
    refine codeAny_builtin PySem.F.entry_extend_loop ?_
    rw [Around.under_plainId PySem.F.plain_extend_loop _]
    show wpAny _ A.in1 (pyNext (.ref I) >>= _) _ _ s
    refine wpAny_bind (wpAny_mono (X.item i acc s hlt hj) (fun r s' h => ?_) fun e s' h => hE e s' h)
    obtain ⟨v, c, acc', rfl, hS', sz, h⟩ := h
    show wpAny _ A.in1 (updateSeq S (·.push v) >>= _) _ _ _
    refine wpAny_bind ?_
    refine wpAny_updateSeq hS' rfl (wpAny_pure ⟨plainId_quiet PySem.F.plain_extend_loop _, ih (i + 1) _ (acc'.push v) (sub_at hk) hlt (h _ _ (Heap.SameBut.update ..) (Heap.get?_update_self _ hS' rfl)) hR hE⟩) (by rw [sz]; lia) (by show (acc'.push v).size ≤ sizeLine + 1; rw [Array.size_push, sz]; lia)
theorem feed_extend {R : Result → Shared → Prop} (X : Feeds prog w A.in1 S I n J F Xe) (hn : n ≤ sizeLine) (hSI : S ≠ I) (res : Value) (hj : J 0 #[] s) (hR : ∀ acc' s', F acc' s' → R (.ok (.ret res)) s') (hE : ∀ e s', Xe e s' → R (.error e) s') :
    wpAny (model prog w) A.in1 (Builtin.List.listExtendWith (.ref S) (.ref I) res)
      (fun fin s' => match fin with | .done f => R (.ok f) s' | .again c' => c'.quiet = true ∧ codeAny (model prog w) A c' R s') (fun e s' => R (.error e) s') s := by
  unfold Builtin.List.listExtendWith
  refine wpAny_bind (wpAny_typeOf (X.ty _ _ _ hj) ?_)
  have h1 : Builtin.List.listSameRef (.ref S) (.ref I) = false := by simp [Builtin.List.listSameRef, hSI]
  have h2 : (Value.type "generator" == Value.type "list") = false := by decide
  have h3 : (Value.type "generator" == Value.type "tuple") = false := by decide
  simp only [h1, h2, h3, Bool.or_false, Bool.false_eq_true, if_false]
  refine wpAny_bind (X.self 0 _ _ _ _ _ hj ?_)
  refine wpAny_bind (wpAny_holding ?_)
  unfold Builtin.List.listLengthHint
  refine wpAny_bind (wpAny_specialOf (X.ty _ _ _ hj) PySem.F.gen_no_len ?_)
  show wpAny _ A.in1 (specialOf (Value.ref I) (Str.ofString "__length_hint__") >>= _) _ _ _
  refine wpAny_bind (wpAny_specialOf (X.ty _ _ _ hj) PySem.F.gen_no_hint ?_)
  refine wpAny_pure ?_
  show wpAny _ A.in1 (rule "list.extend.makes-room" >>= fun _ => Builtin.List.listTouch (.ref S) >>= fun _ =>
    again (.builtin "list.extend.loop" ⟨[.ref S, .ref I, res], []⟩)) _ _ _
  refine wpAny_bind (wpAny_rule ?_)
  refine wpAny_bind ?_
  show wpAny _ A.in1 (updateSeq S (·.push .none) >>= fun _ => updateSeq S (·.pop)) _ _ _
  obtain ⟨c₀, hS⟩ := X.at_ _ _ _ hj
  refine wpAny_bind (wpAny_updateSeq hS rfl ?_)
  have hS₂ := Heap.get?_update_self (Obj.mapSeq (·.push Value.none)) hS rfl
  refine wpAny_updateSeq (hz := by seq_fits) hS₂ rfl ?_
  have hS₃ := Heap.get?_update_self (Obj.mapSeq (·.pop)) hS₂ rfl
  have j1 := X.upd 0 #[] s ((s.heap.update S (Obj.mapSeq (·.push Value.none))).update S (Obj.mapSeq (·.pop))) _ hj ⟨(Heap.SameBut.update ..).1.trans (Heap.SameBut.update ..).1, fun b hb => ((Heap.SameBut.update ..).2 b hb).trans ((Heap.SameBut.update ..).2 b hb)⟩ hS₃
  exact wpAny_pure ⟨plainId_quiet PySem.F.plain_extend_loop _, feed_loop X hn res n 0 _ _ rfl (Nat.zero_le _) j1 hR hE⟩
theorem feed_list {Q : VP} (X : Feeds prog w A.in1.in1 s.heap.objs.size I n J F Xe) (hn : n ≤ sizeLine) (hI : s.heap.get? I ≠ none)
    (j0 : J 0 #[] { s with heap := s.heap.push { cls := .type "list", data := .seq #[] } }) (hQ : ∀ acc' s', F acc' s' → Q (.ref s.heap.objs.size) s') (hE : ∀ e s', Xe e s' → E e s') :
    wpAny (model prog w) A (call (.type "list") [.ref I]) Q E s := by
  have hSI : s.heap.objs.size ≠ I := fun e => hI (e ▸ size_free s.heap)
  refine callType_codes (Q₁ := fun obj s₁ => obj = .ref s.heap.objs.size ∧ s₁ = { s with heap := s.heap.push { cls := .type "list", data := .seq #[] } }) PySem.F.called_list (PySem.F.typeCall_list_1 _) PySem.F.entry_list_init
    (code_list_new _ ⟨rfl, rfl⟩) fun obj s₁ h₁ => ?_
  obtain ⟨rfl, rfl⟩ := h₁
  have hS : (s.heap.push { cls := .type "list", data := .seq #[] }).get? s.heap.objs.size = some { cls := .type "list", data := .seq #[] } := Heap.get?_push_size _ rfl
  refine ⟨⟨_, hS, rfl⟩, PySem.F.args_list_init_2 _ _, ?_⟩
  generalize hs1 : ({ s with heap := s.heap.push { cls := .type "list", data := .seq #[] } } : Shared) = s1 at j0
  have hS1 : s1.heap.get? s.heap.objs.size = some { cls := .type "list", data := .seq #[] } := hs1 ▸ hS
  generalize s.heap.objs.size = S at X hQ hS1 hSI
  show wpAny _ A.in1.in1 (do let old ← Builtin.List.listItems (.ref S); Builtin.List.listUpdate (.ref S) (fun _ => #[]); letGo old.toList.reverse; Builtin.List.listExtendWith (.ref S) (.ref I) .none) _ _ _
  refine wpAny_bind ?_
  unfold Builtin.List.listItems
  refine wpAny_bind (wpAny_seqItems hS1 rfl (wpAny_pure ?_))
  show wpAny _ A.in1.in1 (updateSeq S (fun _ => #[]) >>= fun _ => letGo (#[] : Array Value).toList.reverse >>= fun _ => Builtin.List.listExtendWith (.ref S) (.ref I) .none) _ _ _
  refine wpAny_bind (wpAny_updateSeq hS1 rfl ?_)
  have hS₂ := Heap.get?_update_self (Obj.mapSeq (fun _ => (#[] : Array Value))) hS1 rfl
  refine wpAny_bind (wpAny_letGo ?_)
  exact feed_extend (A := A.in1) X hn hSI .none (X.upd 0 #[] s1 _ _ j0 (Heap.SameBut.update ..) hS₂) (fun acc' s' h => ⟨rfl, hQ _ _ h⟩) fun e s' h => hE e s' h
end
namespace BJ
theorem slot : Slot "bytes" "join" "bytes.join" :=
  .of (owner := "bytes") (n := "join") (by rw [typeLookup_type, builtinLookup_eq_fast]; kernel_rfl) (by decide +kernel) (by decide +kernel) (by decide +kernel)
    (by first | exact .inl (by decide +kernel) | exact .inr (by decide +kernel)) (by rw [isSubtype_type]; kernel_rfl)
theorem type : typeOf (.builtin "bytes.join") = pure (.type "method_descriptor") := by show builtinType _ = _; rw [builtinType_eq_fast]; kernel_rfl
theorem entry : entryFor table "bytes.join" = some Builtin.«bytes.join» := entryFor_of_tree (by kernel_rfl)
theorem args (a b : Value) : argsOk "bytes.join" ⟨[a, b], []⟩ := by kernel_rfl
end BJ
section
variable {prog : Program} {w : World} {A : Around} {E : VP} {s : Shared}
noncomputable def cat (l : List (List UInt8)) : List UInt8 := l.flatten
theorem match_ne {α : Sort _} (arr : Array Value) (h1 : Value → α) (h2 : Array Value → α) (h : arr.size ≠ 1) : Bytes.joinM.match_1 (fun _ => α) arr h1 h2 = h2 arr := by
  obtain ⟨l⟩ := arr
  rcases l with _ | ⟨p, _ | ⟨q, l⟩⟩
  · rfl
  · exact absurd rfl h
  · rfl
theorem forIn_upto {M : Model} {β : Type} {n : Nat} {f : Nat → β → Sem (ForInStep β)} {b : β} {Q : β → Shared → Prop} (I : Nat → β → Shared → Prop)
    (turn : ∀ i b s, i < n → I i b s → wpAny M A (f i b) (fun r s' => ∃ b', r = .yield b' ∧ I (i + 1) b' s') E s) (fin : ∀ b s, I n b s → Q b s) (h : I 0 b s) : wpAny M A (forIn [:n] b f) Q E s := by
  rw [Std.Legacy.Range.forIn_eq_forIn_range']
  have e : (List.range' ({ start := 0, stop := n, step := 1, step_pos := by decide } : Std.Legacy.Range).start ({ start := 0, stop := n, step := 1, step_pos := by decide } : Std.Legacy.Range).size ({ start := 0, stop := n, step := 1, step_pos := by decide } : Std.Legacy.Range).step) = List.range' 0 n := by simp [Std.Legacy.Range.size]
  rw [e]
  refine wpAny_forIn_list f (fun l b s => ∃ i, i ≤ n ∧ l = List.range' i (n - i) ∧ I i b s) Q (fun x rest b s hx => ?_) (fun b s hx => ?_) _ _ ⟨0, Nat.zero_le _, by simp, h⟩
  · obtain ⟨i, hi, e, hI⟩ := hx
    have hlt : i < n := by
      rcases Nat.lt_or_ge i n with q | q
      · exact q
      · have : n - i = 0 := by lia
        rw [this] at e; cases e
    have hni : n - i = (n - (i + 1)) + 1 := by lia
    rw [hni, List.range'_succ] at e
    cases e
    refine wpAny_mono (turn x b s hlt hI) (fun r s' hr => ?_) fun _ _ z => z
    obtain ⟨b', rfl, hI'⟩ := hr
    exact ⟨x + 1, hlt, rfl, hI'⟩
  · obtain ⟨i, hi, e, hI⟩ := hx
    have : i = n := by
      rcases Nat.lt_or_ge i n with q | q
      · have hni : n - i = (n - (i + 1)) + 1 := by lia
        rw [hni, List.range'_succ] at e; cases e
      · lia
    subst this
    exact fin _ _ hI
theorem letGoB : ∀ (l : List Value) (keep : List Value) {s : Shared} {Q : Unit → Shared → Prop}, Q () s → wpAny (model prog w) A (Bytes.joinLetGo (l.map fun p => (p, none)) keep) Q E s
  | [], _, _, _, h => wpAny_pure h
  | p :: l, keep, s, Q, h => by
    rw [List.map_cons, Bytes.joinLetGo]
    · exact wpAny_bind (wpAny_letGo (letGoB l keep h))
    · intro _ z; cases z
theorem joined_nil : ∀ (l : List (List UInt8)) (k : Nat) (acc : Array UInt8), ((l.map fun p => p.toArray).zipIdx k).foldl (fun out (p, i) => (if i > 0 then out ++ #[] else out) ++ p) acc = acc ++ (cat l).toArray
  | [], k, acc => by simp [cat]
  | p :: l, k, acc => by
    rw [List.map_cons, List.zipIdx_cons, List.foldl_cons, joined_nil l (k + 1)]
    simp only [cat, List.flatten_cons]
    split <;> simp
theorem fold_size : ∀ (l : List (List UInt8)) (k : Nat), (l.map fun p => p.toArray).foldl (fun x1 x2 => x1 + x2.size) k = k + (cat l).length
  | [], k => by simp [cat]
  | p :: l, k => by
    rw [List.map_cons, List.foldl_cons, fold_size l]
    simp only [cat, List.flatten_cons, List.length_append, List.size_toArray]
    lia
inductive BvL (h : Hp) : List Value → List (List UInt8) → Prop
  | nil : BvL h [] []
  | cons {v : Value} {x : List UInt8} {vs : List Value} {xs : List (List UInt8)} : Bv h v x → BvL h vs xs → BvL h (v :: vs) (x :: xs)
theorem BvL.len {h : Hp} {vs : List Value} {xs : List (List UInt8)} (r : BvL h vs xs) : vs.length = xs.length := by
  induction r with
  | nil => rfl
  | cons _ _ ih => exact congrArg Nat.succ ih
theorem BvL.get {h : Hp} {vs : List Value} {xs : List (List UInt8)} (r : BvL h vs xs) : ∀ (i : Nat), i < vs.length → ∃ v x, vs[i]? = some v ∧ xs[i]? = some x ∧ Bv h v x := by
  induction r with
  | nil => exact fun _ hi => absurd hi (Nat.not_lt_zero _)
  | cons b _ ih =>
    intro i hi
    cases i with
    | zero => exact ⟨_, _, rfl, rfl, b⟩
    | succ i => exact ih i (Nat.lt_of_succ_lt_succ hi)
theorem BvL.mono {h h' : Hp} (k : ∀ a o, h a = some o → h' a = some o) {vs : List Value} {xs : List (List UInt8)} (r : BvL h vs xs) : BvL h' vs xs := by
  induction r with
  | nil => exact .nil
  | cons b _ ih => exact .cons (b.mono k) ih
theorem BvL.snoc {h : Hp} {v : Value} {x : List UInt8} (b : Bv h v x) {vs : List Value} {xs : List (List UInt8)} (r : BvL h vs xs) : BvL h (vs ++ [v]) (xs ++ [x]) := by
  induction r with
  | nil => exact .cons b .nil
  | cons c _ ih => exact .cons c ih
theorem take_snoc {α : Type} {l : List α} {i : Nat} {a : α} (e : l[i]? = some a) : l.take (i + 1) = l.take i ++ [a] := by
  obtain ⟨h, e⟩ := List.getElem?_eq_some_iff.mp e
  rw [List.take_succ_eq_append_getElem h, e]
theorem join_match {β : Type} {M : Model} {arr : Array Value} {H1 : Value → Sem β} {H2 : Array Value → Sem β} {Q : β → Shared → Prop} (g : wpAny M A (H2 arr) Q E s) (h1 : ∀ v, arr = #[v] → wpAny M A (H2 arr) Q E s → wpAny M A (H1 v) Q E s) :
    wpAny M A (Bytes.joinM.match_1 (fun _ => Sem β) arr H1 H2) Q E s := by
  by_cases h : arr.size = 1
  · obtain ⟨v, rfl⟩ : ∃ v, arr = #[v] := by
      rcases arr with ⟨_ | ⟨p, _ | ⟨q, l⟩⟩⟩ <;> simp at h
      exact ⟨p, rfl⟩
    exact h1 v rfl g
  · rw [match_ne _ _ _ h]; exact g
theorem bytes_join {t : Tok} {Q : VP} {it : Value}
    (hit : wpAny (model prog w) A.in1 (Bytes.joinItems it) (fun v s' => ∃ (vs : List Value) (l : List (List UInt8)) (a : Addr) (c : Nat), v = .ref a ∧ s'.heap.get? a = some (lsA vs.toArray c) ∧ BvL s'.heap.get? vs l ∧ (cat l).length ≤ 1000000 ∧ ∀ u k, Q (.bytes (cat l).toArray u) { s' with toks := k }) E s) :
    wpAny (model prog w) A (call (.builtin "bytes.join") [.bytes #[] t, it]) Q E s := by
  refine wpAny_call_entry BJ.slot (typeIs_bytes _ _ _) BJ.entry ?_ (BJ.args _ _)
  unfold Builtin.«bytes.join» Bytes.joinM
  refine wpAny_bind (wpAny_of_eq (a := (.bytes #[] t, it)) rfl ?_)
  show wpAny _ A.in1 (Bytes.joinItems it >>= _) _ _ _
  refine wpAny_bind (wpAny_mono hit (fun v s' h => ?_) fun _ _ z => z)
  obtain ⟨vs, l, a, c, rfl, hS, hv, hsz, h⟩ := h
  refine wpAny_bind (wpAny_seqItems hS rfl ?_)
  have hlen := hv.len
  show wpAny _ _ (Bytes.joinM.match_1 (fun _ => _) _ _ _) _ _ _
  refine join_match ?_ fun v e g => ?_
  · dsimp only
    have hn : vs.toArray.size = vs.length := List.size_toArray
    refine wpAny_bind (forIn_upto (fun i b s'' => s'' = s' ∧ b = (((l.take i).map fun p => p.toArray).toArray, (vs.take i).map fun p => (p, none))) (fun i b s1 hi hI => ?_) (fun b s1 hI => ?_) ⟨rfl, by simp⟩)
    · obtain ⟨rfl, rfl⟩ := hI
      rw [hn] at hi
      obtain ⟨v, x, e1, e2, bv⟩ := hv.get i hi
      refine wpAny_bind (wpAny_seqItems hS rfl ?_)
      have hx : vs.toArray.getD i .none = v := by simp [e1]
      dsimp only
      rw [hx]
      have fin : ((((l.take i).map fun p => p.toArray).toArray).push x.toArray, ((vs.take i).map fun p => (p, (none : Option Value))) ++ [(v, none)]) = (((l.take (i + 1)).map fun p => p.toArray).toArray, (vs.take (i + 1)).map fun p => (p, none)) := by
        rw [take_snoc e1, take_snoc e2]
        simp
      cases ho : ((vs.take i).map fun p => (p, (none : Option Value))).any (fun x => x.1.onHeap) with
      | false =>
        show wpAny _ _ (holding _ _ >>= _) _ _ _
        refine wpAny_bind (wpAny_holding (BA.take bv ?_))
        refine wpAny_bind (wpAny_seqItems hS rfl ?_)
        show wpAny _ _ (if (_ != _) = true then _ else _) _ _ _
        rw [bne_self_eq_false]
        exact wpAny_pure ⟨_, rfl, rfl, fin⟩
      | true =>
        show wpAny _ _ (specialOf v "__buffer__" >>= _) _ _ _
        refine wpAny_bind (BA.special bv fun id => ?_)
        show wpAny _ _ (holding _ _ >>= _) _ _ _
        refine wpAny_bind (wpAny_holding (BA.take bv ?_))
        refine wpAny_bind (wpAny_seqItems hS rfl ?_)
        show wpAny _ _ (if (_ != _) = true then _ else _) _ _ _
        rw [bne_self_eq_false]
        exact wpAny_pure ⟨_, rfl, rfl, fin⟩
    · obtain ⟨rfl, rfl⟩ := hI
      rw [hn]
      refine wpAny_bind (wpAny_of_eq (rfl : Bytes.payload (.bytes #[] t) = pure #[]) ?_)
      dsimp only
      rw [hlen, List.take_length]
      have e1 : Bytes.tooLong (Array.foldl (fun x1 x2 => x1 + x2.size) ((#[] : Array UInt8).size * (((l.map fun p => p.toArray).toArray).size - 1)) (l.map fun p => p.toArray).toArray) = false := by
        have := fold_size l 0
        refine KBy.tooLong_not ?_
        rw [← Array.foldl_toList, show ((#[] : Array UInt8).size * ((l.map fun p => p.toArray).toArray.size - 1)) = 0 from Nat.zero_mul _]
        rw [this]; lia
      rw [e1]
      show wpAny _ _ (mkBytes (Bytes.joined _ _) >>= _) _ _ _
      have e2 : Bytes.joined #[] ((l.map fun p => p.toArray).toArray).toList = (cat l).toArray := by
        have := joined_nil l 0 #[]
        unfold Bytes.joined
        simp only [this]; simp
      rw [e2]
      refine wpAny_bind (wpAny_mkBytes ?_ ?_)
      · refine wpAny_bind (wpAny_holding (wpAny_point ?_))
        exact wpAny_bind (letGoB _ _ (wpAny_pure ⟨_, rfl, h _ _⟩))
      · rw [sizeLine_eq, List.size_toArray]; lia
  · have e : vs = [v] := by simpa using congrArg Array.toList e
    subst e
    cases hv with
    | @cons _ x _ xs bv r =>
      cases r
      have h' := fun u => h u s'.toks
      rw [show cat [x] = x by simp [cat]] at h'
      cases bv with
      | b x tk =>
        show wpAny _ _ (typeOf (.bytes x.toArray tk) >>= _) _ _ _
        refine wpAny_bind (wpAny_typeOf (typeIs_bytes _ _ _) ?_)
        exact wpAny_bind (wpAny_rule (wpAny_pure ⟨_, rfl, h' tk⟩))
      | a e =>
        refine wpAny_bind (wpAny_typeOf (BA.ty e) ?_)
        exact g
theorem joinItems_gen {I : Addr} {n : Nat} {J : Nat → Array Value → Shared → Prop} {F : Array Value → Shared → Prop} {Xe : VP} {Q : VP} (X : Feeds prog w A.in1.in1 s.heap.objs.size I n J F Xe) (hn : n ≤ sizeLine) (hI : s.heap.get? I ≠ none) (hT : s.TypeIs (.ref I) "generator")
    (hself : wpAny (model prog w) A (pyIter (.ref I)) (fun v s' => v = .ref I ∧ s' = s) (fun _ _ => False) s)
    (j0 : J 0 #[] { s with heap := s.heap.push { cls := .type "list", data := .seq #[] } }) (hQ : ∀ acc' s', F acc' s' → Q (.ref s.heap.objs.size) s') (hE : ∀ e s', Xe e s' → E e s') :
    wpAny (model prog w) A (Bytes.joinItems (.ref I)) Q E s := by
  unfold Bytes.joinItems
  refine wpAny_bind (wpAny_typeOf hT ?_)
  show wpAny _ _ ((pyIter (.ref I)).tryCatch _ >>= _) _ _ _
  refine wpAny_bind (wpAny_tryCatch (wpAny_mono hself (fun v s' h => ?_) fun _ _ z => z.elim))
  obtain ⟨rfl, rfl⟩ := h
  exact feed_list X hn hI j0 hQ hE
end
end
section
open PySem.Builtin
open PyProof.Rows.LCg (NsObj ns_obj)
variable {G : Base} {c : Fm} {st : St} {s : Shared} {A : Around} {E : VP}
theorem r_callG {cenv : Env} {C : Addr} {oC : Obj} {mC : Mp} {m : Mp} {I : Hp} {Wc Wr : Ws} {f : Value} {args : List Value} {hd : Option Value} {d u : Nat} {Q : VP} {E' : Ex → Hp → Ws → Prop}
    (O : Ok G c ⟨m, I, (C, oC) :: (Wc ++ Wr)⟩ s) (ns : NsObj oC mC) (hf : cenv.frame = some C) (hsc : cenv.scope.kind ≠ .module) (B : Bud A hd (cenv :: c.env :: c.outer) d u)
    (K : Cl G f args hd d u I Wc (fun v I' W' => ∀ s' oC', NsObj oC' mC → Ok G c ⟨m, I', (C, oC') :: (W' ++ Wr)⟩ s' → (∀ a o, I a = some o → I' a = some o) → (∀ k, k < s.gens.size → s'.gens[k]? = s.gens[k]?) → Q v s') E')
    (hE : ∀ x I' W' s' oC', NsObj oC' mC → Ok G c ⟨m, I', (C, oC') :: (W' ++ Wr)⟩ s' → (∀ a o, I a = some o → I' a = some o) → (∀ k, k < s.gens.size → s'.gens[k]? = s.gens[k]?) → Tr c ⟨m, I', (C, oC') :: (W' ++ Wr)⟩ x .none s' → E' x I' W' → E (.ref x.a) s') :
    wpAny (model G.prog G.w) A (call f args) Q E s := by
  have hC := O.wr _ (.head _)
  have nd := O.nd
  simp only [List.map_cons, List.nodup_cons, List.map_append, List.nodup_append] at nd
  have fasE : fas (cenv :: c.env :: c.outer) = C :: c.L :: fas c.outer := by unfold fas; rw [List.filterMap_cons_some hf]; rfl
  have CW : ∀ p ∈ Wc, p.1 ≠ C := fun p hp e => nd.1 (List.mem_append.mpr (.inl (List.mem_map.mpr ⟨p, hp, e⟩)))
  obtain ⟨es, ep, hdC, hmC⟩ := ns
  have P : Pre G (cenv :: c.env :: c.outer) I Wc s :=
    { b := O.b, im := O.im, wr := fun p hp => O.wr p (.tail _ (List.mem_append_left _ hp)), wI := fun p hp => O.wI p (.tail _ (List.mem_append_left _ hp)), nd := nd.2.1
      fI := fun a ha => by
        rw [fasE] at ha
        rcases List.mem_cons.mp ha with rfl | ha
        · exact ⟨O.wI _ (.head _), CW⟩
        rcases List.mem_cons.mp ha with rfl | ha
        · exact ⟨O.LI, fun p hp => O.LW p (.tail _ (List.mem_append_left _ hp))⟩
        · exact ⟨(O.fI a ha).1, fun p hp => (O.fI a ha).2 p (.tail _ (List.mem_append_left _ hp))⟩
      ff := fun e he => by
        rcases List.mem_cons.mp he with rfl | he
        · exact ⟨hsc, C, oC, es, ep, hf, hC, hdC⟩
        rcases List.mem_cons.mp he with rfl | he
        · obtain ⟨o, es, ep, h1, h2, _⟩ := O.ns
          exact ⟨by show c.fd.scope.kind ≠ .module; rw [O.fk]; decide, c.L, o, es, ep, rfl, h1, h2⟩
        · exact O.ff e he
      gb := O.gb }
  have back : ∀ I' W' s', Ret (cenv :: c.env :: c.outer) I Wc s I' W' s' → ∃ sl, Ok G c ⟨m, I', (C, { oC with slots := sl }) :: (W' ++ Wr)⟩ s' := fun I' W' s' R => by
    obtain ⟨sl, hC'⟩ := R.keepf _ _ hC CW
    have nI : I' C = none := by
      cases q : I' C with
      | none => rfl
      | some o =>
        rcases R.newI _ _ q with h | h | ⟨p, hp, e⟩
        · have : I C = none := O.wI _ (.head _)
          rw [h] at this; cases this
        · have hC : s.heap.get? C = some oC := hC
          rw [h] at hC; cases hC
        · exact absurd e (CW p hp)
    have R' : Ret (c.env :: c.outer) I ((C, oC) :: Wc) s I' ((C, { oC with slots := sl }) :: W') s' :=
      { sub := R.sub, im := R.im
        wr := fun p hp => by
          rcases List.mem_cons.mp hp with rfl | hp
          · exact hC'
          · exact R.wr p hp
        wI := fun p hp => by
          rcases List.mem_cons.mp hp with rfl | hp
          · exact nI
          · exact R.wI p hp
        nd := by
          refine List.nodup_cons.mpr ⟨fun hm => ?_, R.nd⟩
          obtain ⟨p, hp, e⟩ := List.mem_map.mp hm
          rcases R.newW p hp with h | ⟨q, hq, e'⟩
          · have hC : s.heap.get? C = some oC := hC
            have e : p.1 = C := e
            rw [← e, h] at hC; cases hC
          · exact CW q hq (e'.trans e)
        keep := fun a o h hn ha => R.keep a o h (fun p hp => hn p (.tail _ hp)) fun hm => by
          rw [fasE] at hm
          rcases List.mem_cons.mp hm with rfl | hm
          · exact hn _ (.head _) rfl
          · exact ha hm
        keepf := fun a o h hn => R.keepf a o h fun p hp => hn p (.tail _ hp)
        newI := fun a o h => by
          rcases R.newI a o h with h | h | ⟨p, hp, e⟩
          · exact .inl h
          · exact .inr (.inl h)
          · exact .inr (.inr ⟨p, .tail _ hp, e⟩)
        newW := fun p hp => by
          rcases List.mem_cons.mp hp with rfl | hp
          · exact .inr ⟨_, .head _, rfl⟩
          · rcases R.newW p hp with h | ⟨q, hq, e⟩
            · exact .inl h
            · exact .inr ⟨q, .tail _ hq, e⟩
        gb := R.gb, gk := R.gk, os := R.os
        al := fun p hp => by
          rcases List.mem_cons.mp hp with rfl | hp
          · rw [hC']; exact fun e => by cases e
          · exact R.al p hp }
    exact ⟨sl, Ok.back (Wc := (C, oC) :: Wc) O R'⟩
  have nsl : ∀ sl, NsObj { oC with slots := sl } mC := fun sl => ⟨es, ep, hdC, hmC⟩
  refine wpAny_mono (K A _ s B P) (fun v s' h => ?_) fun e s' h => ?_
  · obtain ⟨I', W', R, h⟩ := h
    obtain ⟨sl, O'⟩ := back _ _ _ R
    exact h s' _ (nsl sl) O' R.sub R.gk
  · obtain ⟨x, I', W', R, rfl, hn, hf, h⟩ := h
    obtain ⟨sl, O'⟩ := back _ _ _ R
    refine hE x I' W' s' _ (nsl sl) O' R.sub R.gk (Flies.tr (st' := ⟨m, I', (C, { oC with slots := sl }) :: (W' ++ Wr)⟩) O hn ⟨hf.1, hf.2.1, fun p hp => ?_⟩) h
    rcases List.mem_cons.mp hp with rfl | hp
    · exact ⟨fun e => (by rw [← e] at hn; have hC : s.heap.get? C = some oC := hC; rw [hC] at hn; cases hn.1), fun e => (by rw [← e] at hn; have hC : s.heap.get? C = some oC := hC; rw [hC] at hn; cases hn.2)⟩
    rcases List.mem_append.mp hp with hp | hp
    · exact hf.2.2 p hp
    · have hw := O.wr p (.tail _ (List.mem_append_right _ hp))
      exact ⟨fun e => (by rw [e, hn.1] at hw; cases hw), fun e => (by rw [e, hn.2] at hw; cases hw)⟩
theorem Ok.setGen (O : Ok G c st s) {g : Nat} {gs : GenState} (hg : c.gs.size ≤ g) (hb : gs.bare = true) : Ok G c st (s.setGen g gs) :=
  { O with
    gb := fun y hy => by
      obtain ⟨i, hi, rfl⟩ := Array.mem_iff_getElem.mp hy
      by_cases e : i = g
      · subst e
        have : (s.setGen i gs).gens[i]? = some gs := by
          have : i < s.gens.size := by simpa [Shared.setGen] using hi
          simp [Shared.setGen, this]
        rw [Array.getElem?_eq_getElem hi] at this
        rw [Option.some.inj this]; exact hb
      · have : (s.setGen g gs).gens[i]? = s.gens[i]? := by simp [Shared.setGen, Ne.symm e]
        rw [Array.getElem?_eq_getElem hi] at this
        obtain ⟨hi', e'⟩ := Array.getElem?_eq_some_iff.mp this.symm
        exact e' ▸ O.gb _ (Array.getElem_mem hi')
    gk := fun k hk => by
      have e : k ≠ g := by lia
      have : (s.setGen g gs).gens[k]? = s.gens[k]? := by simp [Shared.setGen, Ne.symm e]
      exact this.trans (O.gk k hk) }
structure GP where
  C : Addr
  a : Addr
  oA : Obj
  g : Nat
  m : Mp
  I : Hp
  W0 : Ws
  fp : List Addr
  wr : List Addr
  Sx : Nat → Heap → Prop
  J : Nat → Hp → Ws → List Value → Prop
inductive GP.Cr (p : GP) (G : Base) (c : Fm) (S : Addr) (j : Nat) (ys zs : List Value) (s : Shared) : Prop
  | mk (I' : Hp) (Wt Wi : Ws) (k : Nat) (oC : Obj) (mC : Mp) (h1 : p.J j I' Wt zs) (h2 : ∀ a o, p.I a = some o → I' a = some o) (h3 : Wi.map Prod.fst = p.wr) (h4 : p.Sx j s.heap) (h5 : NsObj oC mC)
    (h6 : Ok G c ⟨p.m, I', (p.C, oC) :: (Wt ++ ((p.a, p.oA) :: (S, lsA ys.toArray k) :: (Wi ++ p.W0)))⟩ s) (h7 : p.g < s.gens.size) : GP.Cr p G c S j ys zs s
variable {p : GP} {S : Addr} {j : Nat} {ys zs : List Value}
theorem GP.Cr.at_ (X : p.Cr G c S j ys zs s) : ∃ k, s.heap.get? S = some (lsA ys.toArray k) := by
  obtain ⟨I', Wt, Wi, k, oC, mC, _, _, _, _, _, O, _⟩ := X
  exact ⟨k, O.wr (S, lsA ys.toArray k) (by simp)⟩
theorem GP.Cr.gen (X : p.Cr G c S j ys zs s) : s.heap.get? p.a = some p.oA := by
  obtain ⟨I', Wt, Wi, k, oC, mC, _, _, _, _, _, O, _⟩ := X
  exact O.wr (p.a, p.oA) (by simp)
theorem GP.Cr.lim (X : p.Cr G c S j ys zs s) : s.heap.NoLimit := by
  obtain ⟨I', Wt, Wi, k, oC, mC, _, _, _, _, _, O, _⟩ := X
  exact G.T.nolimit.keeps O.keepB
theorem GP.Cr.setG (X : p.Cr G c S j ys zs s) {gs : GenState} (hg : c.gs.size ≤ p.g) (hb : gs.bare = true) : p.Cr G c S j ys zs (s.setGen p.g gs) := by
  obtain ⟨I', Wt, Wi, k, oC, mC, h1, h2, h3, h4, h5, O, h6⟩ := X
  exact ⟨I', Wt, Wi, k, oC, mC, h1, h2, h3, h4, h5, O.setGen hg hb, by simpa [Shared.setGen] using h6⟩
theorem GP.Cr.turnS (X : p.Cr G c S j ys zs s) (hfr : ∀ i h₁ h₂, p.Sx i h₁ → (∀ b ∈ p.fp, ∀ o, h₁.get? b = some o → h₂.get? b = some o) → p.Sx i h₂) (hfp : ∀ b ∈ p.fp, b ∉ p.wr → ∃ o, p.I b = some o) {ys' : List Value} {h' : Heap} {k' : Nat} (hs : Heap.SameBut S s.heap h') (hS : h'.get? S = some (lsA ys'.toArray k')) :
    p.Cr G c S j ys' zs { s with heap := h' } := by
  obtain ⟨I', Wt, Wi, k, oC, mC, h1, h2, h3, h4, h5, O, h6⟩ := X
  have hm : (S, lsA ys.toArray k) ∈ (p.C, oC) :: (Wt ++ ((p.a, p.oA) :: (S, lsA ys.toArray k) :: (Wi ++ p.W0))) := by simp
  refine ⟨I', Wt, Wi, k', oC, mC, h1, h2, h3, hfr _ _ _ h4 fun b hb o e => (hs.2 b fun q => ?_).trans e, h5, ?_, h6⟩
  · subst q
    by_cases q : b ∈ p.wr
    · rw [← h3] at q
      have nd := O.nd
      simp only [List.map_cons, List.map_append, List.nodup_cons, List.nodup_append] at nd
      exact nd.2.2.1.2.1 (List.mem_append_left _ q)
    · obtain ⟨o, ho⟩ := hfp b hb q
      have : I' b = none := O.wI _ hm
      rw [h2 _ _ ho] at this; cases this
  · have := Ok.turned (W1 := (p.C, oC) :: (Wt ++ [(p.a, p.oA)])) (W2 := Wi ++ p.W0) (x := S) (o' := lsA ys'.toArray k') (s' := { s with heap := h' }) (by simpa using O) hs hS rfl rfl
    simpa using this
noncomputable def GP.Inv (p : GP) (G : Base) (c : Fm) (S : Addr) (i : Nat) (s : Shared) : Prop := ∃ ys, ys.length = i ∧ p.Cr G c S i ys ys s
noncomputable def GP.Out (p : GP) (G : Base) (c : Fm) (S : Addr) (i : Nat) (y : Value) (s : Shared) : Prop := ∃ ys, ys.length = i ∧ p.Cr G c S (i + 1) ys (ys ++ [y]) s
inductive GP.End (p : GP) (G : Base) (c : Fm) (S : Addr) (n : Nat) (s : Shared) : Prop
  | mk (I' : Hp) (Wt : Ws) (ys : List Value) (k : Nat) (oC : Obj) (h1 : p.J n I' Wt ys) (h2 : ∀ a o, p.I a = some o → I' a = some o) (h3 : Ok G c ⟨p.m, I', (p.C, oC) :: (Wt ++ ((p.a, p.oA) :: (S, lsA ys.toArray k) :: p.W0))⟩ s) : GP.End p G c S n s
inductive XE (G : Base) (c : Fm) (m : Mp) (C : Addr) (Wr : Ws) (E₁ : Ex → Hp → Ws → Prop) (e : Value) (s : Shared) : Prop
  | mk (x : Ex) (I1 : Hp) (W1 : Ws) (oC : Obj) (mC : Mp) (h1 : e = .ref x.a) (h2 : NsObj oC mC) (h3 : Ok G c ⟨m, I1, (C, oC) :: (W1 ++ Wr)⟩ s) (h4 : Tr c ⟨m, I1, (C, oC) :: (W1 ++ Wr)⟩ x .none s) (h5 : ∀ tb, E₁ { x with tb := tb } I1 W1) : XE G c m C Wr E₁ e s
inductive GP.EndE (p : GP) (G : Base) (c : Fm) (E₁ : Ex → Hp → Ws → Prop) (e : Value) (s : Shared) : Prop
  | mk (x : Ex) (I1 : Hp) (W1 : Ws) (h1 : e = .ref x.a) (h2 : Ok G c ⟨p.m, I1, (p.a, p.oA) :: (W1 ++ p.W0)⟩ s) (h3 : Tr c ⟨p.m, I1, W1 ++ p.W0⟩ x .none s) (h4 : ∀ tb, E₁ { x with tb := tb } I1 W1) : GP.EndE p G c E₁ e s
inductive XOut (G : Base) (c : Fm) (m : Mp) (W0 : Ws) (E₁ : Ex → Hp → Ws → Prop) (e : Value) (s : Shared) : Prop
  | mk (x : Ex) (I1 : Hp) (W1 : Ws) (h1 : e = .ref x.a) (h2 : Ok G c ⟨m, I1, W1 ++ W0⟩ s) (h3 : Tr c ⟨m, I1, W1 ++ W0⟩ x .none s) (h4 : ∀ tb, E₁ { x with tb := tb } I1 W1) : XOut G c m W0 E₁ e s
noncomputable def NoStopC (G : Base) (cls : Value) : Prop := ∀ (a : Addr) (s : Shared), (∃ o, s.heap.get? a = some o ∧ o.cls = cls) → G.K.In s.heap → NoStop G.prog G.w (.ref a) s
theorem GP.EndE.out {E₁ : Ex → Hp → Ws → Prop} {e : Value} (hcls : ∀ x I W, E₁ x I W → NoStopC G x.cls) (hg : c.gs.size ≤ p.g) (hIs : ∀ h : Heap, h.get? p.a = some p.oA → h.IsGen p.a p.g) (X : p.EndE G c E₁ e s) :
    s.heap.IsGen p.a p.g ∧ NoStop G.prog G.w e s ∧ XOut G c p.m p.W0 E₁ e (s.setGen p.g .finished) := by
  obtain ⟨x, I1, W1, rfl, O, T, h⟩ := X
  refine ⟨hIs _ (O.wr _ (.head _)), ?_, x, I1, W1, rfl, ?_, T, h⟩
  · obtain ⟨⟨oe, vs, oT, ts, h1, h2, _⟩, _⟩ := T
    exact hcls _ _ _ (h x.tb) x.a s ⟨oe, h1, h2⟩ O.In
  · exact (Ok.drop (W1 := [(p.a, p.oA)]) O).setGen hg rfl
theorem gpm {C a S : Addr} {o1 o2 o3 : Obj} {Wt Wi W0 : Ws} : ((C, o1) :: (Wt ++ ((a, o2) :: (S, o3) :: (Wi ++ W0)))).Perm (Wi ++ ((C, o1) :: (Wt ++ ((a, o2) :: (S, o3) :: W0)))) := by
  have := List.perm_append_comm_assoc ((C, o1) :: (Wt ++ [(a, o2), (S, o3)])) Wi W0
  simp only [List.cons_append, List.append_assoc, List.nil_append] at this
  exact this
section
variable {elt iter : PySem.Expr} {x : Str} {px : Pos} {scope : Scope} {pos : Pos} {it : Addr} {n : Nat} {cenv : Env} {P : Nat → Value → Prop} {Ao : Around}
theorem gstay (hfr : ∀ i h₁ h₂, p.Sx i h₁ → (∀ b ∈ p.fp, ∀ o, h₁.get? b = some o → h₂.get? b = some o) → p.Sx i h₂) (hfp : ∀ b ∈ p.fp, b ∉ p.wr → ∃ o, p.I b = some o)
    (i : Nat) {I' : Hp} {Wi : Ws} {h1 h2 : Heap} (hI : ∀ a o, p.I a = some o → I' a = some o) (hw : Wi.map Prod.fst = p.wr) (a1 : ∀ q ∈ Wi, h1.get? q.1 = some q.2) (a2 : ∀ q ∈ Wi, h2.get? q.1 = some q.2) (b1 : ∀ a o, I' a = some o → h1.get? a = some o) (b2 : ∀ a o, I' a = some o → h2.get? a = some o) (hs : p.Sx i h1) : p.Sx i h2 := by
  refine hfr _ _ _ hs fun b hb o e => ?_
  by_cases q : b ∈ p.wr
  · rw [← hw] at q
    obtain ⟨r, hr, rfl⟩ := List.mem_map.mp q
    rw [a1 r hr] at e; cases e; exact a2 r hr
  · obtain ⟨o', ho'⟩ := hfp b hb q
    have ho' := hI _ _ ho'
    rw [b1 _ _ ho'] at e; cases e; exact b2 _ _ ho'
theorem XE.left {m : Mp} {C a S : Addr} {oA oS : Obj} {Wi W0 : Ws} {E₁ : Ex → Hp → Ws → Prop} {e : Value} (h : XE G c m C ((a, oA) :: (S, oS) :: (Wi ++ W0)) E₁ e s) (hfA : Ao.frames = some (cenv :: c.env :: c.outer)) (hcf : cenv.frame = some C) (hk : cenv.scope.kind ≠ .module) (hC0 : C ∉ c.W0) :
    wpAny (model G.prog G.w) Ao (leaving cenv e) (fun _ s4 => ∃ x I1 W1, e = .ref x.a ∧ Ok G c ⟨m, I1, (a, oA) :: (W1 ++ W0)⟩ s4 ∧ Tr c ⟨m, I1, W1 ++ W0⟩ x .none s4 ∧ ∀ tb, E₁ { x with tb := tb } I1 W1) (fun _ _ => False) s := by
  obtain ⟨x, I1, W1, oC, mC, rfl, ⟨es, ep, hd, _⟩, O, T, h⟩ := h
  have hC := O.wr _ (.head _)
  have nd := O.nd
  rw [List.map_cons, List.nodup_cons] at nd
  have off : Off c ⟨m, I1, W1 ++ ((a, oA) :: (S, oS) :: (Wi ++ W0))⟩ C := ⟨O.wI _ (.head _), fun q hq z => nd.1 (List.mem_map.mpr ⟨q, hq, z⟩), O.xW _ (.head _), hC0⟩
  refine r_leavingG (Ok.drop (W1 := [(C, oC)]) O) hfA hcf hk hC (fun vs z => by rw [hd] at z; cases z) off (T.sub fun q hq => .tail _ hq) fun s4 tb O4 T4 => ?_
  have pm : ((S, oS) :: (Wi ++ ((a, oA) :: (W1 ++ W0)))).Perm (W1 ++ ((a, oA) :: (S, oS) :: (Wi ++ W0))) := by
    have e1 := (List.perm_append_comm (l₁ := (S, oS) :: Wi) (l₂ := (a, oA) :: W1)).append_right W0
    have e2 : ((a, oA) :: W1 ++ (S, oS) :: Wi).Perm (W1 ++ ((a, oA) :: (S, oS) :: Wi)) := List.perm_middle.symm
    have e3 := e2.append_right W0
    simpa using e1.trans e3
  have O5 := Ok.drop (W1 := (S, oS) :: Wi) (O4.perm pm)
  exact ⟨{ x with tb := tb }, I1, W1, rfl, O5, T4.sub (W' := W1 ++ W0) fun q hq => pm.mem_iff.mp (by
    rcases List.mem_append.mp hq with z | z <;> simp [z]), fun tb' => h tb'⟩
theorem g_turn {E₁ : Ex → Hp → Ws → Prop} (hfA : Ao.frames = some (cenv :: c.env :: c.outer)) (hcf : cenv.frame = some p.C) (hC0 : p.C ∉ c.W0) (Wk : Walks G.prog G.w Ao it p.fp p.wr n P p.Sx) (hkind : cenv.scope.kind = .function) (hx : cenv.kindOf x = some .local) (hC : cenv.locals = p.C)
    (hlive : ∀ i h, p.Sx i h → ∀ b ∈ p.wr, ∃ o, h.get? b = some o) (hfp : ∀ b ∈ p.fp, b ∉ p.wr → ∃ o, p.I b = some o)
    (turn : ∀ i v oC mC I' Wt Wr zs s, i < n → P i v → p.J i I' Wt zs → zs.length = i → (∀ a o, p.I a = some o → I' a = some o) → Ok G c ⟨p.m, I', (p.C, oC) :: (Wt ++ Wr)⟩ s → NsObj oC mC → mC x = some v → p.g < s.gens.size →
      wpAny (model G.prog G.w) Ao (eval elt cenv) (fun y s4 => ∃ I'' Wt'' oC' mC', p.J (i + 1) I'' Wt'' (zs ++ [y]) ∧ (∀ a o, I' a = some o → I'' a = some o) ∧ NsObj oC' mC' ∧ Ok G c ⟨p.m, I'', (p.C, oC') :: (Wt'' ++ Wr)⟩ s4 ∧ p.g < s4.gens.size) (XE G c p.m p.C Wr E₁) s)
    {i : Nat} (hi : i < n) (X : p.Inv G c S i s) :
    wpAny (model G.prog G.w) Ao (pyNext (.ref it)) (fun r s1 => ∃ v, r = some v ∧ wpAny (model G.prog G.w) Ao (assign (.Name x px) cenv v) (fun _ s2 => wpAny (model G.prog G.w) Ao (eval elt cenv) (fun y s3 => p.Out G c S i y s3) (fun e s3 => wpAny (model G.prog G.w) Ao (leaving cenv e) (fun _ s4 => p.EndE G c E₁ e s4) (fun _ _ => False) s3) s2) (fun _ _ => False) s1) (fun _ _ => False) s := by
  obtain ⟨ys, hyl, I', Wt, Wi, k, oC, mC, hj, hsub, hw, hs, nsC, O, hg⟩ := X
  refine Wk.item i _ _ _ hi hs fun v h₂ tk₂ hP hs₂ hk₂ => ?_
  refine ⟨v, rfl, ?_⟩
  obtain ⟨Wi'', hw'', O₂⟩ := Ok.iter (st' := ⟨p.m, I', (p.C, oC) :: (Wt ++ ((p.a, p.oA) :: (S, lsA ys.toArray k) :: p.W0))⟩) (s'' := { s with heap := h₂, toks := tk₂ }) (O.perm gpm.symm) hw (hlive _ _ hs₂) hk₂ rfl rfl
  have O₂ := O₂.perm gpm
  refine wpAny_assign_Name (wpAny_storeName_local hx (by rw [hC]; exact nsC.ns (O₂.wr _ (.head _))) (fun h₃ hn₃ hs₃ => ?_) (by rw [hkind]; rfl))
  rw [hC] at hn₃ hs₃
  obtain ⟨oC3, hoC3, nsC3⟩ := ns_objD hn₃
  have O₃ := Ok.turned (W1 := []) (s' := { s with heap := h₃, toks := tk₂ + 1 }) O₂ hs₃ hoC3 rfl rfl
  refine wpAny_mono (turn i v oC3 _ I' Wt _ ys _ hi hP hj hyl hsub O₃ nsC3 (by simp) hg) (fun y s₅ h₅ => ?_) fun e s₅ h => ?_
  rotate_left
  · exact wpAny_mono (h.left hfA hcf (by rw [hkind]; decide) hC0 (Wi := Wi'')) (fun _ _ ⟨x, I1, W1, h1, h2, h3, h4⟩ => ⟨x, I1, W1, h1, h2, h3, h4⟩) fun _ _ h => h
  obtain ⟨I2, Wt2, oC5, mC5, hj2, hs2, ns5, O₅, hg5⟩ := h₅
  refine ⟨ys, hyl, I2, Wt2, Wi'', k, oC5, mC5, hj2, fun a o e => hs2 _ _ (hsub _ _ e), hw'', ?_, ns5, O₅, hg5⟩
  exact gstay (fun i h₁ h₂ hs hk => Wk.frame i h₁ h₂ hs hk) hfp (i + 1) hsub hw'' (fun q hq => O₂.wr q (by simp [hq])) (fun q hq => O₅.wr q (by simp [hq])) O₂.im (fun a o e => O₅.im _ _ (hs2 _ _ e)) hs₂
theorem g_done (Wk : Walks G.prog G.w Ao it p.fp p.wr n P p.Sx) (hw0 : ∀ b ∈ p.wr, b ∉ c.W0) (X : p.Inv G c S n s) :
    wpAny (model G.prog G.w) Ao (pyNext (.ref it)) (fun r s1 => r = none ∧ p.End G c S n s1) (fun _ _ => False) s := by
  obtain ⟨ys, hyl, I', Wt, Wi, k, oC, mC, hj, hsub, hw, hs, nsC, O, hg⟩ := X
  refine Wk.done _ _ _ hs fun h₂ tk₂ hk₂ => ?_
  have O₂ := Ok.dropWi (s' := { s with heap := h₂, toks := tk₂ }) (O.perm gpm.symm) hw hw0 hk₂ rfl rfl
  exact ⟨rfl, I', Wt, ys, k, oC, hj, hsub, O₂⟩
theorem out_inv (hfr : ∀ i h₁ h₂, p.Sx i h₁ → (∀ b ∈ p.fp, ∀ o, h₁.get? b = some o → h₂.get? b = some o) → p.Sx i h₂) (hfp : ∀ b ∈ p.fp, b ∉ p.wr → ∃ o, p.I b = some o) {i : Nat} {y : Value} {acc : Array Value} {k k' : Nat} {h' : Heap} (X : p.Out G c S i y s) (hS : s.heap.get? S = some (lsA acc k))
    (hs : Heap.SameBut S s.heap h') (hS' : h'.get? S = some (lsA (acc.push y) k')) : p.Inv G c S (i + 1) { s with heap := h' } := by
  obtain ⟨ys, hyl, X⟩ := X
  obtain ⟨k1, h1⟩ := X.at_
  rw [hS] at h1
  have e : acc = ys.toArray := by injection h1 with h1; injection h1 with _ _ h1; injection h1
  subst e
  refine ⟨ys ++ [y], by simp [hyl], X.turnS hfr hfp (ys' := ys ++ [y]) hs (k' := k') ?_⟩
  rw [hS']; simp
theorem g_fresh {E₁ : Ex → Hp → Ws → Prop} (hfA : Ao.frames = some (cenv :: c.env :: c.outer)) (hcf : cenv.frame = some p.C) (hC0 : p.C ∉ c.W0) (hAo : A.in1.over (.compLoop (.GeneratorExp elt [⟨.Name x px, iter, [], 0⟩] scope pos) 0 (.ref it) .none cenv) [] = Ao) (hg : c.gs.size ≤ p.g) (hIs : ∀ h : Heap, h.get? p.a = some p.oA → h.IsGen p.a p.g) (hco : cenv.scope.isCoroutine = false) (hw0 : ∀ b ∈ p.wr, b ∉ c.W0)
    (Wk : Walks G.prog G.w Ao it p.fp p.wr n P p.Sx) (hkind : cenv.scope.kind = .function) (hx : cenv.kindOf x = some .local) (hC : cenv.locals = p.C) (hself : ∀ (A' : Around) s (Q : VP) E, p.Sx 0 s.heap → Q (.ref it) s → wpAny (model G.prog G.w) A' (pyIter (.ref it)) Q E s)
    (hlive : ∀ i h, p.Sx i h → ∀ b ∈ p.wr, ∃ o, h.get? b = some o) (hfp : ∀ b ∈ p.fp, b ∉ p.wr → ∃ o, p.I b = some o)
    (turn : ∀ i v oC mC I' Wt Wr zs s, i < n → P i v → p.J i I' Wt zs → zs.length = i → (∀ a o, p.I a = some o → I' a = some o) → Ok G c ⟨p.m, I', (p.C, oC) :: (Wt ++ Wr)⟩ s → NsObj oC mC → mC x = some v → p.g < s.gens.size →
      wpAny (model G.prog G.w) Ao (eval elt cenv) (fun y s4 => ∃ I'' Wt'' oC' mC', p.J (i + 1) I'' Wt'' (zs ++ [y]) ∧ (∀ a o, I' a = some o → I'' a = some o) ∧ NsObj oC' mC' ∧ Ok G c ⟨p.m, I'', (p.C, oC') :: (Wt'' ++ Wr)⟩ s4 ∧ p.g < s4.gens.size) (XE G c p.m p.C Wr E₁) s)
    (hgs : s.gens[p.g]? = some (.fresh (.compStart (.GeneratorExp elt [⟨.Name x px, iter, [], 0⟩] scope pos) 0 (.ref it) .none cenv))) (X : p.Inv G c S 0 s) :
    GSt G.prog G.w A p.a p.g n (p.Inv G c S) (p.Out G c S) (p.End G c S n) (p.EndE G c E₁) 0 s := by
  have hfr : ∀ i h₁ h₂, p.Sx i h₁ → (∀ b ∈ p.fp, ∀ o, h₁.get? b = some o → h₂.get? b = some o) → p.Sx i h₂ := fun i h₁ h₂ hs hk => Wk.frame i h₁ h₂ hs hk
  have X' := X
  obtain ⟨ys, hyl, X⟩ := X
  refine ⟨hIs _ X.gen, X.lim, ⟨_, hgs, fun s'' hv => ⟨rfl, ?_⟩⟩, ⟨ys, hyl, X.setG hg rfl⟩⟩
  refine seg_genS (fun i y s h => ?_) hAo hco (fun i s hi hv => g_turn hfA hcf hC0 Wk hkind hx hC hlive hfp turn hi hv) (fun s hv => g_done Wk hw0 hv) (fun A' s Q E hv hq => ?_) s'' s'' hv
  · obtain ⟨zs, hzl, Z⟩ := h
    obtain ⟨k, hk⟩ := Z.at_
    have h2 := Heap.get?_update_self (Obj.mapSeq (·.push y)) hk rfl
    exact ⟨_, out_inv hfr hfp ⟨zs, hzl, Z⟩ hk (Heap.SameBut.update ..) h2⟩
  · obtain ⟨_, _, _, _, _, _, _, _, _, _, _, h4, _⟩ := hv
    exact hself A' s Q E h4 hq
theorem g_feeds {E₁ : Ex → Hp → Ws → Prop} (hcls : ∀ x I W, E₁ x I W → NoStopC G x.cls) (hh : A.handled = none) (hroom : A.depth < recursionLimit) (hg : c.gs.size ≤ p.g) (hIs : ∀ h : Heap, h.get? p.a = some p.oA → h.IsGen p.a p.g)
    (hfr : ∀ i h₁ h₂, p.Sx i h₁ → (∀ b ∈ p.fp, ∀ o, h₁.get? b = some o → h₂.get? b = some o) → p.Sx i h₂) (hfp : ∀ b ∈ p.fp, b ∉ p.wr → ∃ o, p.I b = some o) :
    Feeds G.prog G.w A S p.a n (fun i acc s => (∃ k, s.heap.get? S = some (lsA acc k)) ∧ acc.size = i ∧ GSt G.prog G.w A p.a p.g n (p.Inv G c S) (p.Out G c S) (p.End G c S n) (p.EndE G c E₁) i s)
      (fun acc s => ∃ (I' : Hp) (Wt : Ws) (k : Nat), p.J n I' Wt acc.toList ∧ (∀ a o, p.I a = some o → I' a = some o) ∧ Ok G c ⟨p.m, I', Wt ++ p.W0⟩ s ∧ s.heap.get? S = some (lsA acc k)) (XOut G c p.m p.W0 E₁) where
  ty := fun i acc s h => h.2.2.isG.typeIs
  sz := fun i acc s h => h.2.1
  at_ := fun i acc s h => h.1
  upd := fun i acc s h' c' h hs hS => by
    obtain ⟨⟨k, hk⟩, hsz, X⟩ := h
    obtain ⟨isG, lim, ⟨gs, hgs, hgo⟩, inv⟩ := X
    obtain ⟨ys, hyl, Z⟩ := inv
    obtain ⟨k1, h1⟩ := Z.at_
    have e : acc = ys.toArray := by
      have h1 : s.heap.get? S = _ := h1
      rw [hk] at h1; injection h1 with h1; injection h1 with _ _ h1; injection h1
    subst e
    have Z' := Z.turnS hfr hfp (ys' := ys) hs hS
    exact ⟨⟨c', hS⟩, hsz, hIs _ Z'.gen, Z'.lim, ⟨gs, hgs, hgo⟩, ys, hyl, Z'⟩
  self := fun i acc s Q E A' h hq => wpAny_pyIter_gen h.2.2.isG hq
  item := fun i acc s hi h => by
    obtain ⟨⟨k, hk⟩, hsz, X⟩ := h
    refine next_gen X hi hh hroom (fun v s₁ gs' hb ho hgo => ?_) fun e s₁ h => h.out hcls hg hIs
    have ho' := ho
    obtain ⟨ys, hyl, Z⟩ := ho
    obtain ⟨k1, h1⟩ := Z.at_
    refine ⟨v, k1, ys.toArray, rfl, h1, by simpa using hyl, fun h' c' hs hS => ⟨⟨c', hS⟩, by simp [hyl], ?_⟩⟩
    have V := out_inv hfr hfp ho' h1 hs hS
    have V' := V
    obtain ⟨zs, hzl, Y⟩ := V
    have hlt : p.g < s₁.gens.size := by obtain ⟨_, _, _, _, _, _, _, _, _, _, _, _, q⟩ := Y; exact q
    refine ⟨hIs _ Y.gen, Y.lim, ⟨gs', by simp [Shared.setGen, hlt], fun s'' hv => hgo s'' hv⟩, zs, hzl, ?_⟩
    have := (Y.setG hg hb).setG (gs := .running) hg rfl
    exact this
  done := fun acc s h => by
    obtain ⟨⟨k, hk⟩, hsz, X⟩ := h
    refine end_gen X hh hroom (fun s₁ h' hF hk' => ⟨rfl, ?_⟩) fun e s₁ h => h.out hcls hg hIs
    obtain ⟨I', Wt, ys, k, oC, hj, hsub, O⟩ := hF
    have O₂ : Ok G c _ { s₁.setGen p.g .finished with heap := h' } := (O.setGen (gs := .finished) hg rfl).grown (fun a o e => hk' a o e) rfl rfl
    have hS := O₂.wr (S, lsA ys.toArray k) (by simp)
    have pm : ([(p.C, oC), (p.a, p.oA), (S, lsA ys.toArray k)] ++ (Wt ++ p.W0)).Perm ((p.C, oC) :: (Wt ++ ((p.a, p.oA) :: (S, lsA ys.toArray k) :: p.W0))) := by
      refine List.Perm.cons _ ?_
      exact (List.perm_append_comm_assoc [(p.a, p.oA), (S, lsA ys.toArray k)] Wt p.W0)
    exact ⟨ys.toArray, I', Wt, k, by simpa using hj, hsub, (O₂.perm pm).drop, hS⟩
end
noncomputable def TabOk (G : Base) (cc T : Addr) (oT : Obj) : Prop := ∃ ps, oT = { cls := .none, data := .fields ps } ∧ ∀ h : Heap, (∀ a o, G.B0.get? a = some o → h.get? a = some o) → h.get? T = some oT → h.IsCode cc T ps ∧ h.TableAt cc T ps
theorem TabOk.of {cc T : Addr} {oT oc : Obj} {h : Heap} {ps : Array Value} (hc : G.B0.get? cc = some oc) (kB : ∀ a o, G.B0.get? a = some o → h.get? a = some o) (hT : h.get? T = some oT) (X : h.IsCode cc T ps) (Y : h.TableAt cc T ps) : TabOk G cc T oT := by
  obtain ⟨⟨oy, vy, y1, y2, y3, y4⟩, y5⟩ := Y
  rw [hT] at y5; cases y5
  refine ⟨ps, rfl, fun h' k' hT' => ?_⟩
  obtain ⟨o, vs, file, tf, flags, tg, inF, text, tt, op, a, r1, r2, r3, r4, r5, r6, b, r⟩ := X
  rw [kB _ _ hc] at a y1; cases a; cases y1
  rw [hT] at b; cases b
  exact ⟨⟨_, vs, file, tf, flags, tg, inF, text, tt, _, k' _ _ hc, r1, r2, r3, r4, r5, r6, hT', r⟩, ⟨⟨_, vy, k' _ _ hc, y2, y3, y4⟩, hT'⟩⟩
theorem genexprCode_tab {M : Model} {env : Env} {c P : Addr} {ps : Array Value} {pos : Pos} {qualname : Str} {scope : Scope} {Q : VP} (hc : env.code = .ref c) (hok : s.heap.IsCode c P ps) (htab : s.heap.TableAt c P ps)
    (hQ : ∀ code h' tk ps', Heap.ExtBut P s.heap h' → h'.IsCode c P ps' → h'.TableAt c P ps' → Q code { s with heap := h', toks := tk }) : wpAny M A (genexprCode env pos qualname scope) Q E s := by
  cases hnf : codeAmong pos ps.toList with
  | some c' => exact wpAny_genexprCode_hit hc hok hnf (hQ c' s.heap s.toks ps (Heap.ExtBut.refl _ _) hok htab)
  | none => exact wpAny_genexprCodeX hc hok htab hnf fun c' h' tk a _ _ b _ e _ => hQ _ _ _ _ a b e
theorem Ok.gsz (O : Ok G c st s) : c.gs.size ≤ s.gens.size := by
  rcases Nat.lt_or_ge s.gens.size c.gs.size with h | h
  · have := O.gk _ h
    rw [Array.getElem?_eq_none (Nat.le_refl _), Array.getElem?_eq_getElem h] at this; cases this
  · exact h
theorem Ok.pushGen (O : Ok G c st s) {gs : GenState} (hb : gs.bare = true) : Ok G c st { s with gens := s.gens.push gs } :=
  { O with
    gb := O.gb.push hb
    gk := fun k hk => by
      have h1 : k < s.gens.size := Nat.lt_of_lt_of_le hk O.gsz
      show (s.gens.push gs)[k]? = _
      rw [Array.getElem?_push, if_neg (by lia)]; exact O.gk k hk }
theorem bj_method {b : Array UInt8} {t : Tok} {pl : Sem Bool} {Q : Value × List Value → Shared → Prop} {M : Model} (h : Q (.builtin "bytes.join", [.bytes b t]) s) : wpAny M A (getMethod (.bytes b t) (PySem.Str.ofString "join") pl) Q E s :=
  getMethod_value (T := "bytes") (name := PySem.Str.ofString "join") (ga := "bytes.__getattribute__") (id := "bytes.join") (typeIs_bytes s b t) (by intro _ x; cases x) (by rw [typeLookup_type, builtinLookup_eq_fast]; kernel_rfl) (by decide +kernel) (by rw [typeLookup_type, builtinLookup_eq_fast]; kernel_rfl) BJ.slot.lookup BJ.type h
theorem r_cglobG {scope : Scope} {cl : List (Str × Addr)} {C bi : Addr} {code : Value} {x : Str} {v : Value} {pos : Pos} {Q : VP} (O : Ok G c st s) (hkind : scope.kind = .function) (hx : scope.names.lookup x = some .globalImplicit) (e : nsIn G.K mainGlobals x = some (some v)) (h : Q v s)
    (hd : (x == ("__debug__" : Str)) = false := by decide +kernel) : wpAny (model G.prog G.w) A (eval (.Name x pos) (genEnv scope cl C code bi c.env)) Q E s :=
  Name_function_global hkind hx (loadGlobal_global (env := genEnv scope cl C code bi c.env) (mg := G.mg) (by show s.heap.Ns c.fd.globals G.mg; rw [O.gl]; exact G.T.g.keeps O.keepB) (mg_ofK e) h) hd
theorem r_cnameG {scope : Scope} {cl : List (Str × Addr)} {C bi : Addr} {code : Value} {oC : Obj} {mC : Mp} {x : Str} {v : Value} {pos : Pos} {Q : VP} (he : s.heap.get? C = some oC) (ns : NsObj oC mC) (hkind : scope.kind = .function) (hk : scope.names.lookup x = some .local) (hv : mC x = some v) (h : Q v s)
    (hd : (x == ("__debug__" : Str)) = false := by decide +kernel) : wpAny (model G.prog G.w) A (eval (.Name x pos) (genEnv scope cl C code bi c.env)) Q E s :=
  wpAny_Name (wpAny_loadName_local hkind hk (ns.ns he) hv h) hd
theorem r_joinGen {x y : Str} {px py : Pos} {elt : PySem.Expr} {scope : Scope} {pos : Pos} {l cc T bm : Addr} {oT oc ob : Obj} {kd : Bool} {vs : List Value} {nn : Nat} {W0 : Ws} {m : Mp} {I : Hp} {t : Tok} {d u : Nat} {Q : VP} {E₁ : Ex → Hp → Ws → Prop} (hcls : ∀ x I W, E₁ x I W → NoStopC G x.cls)
    (J : Nat → Hp → Ws → List Value → Prop) (B : Bud A none (c.env :: c.outer) (d + 1) (u + 7)) (hcode : c.fd.code = .ref cc) (hcc : G.B0.get? cc = some oc) (M : BMod G.B0 mainGlobals G.mg bm ob)
    (hy : c.env.kindOf y = some .local) (hm : m y = some (.ref l)) (hl : I l = some (sqO kd vs nn)) (hn : vs.length ≤ 1000000)
    (hcell : (scope.names.all fun y => decide (y.2 ≠ .cell)) = true) (hclos : closureFor scope c.env = pure []) (hkind : scope.kind = .function) (hco : scope.isCoroutine = false) (hd0 : scope.names.lookup (".0" : Str) = some .local) (hx : scope.names.lookup x = some .local)
    (O : Ok G c ⟨m, I, (T, oT) :: W0⟩ s) (hT : TabOk G cc T oT) (j0 : ∀ oT', TabOk G cc T oT' → J 0 I [(T, oT')] []) (hJ : ∀ I' Wt zs, J vs.length I' Wt zs → ∃ l' : List (List UInt8), BvL I' zs l' ∧ (cat l').length ≤ 1000000)
    (turn : ∀ Ao C code i v oC mC I' Wt Wr zs s, vs[i]? = some v → J i I' Wt zs → (∀ a o, I a = some o → I' a = some o) → Ok G c ⟨m, I', (C, oC) :: (Wt ++ Wr)⟩ s → NsObj oC mC → mC x = some v → Bud Ao none (genEnv scope [] C code builtinsNs c.env :: c.env :: c.outer) d u →
      wpAny (model G.prog G.w) Ao (eval elt (genEnv scope [] C code builtinsNs c.env)) (fun y s4 => ∃ I'' Wt'' oC' mC', J (i + 1) I'' Wt'' (zs ++ [y]) ∧ (∀ a o, I' a = some o → I'' a = some o) ∧ NsObj oC' mC' ∧ Ok G c ⟨m, I'', (C, oC') :: (Wt'' ++ Wr)⟩ s4 ∧ (∀ k, k < s.gens.size → s4.gens[k]? = s.gens[k]?)) (XE G c m C Wr E₁) s)
    (done : ∀ I' Wt zs (l' : List (List UInt8)) u s', J vs.length I' Wt zs → BvL I' zs l' → (∀ a o, I a = some o → I' a = some o) → Ok G c ⟨m, I', Wt ++ W0⟩ s' → Q (.bytes (cat l').toArray u) s') (hE : ∀ e s', XOut G c m W0 E₁ e s' → E e s')
    (hs : ∀ x, genFold (.Name y py) c.env x = pure x := by intro _; rfl) (hd : (y == ("__debug__" : Str)) = false := by decide +kernel) :
    wpAny (model G.prog G.w) A (eval (.GeneratorExp elt [⟨.Name x px, .Name y py, [], 0⟩] scope pos) c.env) (fun v s1 => wpAny (model G.prog G.w) A (call (.builtin "bytes.join") [.bytes #[] t, v]) Q E s1) E s := by
  have hroom : A.depth < recursionLimit := by have := B.d; lia
  refine wpAny_GeneratorExp_make hco hclos (fun x hx => of_decide_eq_true (List.all_eq_true.mp hcell x hx)) hd0 hkind hroom (r_name O hy hm ?_ hd) hs
  have e := O.im l _ hl
  refine pyIter_sq e ?_
  have hf := size_free s.heap
  have O₂ := O.own (s' := { s with heap := s.heap.push (itO kd l 0) }) (fun _ _ e => Heap.get?_push_of_some _ e) hf (Heap.get?_push_size _ rfl) rfl rfl
  have hne : l ≠ s.heap.objs.size := fun q => by rw [q, hf] at e; cases e
  generalize hit : s.heap.objs.size = it at O₂ hf hne
  have it0 : it ∉ c.W0 := by rw [← hit]; exact (off_fresh O (size_free s.heap)).2.2.2
  generalize hs2 : ({ s with heap := s.heap.push (itO kd l 0) } : Shared) = s₂ at O₂
  refine ⟨G.T.nolimit.keeps O₂.keepB, ?_⟩
  obtain ⟨ps, hoT, hps⟩ := hT
  obtain ⟨hisc, htab⟩ := hps s₂.heap O₂.keepB (O₂.wr (T, oT) (.tail _ (.head _)))
  refine genexprCode_tab (c := cc) (P := T) (ps := ps) hcode hisc htab fun code h₃ tk₃ ps' hx₃ hcode₃ htab₃ => ?_
  have hT3 : ∃ oT', h₃.get? T = some oT' := by
    obtain ⟨o, vs, file, tf, flags, tg, inF, text, tt, op, a, r1, r2, r3, r4, r5, r6, b, r⟩ := hcode₃
    exact ⟨_, b⟩
  obtain ⟨Wi'', hw'', O₃⟩ := Ok.iter (Wi' := [(T, oT)]) (wr := [T]) (st' := ⟨m, I, (it, itO kd l 0) :: W0⟩) (s'' := { s₂ with heap := h₃, toks := tk₃ }) (O₂.perm (List.Perm.swap ..)) rfl (fun b hb => by rw [List.mem_singleton.mp hb]; exact hT3) (fun b o hb e => hx₃ b o (fun q => hb (by rw [q]; exact .head _)) e) rfl rfl
  obtain ⟨oT', rfl⟩ : ∃ oT', Wi'' = [(T, oT')] := by
    rcases Wi'' with _ | ⟨⟨a, o⟩, _ | ⟨_, _⟩⟩ <;> simp at hw''
    exact ⟨o, by rw [hw'']⟩
  have tab3 : TabOk G cc T oT' := TabOk.of hcc O₃.keepB (O₃.wr _ (.head _)) hcode₃ htab₃
  have M₃ := M.keeps O₃.keepB
  have hgl : c.env.globals = mainGlobals := O₃.gl
  rw [hgl]
  refine wpAny_builtinsFor M₃.ns M₃.name M₃.ne M₃.obj M₃.cls M₃.dict M₃.data ?_
  intro h' hn' hs'
  dsimp only at hn' hs' ⊢
  have hfC : h₃.get? h₃.objs.size = none := size_free h₃
  generalize hC : h₃.objs.size = C at hn' hs' hfC
  obtain ⟨oC, hoC, nsC⟩ := ns_objD hn'
  have O₄ := O₃.own (s' := { s₂ with heap := h', toks := s₂.toks }) (fun b o e => hs'.extBut b o (fun q => by rw [q, hfC] at e; cases e) (Heap.get?_push_of_some _ e)) hfC hoC rfl rfl
  generalize hoA : ({ cls := .type "generator", data := .fields #[.int s₂.gens.size 0, .str "<genexpr>" (tk₃ + 1), .str (c.env.qual ++ "<genexpr>") (tk₃ + 1 + 1)] } : Obj) = oA
  have O₅ := O₄.own (o := oA) (s' := { s₂ with heap := h'.push oA, toks := tk₃ + 1 + 1 + 1 }) (fun b o e => Heap.get?_push_of_some _ e) (size_free h') (Heap.get?_push_size _ (by rw [← hoA]; rfl)) rfl rfl
  generalize ha : h'.objs.size = a at O₅
  have O₆ := O₅.pushGen (gs := .fresh (.compStart (.GeneratorExp elt [⟨.Name x px, .Name y py, [], 0⟩] scope pos) 0 (.ref it) .none (genEnv scope [] C code builtinsNs c.env))) rfl
  generalize hs6 : ({ s₂ with gens := s₂.gens.push (.fresh (.compStart (.GeneratorExp elt [⟨.Name x px, .Name y py, [], 0⟩] scope pos) 0 (.ref it) .none (genEnv scope [] C code builtinsNs c.env))), toks := tk₃ + 1 + 1 + 1, heap := h'.push oA } : Shared) = s₆
  have O₆ : Ok G c ⟨m, I, (a, oA) :: (C, oC) :: (T, oT') :: (it, itO kd l 0) :: W0⟩ s₆ := by rw [← hs6]; exact O₆
  have hgs : s₆.gens[s₂.gens.size]? = some (.fresh (.compStart (.GeneratorExp elt [⟨.Name x px, .Name y py, [], 0⟩] scope pos) 0 (.ref it) .none (genEnv scope [] C code builtinsNs c.env))) := by rw [← hs6]; simp
  have hsz : c.gs.size ≤ s₂.gens.size := O₂.gsz
  have hIs : ∀ h : Heap, h.get? a = some oA → h.IsGen a s₂.gens.size := fun h e => ⟨_, _, _, e, by rw [← hoA], by rw [← hoA], by rw [← hoA]⟩
  generalize s₂.gens.size = g at hIs hgs hsz
  have hC0 : C ∉ c.W0 := fun h => O₃.w0 _ h hfC
  clear hs6 hoA O₅ O₄ O₃ O₂ M₃ hisc hps
  have hlt6 : g < s₆.gens.size := by
    rcases Nat.lt_or_ge g s₆.gens.size with q | q
    · exact q
    · rw [Array.getElem?_eq_none q] at hgs; cases hgs
  refine bytes_join ?_
  let p : GP := { C := C, a := a, oA := oA, g := g, m := m, I := I, W0 := W0, fp := [it, l] ++ hdA none, wr := [it], Sx := fun i h => SqIt h it l kd i ∧ h.get? l = some (sqO kd vs nn) ∧ HdH none h.get?, J := J }
  have hfr : ∀ i h₁ h₂, p.Sx i h₁ → (∀ b ∈ p.fp, ∀ o, h₁.get? b = some o → h₂.get? b = some o) → p.Sx i h₂ := fun i h₁ h₂ hs hk => (walks_sq (prog := G.prog) (w := G.w) (A := {}) rfl it l hne kd vs nn).frame i h₁ h₂ hs hk
  have hfp : ∀ b ∈ p.fp, b ∉ p.wr → ∃ o, p.I b = some o := fun b hb h => sq_fp (.inl rfl) hl hb h
  have hA3 : A.in1.in1.in1.depth < recursionLimit := hroom
  have hh3 : A.in1.in1.in1.handled = none := B.h
  refine joinItems_gen (A := A.in1) (n := vs.length) (hn := by rw [sizeLine_eq]; lia) (g_feeds (p := p) hcls hh3 hA3 hsz hIs hfr hfp) ?_ ?_ ?_ ?_ ?_ ?_
  · exact fun q => by have := O₆.wr (a, oA) (.head _); rw [q] at this; cases this
  · exact (hIs _ (O₆.wr (a, oA) (.head _))).typeIs
  · exact wpAny_pyIter_gen (hIs _ (O₆.wr (a, oA) (.head _))) ⟨rfl, rfl⟩
  · have O₇ := O₆.own (s' := { s₆ with heap := s₆.heap.push { cls := .type "list", data := .seq #[] } }) (fun b o e => Heap.get?_push_of_some _ e) (size_free s₆.heap) (Heap.get?_push_size _ rfl) rfl rfl
    refine ⟨⟨0, Heap.get?_push_size _ rfl⟩, rfl, ?_⟩
    generalize s₆.heap.objs.size = S at O₇
    refine g_fresh (p := p) (E₁ := E₁) (by show pushEnvs [_] (pushEnvs [] A.frames) = _; rw [B.f]; rfl) rfl hC0 (S := S) (cenv := genEnv scope [] C code builtinsNs c.env) (elt := elt) (iter := .Name y py) (x := x) (px := px) (scope := scope) (pos := pos) (n := vs.length) (P := fun i v => vs[i]? = some v) (A := A.in1.in1.in1) rfl hsz hIs hco (fun b hb => by rw [List.mem_singleton.mp hb]; exact it0) (walks_sq (by exact B.h) it l hne kd vs nn) hkind hx rfl (fun A' s Q E hs hq => pyIter_it hs.1 hq) (fun i h hs b hb => ?_) hfp ?_ hgs ?_
    · rw [List.mem_singleton.mp hb]; obtain ⟨o, ho, _⟩ := hs.1; exact ⟨o, ho⟩
    · intro i v oC mC I' Wt Wr zs s hi hP hj hzl hsub O nsC hv hg
      refine wpAny_mono (turn _ C code i v oC mC I' Wt Wr zs s hP hj hsub O nsC hv ?_) (fun y s4 h => ?_) fun _ _ h => h
      · exact { h := B.h, f := by show pushEnvs [_] (pushEnvs [] A.frames) = _; rw [B.f]; rfl, d := by show A.depth + 0 + 1 + d < _; have := B.d; lia, u := by show A.units + 1 + 1 + 1 + 1 + 0 + 3 + u < cLine; have := B.u; lia }
      · obtain ⟨I'', Wt'', oC', mC', h1, h2, h3, h4, h5⟩ := h
        refine ⟨I'', Wt'', oC', mC', h1, h2, h3, h4, ?_⟩
        have := h5 _ hg
        rcases Nat.lt_or_ge g s4.gens.size with q | q
        · exact q
        · have hg : g < s.gens.size := hg
          have this : s4.gens[g]? = s.gens[g]? := this
          rw [Array.getElem?_eq_none q, Array.getElem?_eq_getElem hg] at this; cases this
    · refine ⟨[], rfl, I, [(T, oT')], [(it, itO kd l 0)], 0, oC, _, j0 _ tab3, fun _ _ h => h, rfl, ⟨⟨_, O₇.wr (it, itO kd l 0) (by simp), rfl, rfl⟩, O₇.im _ _ hl, .inl rfl⟩, nsC, O₇.perm ?_, hlt6⟩
      have e1 : ([(C, oC), (T, oT')] ++ [(a, oA), (S, lsA #[] 0)]).Perm ([(a, oA), (S, lsA #[] 0)] ++ [(C, oC), (T, oT')]) := List.perm_append_comm
      exact (e1.append_right ((it, itO kd l 0) :: W0)).trans (List.Perm.swap ..)
  · intro acc' s' h
    obtain ⟨I', Wt, k, hj, hsub, O', hS⟩ := h
    obtain ⟨l', hl', hsz'⟩ := hJ _ _ _ hj
    refine ⟨acc'.toList, l', _, k, rfl, by simpa using hS, hl'.mono O'.im, hsz', fun u k => done I' Wt _ l' u _ hj hl' hsub O'.toks⟩
  · exact hE
end
section
open PyProof.Rows.LCg (NsObj ns_obj)
variable {G : Base} {c : Fm} {st : St} {s : Shared} {A : Around}
theorem encInit_spec (hK : G.K = KK G.w.params) (hP : G.prog = pw) {x t : Addr} {rest : List Value} {msg v : Value} {hd : Option Value} {d u : Nat} {I : Hp} {Q : Value → Hp → Ws → Prop} {E : Ex → Hp → Ws → Prop} (hx : x ≠ 53)
    (h : ∀ I' dx t2, (∀ a o, I a = some o → I' a = some o) → Q .none I' [(x, excObj 53 t2 (some dx))]) :
    Cl G (.ref 50) [.ref x, msg, v] hd (d + 1) (u + 3) I [(x, excObj 53 t none), (t, tup rest)] Q E := by
  refine enterC (binds := [("self", .ref x), ("message", msg), ("obj", v)]) (kl hK) (by rfl) (kc hK) (by rfl) (by rfl) (by rfl) (by rfl) (by rfl) (by rfl) (by rfl) (by rfl) fun c A s hfd hfa O B => ?_
  have hc : c.fd.scope = _ := congrArg FuncData.scope hfd
  refine ks_wpAt_execs_cons ?_
  refine ks_wpAt_Expr_any ?_ O.still
  refine ks_wpAt_MethodCall ?_
  have X := O.In
  have hex := O.wr (x, excObj 53 t none) (.head _)
  have kf : s.heap.get? c.fa = _ := hfa ▸ X _ _ (kl hK (a := 50) (by k_is))
  refine ks_wpAt_super_base (env := c.env) (f := c.fa) (kd hc) (kd hc) (by decide) rfl kf (by rfl) (by rfl) (by show c.fd.code = _; rw [hfd]) (X _ _ (kl hK (a := 49) (by k_is))) (by rfl) (by rfl) (by rw [hP]; first | rfl | decide +kernel) (by rw [hP]; first | rfl | decide +kernel) ?_
  refine ks_loadName_global O.fk (kd hc) (loadGlobal_builtin (env := c.env) (mg := G.mg) (mb := G.mb) (by show s.heap.Ns c.fd.globals G.mg; rw [O.gl]; exact G.T.g.keeps O.keepB) (mg_none_of G.X G.T.g (kn hK))
    (by show s.heap.Ns c.fd.builtins G.mb; rw [O.bl]; exact G.T.b.keeps O.keepB) ((G.T.builtins _ (by decide +kernel)).trans PyProof.Rows.Boot.«super») ⟨rfl, ?_⟩)
  refine wpAny_loadName_free O.fk (kd hc) (by show c.fd.closure.lookup _ = _; rw [hfd]; rfl) ⟨_, X _ _ (kl hK (a := 38) (by k_is)), by rfl⟩ ?_
  refine r_load O (kd hc) (by rfl) ?_
  have hC := X _ _ (kl hK (a := 53) (by k_is))
  obtain ⟨hh, g, d0, t0, os⟩ := s
  refine ks_wpAny_isType_cls hC (by rfl) ⟨rfl, ?_⟩
  refine ks_wpAny_call_super hC (by rfl) hex rfl (fun c => by simp) (looks_mroIn X (by rw [hK]; rfl)) (fun h' e k => ?_)
  have O := O.own (s' := ⟨h', g, d0, t0, os⟩) k (size_free _) e rfl rfl
  have X := O.In
  have hC := X _ _ (kl hK (a := 53) (by k_is))
  have hex := O.wr (x, excObj 53 t none) (.tail _ (.head _))
  have hso := O.wr (_, ks_superObj 53 x 53) (.head _)
  have hTy : ∀ {h : Heap} {t : Addr} {dx : Option Addr}, h.get? x = some (excObj 53 t dx) → Looks (model G.prog G.w) h (typeOf (.ref x)) (.ref 53) := fun e => (Looks.ld (part := none) e).andThen .now
  refine XF.getm hso (looks_opaque X (by rw [hK]; rfl)) (l₀ := [.ref 53, .ref 31, .type "Exception", .type "BaseException", .type "object"]) ((looks_clsIn X (C := 53) (by rw [hK]; rfl)).andThen .now) (by first | rfl | decide +kernel) X (by rw [hK]; first | rfl | kernel_rfl) ((hTy hex).andThen (looks_mroIn X (by rw [hK]; rfl))) hx ?_
  have O := O.own (s' := ⟨h'.push (XF.bound x), g, d0, t0 + 1, os⟩) (fun _ _ e => Heap.get?_push_of_some _ e) (size_free _) (Heap.get?_push_size _ rfl) rfl rfl
  refine XF.callWith_bound (x := x) ?_
  refine spliced_more ?_
  refine r_name O (kd hc) (by rfl) ?_
  refine spliced_none ⟨O.wr (_, XF.bound x) (.head _), ?_⟩
  have X := O.In
  have hC := X _ _ (kl hK (a := 53) (by k_is))
  have hR := X _ _ (kl hK (a := 31) (by k_is))
  have hex := O.wr (x, excObj 53 t none) (.tail _ (.tail _ (.head _)))
  have T : OwnTail (h'.push (XF.bound x)) [.type "Exception", .type "BaseException", .type "object"] [.ref 31, .type "Exception", .type "BaseException", .type "object"] := tail_of_in X (by rw [hK]; first | rfl | kernel_rfl)
  refine XF.call_bound T rfl hC (O.wr (_, XF.bound x) (.head _)) hex ?_
  have e1 := Heap.get?_push_of_some (h := h'.push (XF.bound x)) { cls := .type "tuple", data := .seq #[msg] } hex
  have e2 := Heap.get?_update_self (h := (h'.push (XF.bound x)).push { cls := .type "tuple", data := .seq #[msg] }) (Obj.mapFields (·.setIfInBounds 0 (.ref (h'.push (XF.bound x)).objs.size))) e1 rfl
  have O := Ok.toObj (W1 := [_, _]) (W2 := [_]) (x := x) (o := excObj 53 t none) (o' := excObj 53 (h'.push (XF.bound x)).objs.size none)
    (s' := ⟨((h'.push (XF.bound x)).push { cls := .type "tuple", data := .seq #[msg] }).update x (Obj.mapFields (·.setIfInBounds 0 (.ref (h'.push (XF.bound x)).objs.size))), g, d0, t0 + 1, os⟩) O
    (fun b ob nb e => (Heap.get?_update_other _ _ (Ne.symm nb)).trans (Heap.get?_push_of_some _ e)) (e2.trans (by rfl)) rfl rfl
  refine ks_wpAt_execs_cons ?_
  refine ks_wpAt_Assign_Attr ?_
  refine wpAt_of_wpAny ?_
  refine r_name O (kd hc) (by rfl) ?_
  refine r_name O (kd hc) (by rfl) ?_
  have X := O.In
  refine set_new (K := G.K) (C := 53) (ox := excObj 53 (h'.push (XF.bound x)).objs.size none) X (O.wr _ (.tail _ (.tail _ (.head _)))) rfl (by rfl) rfl (by rw [hK]; rfl) (cd := _) (by rw [hK]; rfl) (.ref (.ref .exc)) (by rw [hK]; rfl) (by rw [hK]; rfl) (by rfl) (by rfl) fun h2 tk tk' dx nd ndx hd2 hx2 k2 => ?_
  have O0 := O
  have O := Ok.toObj (W1 := [_, _]) (W2 := [_]) (x := x) (o := excObj 53 (h'.push (XF.bound x)).objs.size none) (o' := excObj 53 (h'.push (XF.bound x)).objs.size (some dx)) (s' := ⟨h2, g, d0, tk', os⟩) O k2 hx2 rfl rfl
  have O := O0.add nd O (by simp) hd2
  have nI := O.wI _ (.head _)
  have O := O.fix
  have O := O.drop (W1 := [_, _]) (W := [_, _])
  have O := (O.perm (W' := [_, _]) (List.Perm.swap _ _ _)).drop (W1 := [_]) (W := [_])
  refine wpAt_of_wpAny (wpAny_execs_nil ?_)
  exact ⟨_, _, _, O, h _ dx _ (sub_fix nI)⟩
theorem enc_obj (P : Params) : isExcObj 53 (o_53 P) := ⟨_, _, _, _, _, _, _, _, _, _, _, _, _, _, _, _, _, rfl, by decide⟩
theorem enc_cls (hK : G.K = KK G.w.params) : XCls G 53 50 where
  obj := ⟨_, _, _, _, _, _, _, _, _, _, _, _, _, _, _, _, kl hK (by with_unfolding_all rfl), by rw [hK]; first | rfl | kernel_rfl⟩
  init := by rw [hK]; rfl
  fn := by rw [hK]; rfl
theorem enc_ns (hK : G.K = KK G.w.params) : NoStopC G (.ref 53) := fun a s h X A gs Q E hq => by
  obtain ⟨⟨oc, od, da, sl⟩, ho, hc⟩ := h
  cases hc
  have hTy : Looks (model G.prog G.w) s.heap (typeOf (.ref a)) (.ref 53) := (Looks.ld (part := none) ho).andThen .now
  have hI : Looks (model G.prog G.w) s.heap (isInstance (.ref a) (.type "StopIteration")) false := hTy.andThen (looks_mroIn X (C := 53) (by rw [hK]; rfl))
  exact Looks.here (s := { s with gens := gs }) hI hq
theorem Bv.uniq {h : Hp} {v : Value} {x y : List UInt8} (a : Bv h v x) (b : Bv h v y) : x = y := by
  cases a with
  | b x t => generalize e : x.toArray = z at b; cases b with | b y t => exact Array.toList_inj.mpr e |> fun q => by simpa using q
  | a ea => cases b with | a eb => rw [ea] at eb; injection eb with eb; injection eb with _ _ q; injection q with q; simpa using q
theorem BvL.uniq {h : Hp} {vs : List Value} {xs ys : List (List UInt8)} (r : BvL h vs xs) (q : BvL h vs ys) : xs = ys := by
  induction r generalizing ys with
  | nil => cases q; rfl
  | cons a _ ih => cases q with | cons b q => rw [a.uniq b, ih q]
theorem RepT.by_ {I : Hp} {v : Value} {t : Th} (r : RepT I v t) (h : isBy t = true) : ∃ x, Bv I v x ∧ fm t = .s x ∧ plT t = true := by
  cases r with
  | o x t => exact ⟨x, .b x t, rfl, rfl⟩
  | ba e => exact ⟨_, .a e, rfl, rfl⟩
  | _ => cases h
theorem r_itemV {value slice : PySem.Expr} {v : Value} {x : List UInt8} {i : Int} {u : Tok} {Q : VP} {E : VP} (O : Ok G c st s) (b : Bv st.I v x) (hz : x.length ≤ 16777216) (hi : 0 ≤ i ∧ i < x.length) (h : ∀ t s', Ok G c st s' → Q (.int ((x.getD i.toNat 0).toNat : Nat) t) s')
    (hs1 : ∀ (y : Array UInt8) t, subscripted slice false (.bytes y t) (.int i u) = operate [.bytes y t, .int i u] (getItem (.bytes y t) (.int i u)) := by intro _ _; with_unfolding_all rfl)
    (hs2 : ∀ a, subscripted slice false (.ref a) (.int i u) = operate [.ref a, .int i u] (getItem (.ref a) (.int i u)) := by intro _; with_unfolding_all rfl)
    (ht1 : ∀ (y : Array UInt8) t r, letTemporaryGo value (.bytes y t) r = pure () := by intro _ _ _; with_unfolding_all rfl) (ht2 : ∀ a r, letTemporaryGo value (.ref a) r = pure () := by intro _ _; with_unfolding_all rfl) :
    wpAny (model G.prog G.w) A (subscriptTail value slice v (.int i u)) Q E s := by
  cases b with
  | b x t => exact r_itemB O hz hi h (hs1 _ _) (ht1 _ _)
  | @a a _ ea => exact subscriptTail_ops (BA.ty (O.im _ _ ea)) BA.slot_getitem.lookup (BA.item (O.im _ _ ea) hz hi.1 hi.2 fun t k => h t _ O.toks) (hs2 _) (ht2 _)
theorem enterKC {a : Addr} {name qual : Str} {params : Arguments} {body : List Stmt} {scope : Scope} {dV kV doc pm cdv ct oc : Value} {an od : Option Addr} {osl : Array (Option Value)}
    {args : List Value} {binds : List (Str × Value)} {hd : Option Value} {d u : Nat} {I : Hp} {W : Ws} {Q : Value → Hp → Ws → Prop} {E : Ex → Hp → Ws → Prop}
    (hlk : G.K.lookup a = some ⟨oc, od, .func (fnOf name qual params body scope dV kV doc pm an cdv ct), osl⟩) (hcd : codeIn G.K cdv qual = true)
    (hbind : bindArgs (fnOf name qual params body scope dV kV doc pm an cdv ct) ⟨args, []⟩ = pure binds)
    (hcell : (scope.names.all fun x => decide (x.2 ≠ .cell)) = true) (hloc : (binds.all fun x => decide (scope.names.lookup x.1 = some .local)) = true)
    (hco : scope.isCoroutine = false) (hgen : scope.isGenerator = false) (hk : scope.kind = .function)
    (h : ∀ (c : Fm) (A : Around) (s₁ : Shared), c.fd.scope = scope → c.fd.code = cdv → Ok G c ⟨ov binds.reverse fun _ => none, I, W⟩ s₁ → Bud A hd (c.env :: c.outer) d u →
      wpAny (model G.prog G.w) A (execs body c.env) (EndQ G c Q) (EndX G c E) s₁) :
    Cl G (.ref a) args hd (d + 1) (u + 3) I W Q E :=
  enter (fun b => b _ _ (G.X _ _ hlk)) rfl rfl (codeRec_of G.X hcd) (fun _ _ => BindsTo.of_eq hbind) (fun x hx => of_decide_eq_true (List.all_eq_true.mp hcell x hx)) (locs hloc) hco hgen hk rfl rfl
    fun c A s₁ h1 _ O B => h c A s₁ (by rw [h1]) (by rw [h1]) (by
      have e : (ov binds.reverse fun _ => none) = fun x => binds.reverse.lookup x := by
        funext y; unfold ov; cases binds.reverse.lookup y <;> rfl
      rw [e]; exact O) B
theorem encL_mem : ∀ {ts : List It} {t : It}, t ∈ ts → (enc t).length ≤ (encL ts).length
  | _ :: _, _, .head _ => by rw [encL, List.length_append]; lia
  | _ :: _, _, .tail _ h => by rw [encL, List.length_append]; have := encL_mem h; lia
theorem len_encL : ∀ (ts : List It), ts.length ≤ (encL ts).length
  | [] => Nat.le_refl _
  | t :: ts => by rw [encL, List.length_append, List.length_cons]; have := len_encL ts; have := enc_len_pos t; lia
theorem cat_encT : ∀ (ts : List Th), cat (ts.map fun t => enc (fm t)) = encL (fmL ts)
  | [] => rfl
  | t :: ts => by rw [List.map_cons, cat, List.flatten_cons, fmL, encL, ← cat_encT ts]; rfl
theorem headF_ne {off n : Nat} : bytesOf (headF off n false) ≠ [] := by
  rcases Nat.lt_or_ge n 56 with h | h
  · rw [headF_short h]; exact fun q => by cases q
  · rw [headF_long h]; exact fun q => by cases q
theorem plL_get : ∀ {ts : List Th} {i : Nat} {t : Th}, plL ts = true → ts[i]? = some t → plT t = true
  | _ :: _, 0, _, h, e => by rw [plL] at h; simp at e h; exact e ▸ h.1
  | _ :: ts, i + 1, _, h, e => by rw [plL] at h; simp at e h; exact plL_get h.2 e
theorem enc_get {ts : List Th} {i : Nat} {t : Th} (h : ts[i]? = some t) : (enc (fm t)).length ≤ (encL (fmL ts)).length := encL_mem (List.mem_of_getElem? (fmL_get h))
theorem enc_take (ts : List Th) (i : Nat) : (encL (fmL (ts.take i))).length ≤ (encL (fmL ts)).length := by
  have : encL (fmL ts) = encL (fmL (ts.take i)) ++ encL (fmL (ts.drop i)) := by
    rw [← cat_encT, ← cat_encT, ← cat_encT]
    conv => lhs; rw [← List.take_append_drop i ts]
    rw [List.map_append, cat, List.flatten_append]; rfl
  rw [this, List.length_append]; lia
inductive JE8 (G : Base) (I : Hp) (ts : List Th) (i : Nat) : Hp → Ws → List Value → Prop
  | mk {I' : Hp} {zs : List Value} (oT' : Obj) (h1 : ∀ a o, I a = some o → I' a = some o) (h2 : plL (ts.take i) = true) (h3 : BvL I' zs ((ts.take i).map fun t => enc (fm t))) (h4 : TabOk G 1706 1702 oT') : JE8 G I ts i I' [(1702, oT')] zs
set_option maxHeartbeats 0 in
theorem ert_spec (hK : G.K = KK G.w.params) (hP : G.prog = pw) {bm : Addr} {ob : Obj} (hM : BMod G.B0 mainGlobals G.mg bm ob) : ∀ (n : Nat) (t : Th), (fm t).dp < n → (enc (fm t)).length ≤ 1000000 → ∀ {v : Value} {I : Hp} {oT : Obj} {Q : Value → Hp → Ws → Prop} {E : Ex → Hp → Ws → Prop},
    RepT I v t → TabOk G 1706 1702 oT → (plT t = true → ∀ I' oT' r, (∀ a o, I a = some o → I' a = some o) → TabOk G 1706 1702 oT' → Bv I' r (enc (fm t)) → Q r I' [(1702, oT')]) →
    (plT t = false → ∀ x I' oT', (∀ a o, I a = some o → I' a = some o) → TabOk G 1706 1702 oT' → x.cls = .ref 53 ∧ x.cx = .none → E x I' [(1702, oT')]) → Cl G (.ref 1707) [v] none (2 * n + 10) (10 * n + 30) I [(1702, oT)] Q E
  | 0, _, h => absurd h (by lia)
  | n + 1, t, hn => by
    intro hz v I oT Q E hr hT hq hx
    refine Cl.le (d := 2 * n + 10 + 1 + 1) (u := 10 * n + 30 + 7 + 3) ?_ (by lia) (by lia)
    refine enterKC (binds := [("item", v)]) (kl hK) (kc hK) (by rfl) (by rfl) (by rfl) (by rfl) (by rfl) (by rfl) fun c A s hc hcode O B => ?_
    refine e_cons ?_
    refine r_if O (isBy t = true) ?_ (fun s O g0 => ?_) (fun s O g0 => ?_)
    · skip
      refine e_plain ?_
      refine k_isT O hr (kd hc) (kn hK) (kd hc) (by rfl) (kd hc) (kn hK) PyProof.Rows.Boot.«bytes» (kd hc) (kn hK) PyProof.Rows.Boot.«bytearray» (kBy t) fun s O => ?_
      refine wpAny_truthy_bool ?_
      exact ⟨O, Iff.rfl⟩
    · skip
      obtain ⟨b, bv, hfm, hpl⟩ := hr.by_ g0
      rw [hfm] at hz hq
      have hq := hq hpl
      have hz' := hz
      rw [enc] at hz'
      have hbl : b.length ≤ 1000000 := by
        split at hz'
        · exact hz'
        · rw [List.length_append] at hz'; lia
      refine e_cons ?_
      refine r_if O (b.length = 1 ∧ (b.getD 0 0).toNat < 128) ?_ (fun s O gA => ?_) (fun s O gB => ?_)
      · skip
        refine e_and ?_
        refine e_icmp ?_
        refine k_lenV O bv (kd hc) (kn hK) (kd hc) (by rfl) (by lia) fun k1 s O => ?_
        refine r_int O fun k2 s O => ?_
        refine r_eqi ?_
        refine wpAny_truthy_bool ?_
        refine ite_dec (fun g1 => ?_) (fun g1 => ⟨O, iff_no (by lia)⟩)
        have g1' : b.length = 1 := by lia
        refine e_and ?_
        refine e_icmp ?_
        refine e_sub ?_
        refine r_name O (kd hc) (by rfl) ?_
        refine r_int O fun k3 s O => ?_
        refine r_itemV O bv (by lia) (by lia) fun k4 s O => ?_
        refine r_int O fun k5 s O => ?_
        refine lt_int ?_
        refine wpAny_truthy_bool ?_
        have e0 : Int.toNat 0 = 0 := rfl
        rw [e0]
        refine ite_dec (fun g2 => ?_) (fun g2 => ⟨O, iff_no (fun h => g2 (by have := h.2; lia))⟩)
        exact isTrue_and_nil ⟨O, iff_yes ⟨g1', by lia⟩⟩
      · skip
        refine k_ret ?_
        refine r_name O (kd hc) (by rfl) ?_
        rw [enc, if_pos gA] at hq
        exact ⟨_, I, _, O, hq I oT v (fun _ _ h => h) hT bv⟩
      refine wpAny_execs_nil ?_
      refine k_asg ?_
      refine r_name O (kd hc) (by rfl) ?_
      refine r_store O (kd hc) fun s O => ?_
      refine k_asg ?_
      refine r_int O fun k6 s O => ?_
      refine r_store O (kd hc) fun s O => ?_
      refine wpAny_execs_nil ?_
      rw [if_neg gB, List.length_append] at hz'
      refine e_cons ?_
      refine wpAny_Try_except ?_
      refine k_asg ?_
      refine k_def O (kd hc) (kn hK) (kk hK (by k_is)) ?_
      refine e_more ?_
      refine k_lenV O bv (kd hc) (kn hK) (kd hc) (by rfl) (by lia) fun k7 s O => ?_
      refine k_arg O (kd hc) (by rfl) ?_
      refine spliced_none ⟨O.In, ?_⟩
      refine r_pure O B ((lp_spec hK (n := b.length) (off := 128) (by lia) (by lia) (d := 0) (u := 0) fun kv s O _ => ?_).le (by lia) (by lia))
      refine r_store O (kd hc) fun s O => ?_
      refine wpAny_execs_nil ?_
      refine wpAny_execs_nil ?_
      refine k_ret ?_
      refine e_bin ?_
      refine r_name O (kd hc) (by rfl) ?_
      refine r_name O (kd hc) (by rfl) ?_
      refine BA.add (bv.mono O.im) headF_ne (by lia) fun k98 k99 => ?_
      rw [enc, if_neg gB] at hq
      exact ⟨_, I, _, O.toks, hq I oT _ (fun _ _ h => h) hT (.b _ _)⟩
    refine e_cons ?_
    refine r_if O (isSq t = true) ?_ (fun s O g1 => ?_) (fun s O g1 => ?_)
    · skip
      refine e_plain ?_
      refine k_isT O hr (kd hc) (kn hK) (kd hc) (by rfl) (kd hc) (kn hK) PyProof.Rows.Boot.«list» (kd hc) (kn hK) PyProof.Rows.Boot.«tuple» (kSq t) fun s O => ?_
      refine wpAny_truthy_bool ?_
      exact ⟨O, Iff.rfl⟩
    rotate_left
    · skip
      have hbad : plT t = false := by
        cases t <;> first | rfl | exact absurd rfl g0 | exact absurd rfl g1
      refine k_asg ?_
      refine r_str O fun k1 s O => ?_
      refine r_store O.over (kd hc) fun s O => ?_
      refine e_cons ?_
      refine r_raise (C := 53) (kl hK) (enc_obj _) B.h ?_
      refine e_call ?_
      refine r_glob O (kd hc) (kn hK) ?_
      refine r_cls (kl hK) (enc_obj _) ?_
      refine k_arg O (kd hc) (by rfl) ?_
      refine k_arg O (kd hc) (by rfl) ?_
      refine spliced_none ⟨O.In, ?_⟩
      refine r_newX (d := 1) (u := 10) O (B.le (by lia) (by lia)) (enc_cls hK) (by simp) fun y t hy hy0 => (encInit_spec (d := 0) (u := 7) hK hP hy fun I' dx t2 hsub => ⟨rfl, fun s O _ => ?_⟩).le (by lia) (by lia)
      exact ⟨y, t2, some dx, rfl, O.In, O.wr _ (.head _), ⟨y, y, .ref 53, some dx, .none⟩, _, I', [(1702, oT)], rfl, O.drop (W1 := [(y, _)]), .inl (newX_own O hy0), fun tb => hx hbad _ I' oT hsub hT ⟨rfl, rfl⟩⟩
    obtain ⟨kt, ts, rfl⟩ : ∃ k ts, t = .sq k ts := by
      cases t <;> first | exact ⟨_, _, rfl⟩ | (cases g1; done)
    cases hr with
    | @sq a _ vs nn _ e r =>
    have lent := r.length
    rw [fm, It.dp] at hn
    have hz' := hz
    rw [fm, enc, List.length_append] at hz'
    have hle := len_encL (fmL ts)
    rw [fmL_len] at hle
    rw [plT, fm] at hq
    rw [plT] at hx
    refine k_asg ?_
    refine e_meth ?_
    refine r_bytes O fun k1 s O => ?_
    refine bj_method ?_
    refine PyProof.Rows.callWith_method1 ?_
    refine e_more ?_
    refine wpAny_mono (r_joinGen (t := k1) (E₁ := fun x I' W' => plL ts = false ∧ (∀ a o, I a = some o → I' a = some o) ∧ (x.cls = .ref 53 ∧ x.cx = .none) ∧ ∃ oT', W' = [(1702, oT')] ∧ TabOk G 1706 1702 oT') (fun x I W h => h.2.2.1.1 ▸ enc_ns hK) (JE8 G I ts) B hcode (G.X _ _ (kl hK (a := 1706) (by k_is))) hM (kd hc) (by rfl) e (by lia) (by rfl) (by rfl) (by rfl) (by rfl) (by rfl) (by rfl) O hT ?_ ?_ ?_ ?_ ?_) (fun v s h => spliced_none h) (fun _ _ h => h)
    · exact fun oT' h => ⟨oT', fun _ _ e => e, by simp [plL], .nil, h⟩
    · rintro I' Wt zs ⟨oT', h1, h2, h3, h4⟩
      refine ⟨_, h3, ?_⟩
      rw [cat_encT]
      have := enc_take ts vs.length
      lia
    · rintro Ao C code i v oC mC I' Wt Wr zs s hv ⟨oT', hs1, h2, h3, hT'⟩ _ O ns hm B2
      obtain ⟨t', ht, hrt⟩ := r.get hv
      obtain ⟨h5, _⟩ := szL_get ht
      have h6 := enc_get ht
      refine e_call ?_
      refine r_cglobG O (by rfl) (by rfl) (kn hK) ?_
      refine r_def (kk hK (by k_is)) ?_
      refine e_more ?_
      refine r_cnameG (O.wr (C, oC) (.head _)) ns (by rfl) (by rfl) hm ?_
      refine spliced_none ⟨O.In, ?_⟩
      refine r_callG (E' := fun x I2 W2 => plT t' = false ∧ (∀ a o, I' a = some o → I2 a = some o) ∧ (x.cls = .ref 53 ∧ x.cx = .none) ∧ ∃ oT', W2 = [(1702, oT')] ∧ TabOk G 1706 1702 oT') (Wc := [(1702, oT')]) (Wr := Wr) O ns rfl (fun q => by cases q) B2 (ert_spec hK hP hM n t' (by lia) (by lia) (hrt.mono hs1) hT' ?_ ?_) ?_
      · intro hpl I2 oT2 u hs2 hT2 hb s5 oC5 ns5 O5 _ hg5
        refine ⟨I2, [(1702, oT2)], oC5, mC, ⟨oT2, fun a o e => hs2 _ _ (hs1 _ _ e), ?_, ?_, hT2⟩, hs2, ns5, O5, hg5⟩
        · rw [List.take_add_one, ht, plL_append, h2]; simp [plL, hpl]
        · rw [List.take_add_one, ht, List.map_append]; exact (h3.mono hs2).snoc hb
      · exact fun hpl x I2 oT2 hs2 hT2 hcl => ⟨hpl, hs2, hcl, oT2, rfl, hT2⟩
      · rintro x I2 W2 s2 oC2 ns2 O2 hs2 hg2 T2 ⟨hpl, hs3, hcl, oT2, rfl, hT2⟩
        refine ⟨x, I2, _, oC2, mC, rfl, ns2, O2, T2, fun tb => ⟨?_, fun a o e => hs3 _ _ (hs1 _ _ e), hcl, oT2, rfl, hT2⟩⟩
        cases q : plL ts with
        | false => rfl
        | true => have := plL_get q ht; rw [hpl] at this; cases this
    · rintro I' Wt zs l' u s ⟨oT', hs1, h2, h3, hT'⟩ hb _ O
      have hl' : cat l' = encL (fmL ts) := by
        have : l' = (ts.take vs.length).map fun t => enc (fm t) := BvL.uniq hb h3
        rw [this, cat_encT, lent, List.take_length]
      rw [hl']
      rw [lent, List.take_length] at h2
      have hq := hq h2
      refine r_store O (kd hc) fun s O => ?_
      refine k_asg ?_
      refine r_int O fun k8 s O => ?_
      refine r_store O (kd hc) fun s O => ?_
      refine wpAny_execs_nil ?_
      refine wpAny_execs_nil ?_
      refine e_cons ?_
      refine wpAny_Try_except ?_
      refine k_asg ?_
      refine k_def O (kd hc) (kn hK) (kk hK (by k_is)) ?_
      refine e_more ?_
      refine k_lenB O (kd hc) (kn hK) (kd hc) (by rfl) (by lia) fun k9 s O => ?_
      refine k_arg O (kd hc) (by rfl) ?_
      refine spliced_none ⟨O.In, ?_⟩
      refine r_pure O B ((lp_spec hK (n := (encL (fmL ts)).length) (off := 192) (by lia) (by lia) (d := 0) (u := 0) fun kv s O _ => ?_).le (by lia) (by lia))
      refine r_store O (kd hc) fun s O => ?_
      refine wpAny_execs_nil ?_
      refine wpAny_execs_nil ?_
      refine k_ret ?_
      refine e_bin ?_
      refine r_name O (kd hc) (by rfl) ?_
      refine r_name O (kd hc) (by rfl) ?_
      refine r_addB O (by lia) fun k99 s O => ?_
      rw [enc] at hq
      exact ⟨_, I', _, O, hq I' oT' _ hs1 hT' (.b _ _)⟩
    · rintro e s2 ⟨x, I2, W2, rfl, O2, T2, h⟩
      obtain ⟨hpl, hs2, hcl, oT2, rfl, hT2⟩ := h x.tb
      exact ⟨x, _, I2, _, rfl, O2, .inr (.inl T2), fun tb => hx hpl _ _ _ hs2 hT2 hcl⟩
theorem enc0_spec (hK : G.K = KK G.w.params) (hP : G.prog = pw) {bm : Addr} {ob : Obj} (hM : BMod G.B0 mainGlobals G.mg bm ob) {n : Nat} {t : Th} (hn : (fm t).dp < n) (he : (enc (fm t)).length ≤ 1000000) {v : Value} {I : Hp} {oT : Obj} {Q : Value → Hp → Ws → Prop} {E : Ex → Hp → Ws → Prop}
    (hr : RepT I v t) (hT : TabOk G 1706 1702 oT) (hq : plT t = true → ∀ I' oT' r, (∀ a o, I a = some o → I' a = some o) → TabOk G 1706 1702 oT' → Bv I' r (enc (fm t)) → Q r I' [(1702, oT')])
    (hx : plT t = false → ∀ x I' oT', (∀ a o, I a = some o → I' a = some o) → TabOk G 1706 1702 oT' → x.cls = .ref 53 ∧ x.cx = .none → E x I' [(1702, oT')]) : Cl G (.ref 1722) [v, .none, .bool false] none (2 * n + 10 + 1) (10 * n + 30 + 3) I [(1702, oT)] Q E := by
  refine enterP (binds := [("obj", v), ("sedes", .none), ("infer_serializer", .bool false), ("cache", .bool true)]) (kl hK) (by rfl) (kc hK) (by rw [hK]; intro S; rfl) (by rfl) (by rfl) (by rfl) (by rfl) (by rfl) (by rfl) (by rfl) fun c A s hfd O B => ?_
  have hc : c.fd.scope = _ := congrArg FuncData.scope hfd
  refine e_cons ?_
  refine r_if O False ?_ (fun s O g0 => g0.elim) (fun s O g0 => ?_)
  · skip
    refine e_plain ?_
    refine r_name O (kd hc) (by rfl) ?_
    refine truthy_none ?_
    exact ⟨O, iff_no id⟩
  refine e_cons ?_
  refine r_if O False ?_ (fun s O g0 => g0.elim) (fun s O g0 => ?_)
  · skip
    refine e_plain ?_
    refine r_name O (kd hc) (by rfl) ?_
    refine wpAny_truthy_bool ?_
    exact ⟨O, iff_no id⟩
  refine k_asg ?_
  refine r_name O (kd hc) (by rfl) ?_
  refine r_store O.over (kd hc) fun s O => ?_
  refine wpAny_execs_nil ?_
  refine wpAny_execs_nil ?_
  refine k_asg ?_
  refine k_def O (kd hc) (kn hK) (kk hK (by k_is)) ?_
  refine k_arg O (kd hc) (by rfl) ?_
  refine spliced_none ⟨O.In, ?_⟩
  refine r_call (E' := fun x I' W' => plT t = false ∧ (∀ a o, I a = some o → I' a = some o) ∧ (x.cls = .ref 53 ∧ x.cx = .none) ∧ ∃ oT', W' = [(1702, oT')] ∧ TabOk G 1706 1702 oT') (Wc := [(1702, oT)]) (Wr := []) O B (ert_spec hK hP hM n t hn he hr hT (fun hpl I3 oT3 u hs3 hT3 hb s O _ => ?_) fun hpl x I3 oT3 hs3 hT3 hcl => ⟨hpl, hs3, hcl, oT3, rfl, hT3⟩) ?_
  · refine r_store O (kd hc) fun s O => ?_
    refine k_ret ?_
    refine r_name O (kd hc) (by rfl) ?_
    exact ⟨_, I3, _, O, hq hpl I3 oT3 u hs3 hT3 hb⟩
  · rintro x I2 W2 s2 O2 hs2 F2 hn2 ⟨hpl, hs3, hcl, oT3, rfl, hT3⟩
    exact ⟨x, _, I2, _, rfl, O2, .inr (.inl (F2.tr (st' := ⟨_, I2, _⟩) O hn2)), fun tb => hx hpl _ _ _ hs3 hT3 hcl⟩
set_option maxHeartbeats 0 in
theorem enc1_spec (hK : G.K = KK G.w.params) (hP : G.prog = pw) {bm : Addr} {ob : Obj} (hM : BMod G.B0 mainGlobals G.mg bm ob) {n : Nat} {t : Th} (hn : (fm t).dp < n) (hz : (fm t).sz ≤ 8000000) (hsm : smT t) (he : (enc (fm t)).length ≤ 1000000) {v : Value} {I : Hp} {oT : Obj} {Q : Value → Hp → Ws → Prop} {E : Ex → Hp → Ws → Prop}
    (hr : RepT I v t) (hT : TabOk G 1706 1702 oT) (hq : okT t = true → ∀ I' oT' r, (∀ a o, I a = some o → I' a = some o) → TabOk G 1706 1702 oT' → Bv I' r (enc (fm t)) → Q r I' [(1702, oT')])
    (hx : okT t = false → ∀ x I', (∀ a o, I a = some o → I' a = some o) → x.cls = .type "TypeError" → x.cx = .none → E x I' [(1702, oT)]) : Cl G (.ref 1722) [v] none (2 * n + 10 + 1) (10 * n + 30 + 3) I [(1702, oT)] Q E := by
  refine enterP (binds := [("obj", v), ("sedes", .none), ("infer_serializer", .bool true), ("cache", .bool true)]) (kl hK) (by rfl) (kc hK) (by rw [hK]; intro S; rfl) (by rfl) (by rfl) (by rfl) (by rfl) (by rfl) (by rfl) (by rfl) fun c A s hfd O B => ?_
  have hc : c.fd.scope = _ := congrArg FuncData.scope hfd
  refine e_cons ?_
  refine r_if O False ?_ (fun s O g0 => g0.elim) (fun s O g0 => ?_)
  · skip
    refine e_plain ?_
    refine r_name O (kd hc) (by rfl) ?_
    refine truthy_none ?_
    exact ⟨O, iff_no id⟩
  refine e_cons ?_
  refine r_if O True ?_ (fun s O g0 => ?_) (fun s O g0 => absurd trivial g0)
  · skip
    refine e_plain ?_
    refine r_name O (kd hc) (by rfl) ?_
    refine wpAny_truthy_bool ?_
    exact ⟨O, iff_yes trivial⟩
  refine k_asg ?_
  refine e_meth ?_
  refine k_def O (kd hc) (kn hK) (kk hK (by k_is)) ?_
  refine k_arg O (kd hc) (by rfl) ?_
  refine spliced_none ⟨O.In, ?_⟩
  refine r_call (E' := fun x I' W' => okT t = false ∧ (∀ a o, I a = some o → I' a = some o) ∧ x.cls = .type "TypeError" ∧ x.cx = .none ∧ W' = []) (Wc := []) (Wr := [(1702, oT)]) O B ((is_spec hK n t hn hz hr (.inl rfl) (fun hok I1 sv hs1 hsv s O _ => ?_) fun hok x I1 hs1 hcl hcx => ⟨hok, hs1, hcl, hcx rfl, rfl⟩).le (by lia) (by lia)) ?_
  rotate_left
  · rintro x I2 W2 s2 O2 hs2 F2 hn2 ⟨hpl, hs3, hcl, hcx, rfl⟩
    exact ⟨x, _, I2, _, rfl, O2, .inr (.inl (F2.tr (st' := ⟨_, I2, _⟩) O hn2)), fun tb => hx hpl _ _ hs3 hcl hcx⟩
  refine (sed_ser0 hK (n := n) (fun ts h1 h2 h3 => ls_spec hK n ts h1 h2 h3) (Nat.le_of_lt hn) hz hsm hsv (hr.mono hs1)).go O (B.le (by lia) (by lia)) (fun Q' h => r_name O (kd hc) (by rfl) (h _ O)) fun I2 r s hs2 hr2 O => ?_
  refine r_store O.over (kd hc) fun s O => ?_
  refine wpAny_execs_nil ?_
  refine wpAny_execs_nil ?_
  refine k_asg ?_
  refine k_def O (kd hc) (kn hK) (kk hK (by k_is)) ?_
  refine k_arg O (kd hc) (by rfl) ?_
  refine spliced_none ⟨O.In, ?_⟩
  have ef := fm_ser t hok
  refine r_call (E' := fun _ _ _ => False) (Wc := [(1702, oT)]) (Wr := []) O B (ert_spec hK hP hM n (serT t) (by rw [ef]; exact hn) (by rw [ef]; exact he) hr2 hT (fun _ I3 oT3 u hs3 hT3 hb s O _ => ?_) fun hpl => by rw [pl_ser t hok] at hpl; cases hpl) fun _ _ _ _ _ _ _ _ h => h.elim
  rw [ef] at hb
  refine r_store O (kd hc) fun s O => ?_
  refine k_ret ?_
  refine r_name O (kd hc) (by rfl) ?_
  exact ⟨_, I3, _, O, hq hok I3 oT3 u (fun a o e => hs3 _ _ (hs2 _ _ (hs1 _ _ e))) hT3 hb⟩
end
section
variable {G : Base} {c : Fm} {st : St} {s : Shared} {A : Around}
inductive J2w (I : Hp) (W : Ws) (a : Addr) (base : Nat) (t1 : Tok) (size k : Nat) : St → Prop
  | mk {m : Mp} (vs : List Value) (n : Nat) (t : Tok) (ds : List Nat) (m1 : m "size" = some (.int (k : Nat) t)) (m2 : m "digits" = some (.ref a)) (m3 : m "base" = some (.int base t1))
    (hi : IntsAre vs (ds.map fun (x : Nat) => (x : Int))) (hbe : be k ++ ds = be size) : J2w I W a base t1 size k ⟨m, I, [(a, lst vs n)] ++ W⟩
theorem head_spec (hK : G.K = KK G.w.params) {base size : Nat} {t1 t2 : Tok} (hb : base = 128 ∨ base = 192) (hz : size < 256 ^ 3) {d u : Nat} {I : Hp} {W : Ws} {Q : Value → Hp → Ws → Prop} {E : Ex → Hp → Ws → Prop}
    (h : ∀ t, Q (.bytes (bytesOf (headF base size false)).toArray t) I W) : Cl G (.ref 1799) [.int base t1, .int size t2] none (d + 1) (u + 10 + 3) I W Q E := by
  refine enterK (binds := [("base", .int base t1), ("size", .int size t2)]) (kl hK) (kc hK) (by rfl) (by rfl) (by rfl) (by rfl) (by rfl) (by rfl) fun c A s hc O B => ?_
  refine r_guard O (56 ≤ size) ?_ fun s O g2 => ?_
  · refine wpAny_If ?_
    refine e_icmp ?_
    refine r_name O (kd hc) (by rfl) ?_
    refine r_int O fun t s O => ?_
    refine lt_int ?_
    refine wpAny_truthy_bool ?_
    refine ite_dec (fun h1 => ?_) (fun h1 => wpAny_execs_nil ⟨O, by lia⟩)
    refine k_ret ?_
    refine e_call ?_
    refine r_blt O (kd hc) (kn hK) PyProof.Rows.Boot.«bytes» ?_
    refine c_t1 ?_
    refine e_more ?_
    refine e_lst ?_
    refine e_more ?_
    refine e_bin ?_
    refine r_name O (kd hc) (by rfl) ?_
    refine r_name O (kd hc) (by rfl) ?_
    refine r_add O fun t s O => ?_
    refine spliced_none ?_
    refine r_newList O (sz_small (by simp)) fun a s O => ?_
    refine spliced_none ?_
    refine r_bytesOf O (O.wr (a, lst _ 0) (.head _)) (.cons (base + size) _ .nil) (by intro n hn; rw [List.mem_singleton.mp hn]; lia) (by simp) B.h fun t s O => ?_
    refine ⟨_, I, W, O.drop (W1 := [(a, _)]), ?_⟩
    have e : bytesOf (headF base size false) = [((base : Int) + size)].map fun n => n.toNat.toUInt8 := by
      rw [headF_short (by lia)]
      simp only [bytesOf, List.map_cons, List.map_nil]
      rw [show ((base : Int) + size).toNat = base + size by lia]
    exact e ▸ h t
  refine k_asg ?_
  refine e_lst ?_
  refine spliced_none ?_
  refine r_newList O (sz_small (by simp)) fun a s O => ?_
  refine r_store O (kd hc) fun s O => ?_
  refine e_cons ?_
  refine wpAny_mono (E := ESt G c NoE) ?_ (fun _ _ h => h) fun e s' h => ?_
  rotate_left
  · obtain ⟨x, st', h1, h2, h3, h4⟩ := h; exact (h4 0).elim
  refine r_while (J2w I W a base t1 size) size O B.f ⟨[], 0, t2, [], rfl, rfl, rfl, .nil, by simp⟩ fun k st s hJ O' => ?_
  cases hJ with | @mk m vs n tk ds m1 m2 m3 hi hbe =>
  have lim : (be size).length ≤ 3 := be_len 3 size hz
  have hds : ds.length ≤ 3 := by have := congrArg List.length hbe; rw [List.length_append] at this; lia
  have vlen : vs.length = ds.length := by rw [hi.length, List.length_map]
  refine e_icmp ?_
  refine r_name (c := c.re I) O' (kd hc) m1 ?_
  refine r_int O' fun t s O' => ?_
  refine gt_int ?_
  refine wpAny_truthy_bool ?_
  refine ite_dec (fun h1 => ?_) (fun h1 => ?_)
  · refine e_cons ?_
    refine r_expr (c := c.re I) O' ?_
    refine e_meth ?_
    refine r_name (c := c.re I) O' (kd hc) m2 ?_
    refine r_getML PySem.F.slot_list_insert PySem.F.type_list_insert (O'.wr _ (.head _)) ?_
    refine c_m1 ?_
    refine e_more ?_
    refine r_int O' fun t s O' => ?_
    refine e_more ?_
    refine e_bin ?_
    refine r_name (c := c.re I) O' (kd hc) m1 ?_
    refine r_int O' fun t s O' => ?_
    refine r_mod O' (by decide) fun t s O' => ?_
    refine spliced_none ?_
    refine r_insert0 (W1 := []) (W2 := W) O' (by lia) fun s n' O' => ?_
    refine k_asg ?_
    refine e_bin ?_
    refine r_name (c := c.re I) O' (kd hc) m1 ?_
    refine r_int O' fun t s O' => ?_
    refine r_fdiv O' (by decide) fun t5 s O' => ?_
    refine r_store (c := c.re I) (l := []) O' (kd hc) fun s O' => ?_
    refine wpAny_execs_nil ?_
    have hk0 : k ≠ 0 := by lia
    refine ⟨k / 256, _, by lia, ?_, O'⟩
    refine J2w.mk (a := a) (W := W) _ n' t5 ((k % 256) :: ds) ?_ ?_ ?_ ?_ ?_
    · rfl
    · exact m2
    · exact m3
    · exact .cons _ _ hi
    · rw [← hbe, be_pos hk0]; simp
  · have hk : k = 0 := by lia
    subst hk
    rw [be_zero, List.nil_append] at hbe
    subst hbe
    have O := O.unre rfl O'
    have hl : (be size).length ≤ 4 := by lia
    have he : headF base size false = (base + 55 + (be size).length) :: be size := headF_long (by lia)
    have vl : vs.length = (be size).length := vlen
    refine k_ret ?_
    refine e_call ?_
    refine r_blt O (kd hc) (kn hK) PyProof.Rows.Boot.«bytes» ?_
    refine c_t1 ?_
    refine e_more ?_
    refine e_bin ?_
    refine e_lst ?_
    refine e_more ?_
    refine e_bin ?_
    refine e_bin ?_
    refine r_name O (kd hc) m3 ?_
    refine r_int O fun t s O => ?_
    refine r_add O fun t s O => ?_
    refine e_call ?_
    refine r_blt O (kd hc) (kn hK) PyProof.Rows.Boot.«len» ?_
    refine c_b1 ?_
    refine k_arg O (kd hc) m2 ?_
    refine spliced_none ?_
    refine r_lenL O (O.wr _ (.head _)) (by lia) fun t s O => ?_
    refine r_add O fun t s O => ?_
    refine spliced_none ?_
    refine r_newList O (sz_small (by simp)) fun b s O => ?_
    refine r_name O (kd hc) m2 ?_
    refine r_addL O (O.wr _ (.head _)) (O.wr _ (.tail _ (.head _))) (by simp; lia) fun e s O => ?_
    refine spliced_none ?_
    refine r_bytesOf O (O.wr _ (.head _)) (.cons (base + 55 + vs.length) _ hi) (fun z hz => ?_) (by simp; lia) B.h fun t s O => ?_
    · rcases List.mem_cons.mp hz with rfl | hz
      · lia
      · obtain ⟨x, hx, rfl⟩ := List.mem_map.mp hz
        have := be_lt size x hx; lia
    · refine ⟨_, I, W, O.drop (W1 := [(e, _), (b, _), (a, _)]), ?_⟩
      have e : bytesOf (headF base size false) = (((base : Int) + 55 + vs.length) :: (be size).map fun (x : Nat) => (x : Int)).map fun n => n.toNat.toUInt8 := by
        rw [he, vl]
        simp only [bytesOf, List.map_cons, List.map_map]
        congr 1
      exact e ▸ h t
end
section
structure RowT where
  a : Addr
  vs : List Value
  n : Nat
  ts : List Th
noncomputable abbrev RowT.o (r : RowT) : Addr × Obj := (r.a, lst r.vs r.n)
noncomputable def refsT (l : List RowT) : List Value := (l.map fun r => Value.ref r.a).reverse
theorem refsT_cons (r : RowT) (l : List RowT) : refsT (r :: l) = refsT l ++ [.ref r.a] := by simp [refsT]
theorem refsT_len (l : List RowT) : (refsT l).length = l.length := by simp [refsT]
noncomputable def StkT (I : Hp) : List RowT → Nat → Prop
  | [], n => n = 0
  | r :: l, n => RepTL I r.vs r.ts ∧ It.dpL (fmL r.ts) + l.length ≤ 12 ∧ smL r.ts ∧ ∃ k, StkT I l k ∧ n = k + It.szL (fmL r.ts) + 10
theorem StkT.mono {I I' : Hp} (h : ∀ a o, I a = some o → I' a = some o) : ∀ {l : List RowT} {n : Nat}, StkT I l n → StkT I' l n
  | [], _, e => e
  | _ :: _, _, ⟨r, d, m, k, q, e⟩ => ⟨r.mono h, d, m, k, q.mono h, e⟩
theorem StkT.put {I : Hp} {r : RowT} {l : List RowT} {n : Nat} (h : StkT I (r :: l) n) {v : Value} {t : Th} (hv : RepT I v t) (n' : Nat) (hd : (fm t).dp + l.length ≤ 12) (hm : smT t) :
    StkT I (⟨r.a, r.vs ++ [v], n', r.ts ++ [t]⟩ :: l) (n + (fm t).sz) := by
  obtain ⟨h1, h2, h5, k, h3, h4⟩ := h
  refine ⟨h1.snoc hv, ?_, (smL_append _ _).mpr ⟨h5, hm, trivial⟩, k, h3, ?_⟩
  · show It.dpL (fmL (r.ts ++ [t])) + _ ≤ _
    rw [fmL_append, dpL_append, fmL, fmL, It.dpL, It.dpL]; lia
  · show _ = k + It.szL (fmL (r.ts ++ [t])) + 10
    rw [fmL_append, szL_append, fmL, fmL, It.szL, It.szL]; lia
theorem StkT.new {I : Hp} {l : List RowT} {n : Nat} (h : StkT I l n) (hl : l.length ≤ 9) (a : Addr) (k : Nat) : StkT I (⟨a, [], k, []⟩ :: l) (n + 10) :=
  ⟨.nil, by simp [fmL, It.dpL]; lia, trivial, n, h, by simp [fmL, It.szL]⟩
theorem StkT.close {I : Hp} {r q : RowT} {l : List RowT} {n : Nat} {v : Value} {kt : Bool} (h : StkT I (r :: q :: l) n) (hv : RepTL I r.vs r.ts → RepT I v (.sq kt r.ts)) (n' : Nat) :
    StkT I (⟨q.a, q.vs ++ [v], n', q.ts ++ [.sq kt r.ts]⟩ :: l) n := by
  obtain ⟨h1, h2, h5, k, h3, h4⟩ := h
  have := h3.put (hv h1) n' (by rw [fm, It.dp]; simp only [List.length_cons] at h2; lia) h5
  have q : k + (fm (.sq kt r.ts)).sz = n := by rw [fm, It.sz]; lia
  rw [q] at this; exact this
theorem StkT.len {I : Hp} {r : RowT} {l : List RowT} {n : Nat} (h : StkT I (r :: l) n) : r.vs.length ≤ n := by
  obtain ⟨h1, _, _, k, _, h4⟩ := h
  have := h1.length; have := len_szL (fmL r.ts); rw [fmL_len] at this; lia
theorem vals_lenT {I : Hp} {l : List RowT} {n : Nat} (h : StkT I l n) : 10 * l.length ≤ n := by
  induction l generalizing n with
  | nil => simp
  | cons r l ih => obtain ⟨_, _, _, k, q, e⟩ := h; have := ih q; simp; lia
end
section
open PyProof.Rows.LCg (NsObj ns_obj)
variable {G : Base} {c : Fm} {st : St} {s : Shared} {A : Around} {E : VP}
theorem Ok.block (O : Ok G c st s) : c.env.blockKind = .function := by
  unfold Env.blockKind
  show (if c.fd.scope.kind.isAnnotationScope = true then _ else c.fd.scope.kind) = _
  rw [O.fk]; rfl
theorem swaps_yes {elt : PySem.Expr} {gens : List Comprehension} {scope : Scope} {pos pz : Pos} {z : Str} {line : Nat} {k : NameKind} {env : Env} (hk : k = .local) (hb : env.blockKind = .function) (hz : env.kindOf z = some k) (hl : (pz.line == (PySem.Expr.ListComp elt gens scope pos).pos.line) = true) (hn : (scope.names.any fun (n, k) => n == z && (k == .local || k == .cell)) = false) :
    swapsWith (.ListComp elt gens scope pos) (some (.Name z pz)) line env = pure true := by
  subst hk
  show (pure (env.blockKind == .function && env.kindOf z == some .local && pz.line == (PySem.Expr.ListComp elt gens scope pos).pos.line && !(scope.names.any fun (n, k) => n == z && (k == .local || k == .cell))) : Sem Bool) = _
  rw [hb, hz, hl, hn]; rfl
theorem r_compA {x y z : Str} {px py pz spos : Pos} {elt : PySem.Expr} {ifs : List PySem.Expr} {scope : Scope} {pos : Pos} {l : Addr} {kd : Bool} {vs : List Value} {nn : Nat} {W0 : Ws} {m : Mp} {I : Hp} {Q : Flow → Shared → Prop} {hd : Option Value} {E₁ : Ex → St → Prop}
    (hfr : A.frames = some (c.env :: c.outer)) (hE : ∀ e s', ESt G c E₁ e s' → E e s')
    (J : Nat → Hp → Ws → List Value → Prop) (hh : A.handled = hd) (H : HdH hd I) (hy : c.env.kindOf y = some .local) (hm : m y = some (.ref l)) (hl : I l = some (sqO kd vs nn)) (hn : vs.length ≤ 1000000) (hz : c.env.kindOf z = some .local)
    (hsw : swapsWith (.ListComp elt [⟨.Name x px, .Name y py, ifs, 0⟩] scope pos) (some (.Name z pz)) spos.line c.env = pure true)
    (hcell : (scope.names.all fun y => decide (y.2 ≠ .cell)) = true) (hfree : (scope.names.all fun y => decide (y.2 ≠ .free)) = true) (hkind : scope.kind = .function) (hnames : (scope.names.all fun y => decide (y.2 = .local → scope.names.lookup y.1 = some .local)) = true) (hx : scope.names.lookup x = some .local)
    (O : Ok G c ⟨m, I, W0⟩ s) (j0 : J 0 I W0 [])
    (turn : ∀ i v C oC D k I' W' Wi' ys s', vs[i]? = some v → J i I' W' ys → ys.length ≤ i → (∀ a o, I a = some o → I' a = some o) → Ok G c ⟨m, I', (C, oC) :: (D, lst ys k) :: (Wi' ++ W')⟩ s' → (∃ mC, NsObj oC mC ∧ mC x = some v) →
      wpAny (model G.prog G.w) A (tests ifs (compEnv scope C c.env)) (fun ok s3 =>
        if ok = true then wpAny (model G.prog G.w) A (eval elt (compEnv scope C c.env)) (fun y s4 => ∃ I'' W'', J (i + 1) I'' W'' (ys ++ [y]) ∧ (∀ a o, I' a = some o → I'' a = some o) ∧ Ok G c ⟨m, I'', (C, oC) :: (D, lst ys k) :: (Wi' ++ W'')⟩ s4) (CE G c m C E₁) s3
        else ∃ I'' W'', J (i + 1) I'' W'' ys ∧ (∀ a o, I' a = some o → I'' a = some o) ∧ Ok G c ⟨m, I'', (C, oC) :: (D, lst ys k) :: (Wi' ++ W'')⟩ s3) (fun _ _ => False) s')
    (done : ∀ D I' W' ys k s', J vs.length I' W' ys → ys.length ≤ vs.length → (∀ a o, I a = some o → I' a = some o) → Ok G c ⟨ov [(z, .ref D)] m, I', (D, lst ys k) :: W'⟩ s' → Q .next s')
    (hs : ∀ x, foldedSetIterable (.Name y py) c.env x = pure x := by intro _; rfl) (hd' : (y == ("__debug__" : Str)) = false := by decide +kernel) :
    wpAny (model G.prog G.w) A (exec (.Assign [.Name z pz] (.ListComp elt [⟨.Name x px, .Name y py, ifs, 0⟩] scope pos) spos) c.env) Q E s := by
  rw [exec_Assign_Name_used _ _ _ _ hsw]
  refine wpAny_bind (wpAny_standAt (wpAny_bind ?_))
  show wpAny _ A (do let _ ← comprehension (.ListComp elt [⟨.Name x px, .Name y py, ifs, 0⟩] scope pos) scope c.env _ (newList []) false (eval (.Name y py) c.env) (some (assign (.Name z pz) c.env))) _ _ s
  refine wpAny_bind (wpAny_mono (wpAny_comprehension_use (Q := fun _ s' => Q .next s') rfl hs (fun x hx => of_decide_eq_true (List.all_eq_true.mp hfree x hx)) hkind (fun x hx => of_decide_eq_true (List.all_eq_true.mp hnames x hx)) (r_name O hy hm ?_ hd'))
    (fun _ s' hq => wpAny_pure (wpAny_pure hq)) fun _ _ e => e)
  have e := O.im l _ hl
  refine pyIter_sq e ?_
  have hf := size_free s.heap
  have O₂ := O.own (s' := { s with heap := s.heap.push (itO kd l 0) }) (fun _ _ e => Heap.get?_push_of_some _ e) hf (Heap.get?_push_size _ rfl) rfl rfl
  have hne : l ≠ s.heap.objs.size := fun q => by rw [q, hf] at e; cases e
  refine wpAny_mono (comp_core (Wi := [_]) (wr := [_]) (W0 := W0) (Q := fun _ s' => Q .next s') (px := px) (iter := .Name y py) (pos := pos)
    (P₀ := fun D C s' => wpAny (model G.prog G.w) A (assign (.Name z pz) c.env (.ref D)) (fun _ s'' => ∃ m, s''.heap.Ns C m ∧ ∀ h', Heap.SameBut C s''.heap h' → Q .next { s'' with heap := h' }) E s')
    hfr hE J (walks_sq hh _ l hne kd vs nn) (fun i h e b hb => ?_) hn (fun x hx => of_decide_eq_true (List.all_eq_true.mp hcell x hx)) hkind hx O₂ rfl (fun b hb => ?_) (fun b hb h => ?_) ?_ j0
    (fun i v C oC D k I' W' Wi' ys s' hi hP => turn i v C oC D k I' W' Wi' ys s' hP) (fun D C oC mC I' W' ys k s' hj hyl hsub nsC hC0 O₃ => ?_)) (fun acc s h1 => wpAny_mono h1 (fun cenv s h2 => codeAny_mono h2 fun r s' h3 => ?_) fun _ _ h => h) fun _ _ h => h
  · rw [List.mem_singleton.mp hb]; obtain ⟨o, ho, _⟩ := e.1; exact ⟨o, ho⟩
  · rw [List.mem_singleton.mp hb]; exact (off_fresh O hf).2.2.2
  · exact sq_fp H hl hb h
  · exact ⟨⟨_, Heap.get?_push_size _ rfl, rfl, rfl⟩, Heap.get?_push_of_some _ e, H.mono fun a o e => O₂.im _ _ e⟩
  · refine wpAny_assign_Name (r_store O₃.over hz fun s4 O₄ => ?_)
    exact ⟨mC, nsC.ns (O₄.wr _ (.head _)), fun h' hs' => done D I' W' ys k _ hj hyl hsub (Ok.dropAt (s' := { s4 with heap := h' }) O₄ hC0 hs' rfl rfl)⟩
  · cases r with
    | ok f =>
      obtain ⟨D, e4, h4⟩ := h3
      rw [e4]; exact h4
    | error x => exact h3
end
section
open PyProof.Rows.LCg (NsObj ns_obj)
variable {G : Base} {c : Fm} {st : St} {s : Shared} {A : Around}
theorem r_eqNil {a b : Addr} {vs : List Value} {n k : Nat} {Q : VP} {E : VP} (hu : A.units < cLine) (ea : s.heap.get? a = some (lst vs n)) (eb : s.heap.get? b = some (lst [] k)) (h : Q (.bool (decide (vs = []))) s) :
    wpAny (model G.prog G.w) A (compareOp .Eq (.ref a) (.ref b)) Q E s := by
  cases vs with
  | nil => exact PySem.SeqAt.eq_listAt (e := fun _ => true) (isL ea) (isL eb) rfl hu (fun j h1 _ => absurd h1 (by simp)) (by simpa using h)
  | cons x l => exact PySem.SeqAt.eq_list_lengthsAt (isL ea) (isL eb) (by simp) hu (by simpa using h)
inductive Fo (I : Hp) : Value → Th → Prop
  | mk {p : Addr} {fv : Value} {t : Th} : I p = some (tup [.bool (okT t), fv]) → Rep I fv (fm t) → Fo I (.ref p) t
inductive FoL (I : Hp) : List Value → List Th → Prop
  | nil : FoL I [] []
  | cons {v : Value} {vs : List Value} {t : Th} {ts : List Th} : Fo I v t → FoL I vs ts → FoL I (v :: vs) (t :: ts)
theorem Fo.mono {I I' : Hp} (h : ∀ a o, I a = some o → I' a = some o) {v : Value} {t : Th} : Fo I v t → Fo I' v t
  | .mk e r => .mk (h _ _ e) (r.mono h)
theorem FoL.mono {I I' : Hp} (h : ∀ a o, I a = some o → I' a = some o) {vs : List Value} {ts : List Th} (r : FoL I vs ts) : FoL I' vs ts := by
  induction r with
  | nil => exact .nil
  | cons r _ ih => exact .cons (r.mono h) ih
theorem FoL.length {I : Hp} {vs : List Value} {ts : List Th} (r : FoL I vs ts) : vs.length = ts.length := by
  induction r with
  | nil => rfl
  | cons _ _ ih => exact congrArg Nat.succ ih
theorem FoL.snoc {I : Hp} {v : Value} {t : Th} (q : Fo I v t) {vs : List Value} {ts : List Th} (r : FoL I vs ts) : FoL I (vs ++ [v]) (ts ++ [t]) := by
  induction r with
  | nil => exact .cons q .nil
  | cons r _ ih => exact .cons r ih
theorem FoL.get {I : Hp} {vs : List Value} {ts : List Th} {i : Nat} {v : Value} (r : FoL I vs ts) (h : vs[i]? = some v) : ∃ t, ts[i]? = some t ∧ Fo I v t := by
  induction r generalizing i with
  | nil => simp at h
  | cons r _ ih =>
    cases i with
    | zero => cases (show some _ = some _ from h); exact ⟨_, rfl, r⟩
    | succ i => exact ih h
inductive J5w (I : Hp) (a : Addr) (size k : Nat) : St → Prop
  | mk {m : Mp} (vs : List Value) (n : Nat) (t : Tok) (ds : List Nat) (m1 : m "thing" = some (.int (k : Nat) t)) (m2 : m "digits" = some (.ref a))
    (hi : IntsAre vs (ds.map fun (x : Nat) => (x : Int))) (hbe : be k ++ ds = be size) : J5w I a size k ⟨m, I, [(a, lst vs n)]⟩
set_option maxHeartbeats 0 in
theorem form_spec (hK : G.K = KK G.w.params) : ∀ (n : Nat) (t : Th), (fm t).dp < n → (fm t).sz ≤ 8000000 → smT t → ∀ {v : Value} {I : Hp} {Q : Value → Hp → Ws → Prop} {E : Ex → Hp → Ws → Prop}, RepT I v t →
    (∀ I' r, (∀ a o, I a = some o → I' a = some o) → Fo I' r t → Q r I' []) → Cl G (.ref 1782) [v] none (n + 5 + 1) (3 * n + 20 + 3) I [] Q E
  | 0, _, h => absurd h (by lia)
  | n + 1, t, hn => by
    intro hz hsm v I Q E hr hq
    refine enterK (binds := [("thing", v)]) (kl hK) (kc hK) (by rfl) (by rfl) (by rfl) (by rfl) (by rfl) (by rfl) fun c A s hc O B => ?_
    have fin : ∀ {I' : Hp} {W : Ws} {m : Mp} {fv : Value} {s : Shared}, Ok G c ⟨m, I', W⟩ s → (∀ a o, I a = some o → I' a = some o) → Rep I' fv (fm t) → wpAny (model G.prog G.w) A (newTuple [.bool (okT t), fv]) (fun v => EndQ G c Q (.ret v)) (EndX G c E) s := fun O hs hf => by
      refine r_newTuple O (sz_small (by simp)) fun p s O => ?_
      have n1 := O.wI _ (.head _)
      have O := O.fix
      exact ⟨_, _, _, Ok.drop (W := []) (by rw [List.append_nil]; exact O), hq _ _ (fun a o e => sub_fix n1 _ _ (hs _ _ e)) (.mk (if_pos rfl) (hf.mono (sub_fix n1)))⟩
    refine r_guard O (isBy t = false) ?_ fun s O g0 => ?_
    · refine wpAny_If ?_
      refine e_plain ?_
      refine k_isT O hr (kd hc) (kn hK) (kd hc) (by rfl) (kd hc) (kn hK) PyProof.Rows.Boot.«bytes» (kd hc) (kn hK) PyProof.Rows.Boot.«bytearray» (kBy t) fun s O => ?_
      refine wpAny_truthy_bool ?_
      refine ite_b (fun hb => ?_) (fun hb => wpAny_execs_nil ⟨O, hb⟩)
      obtain ⟨x, bv, hfm, hpl⟩ := hr.by_ hb
      have hok : okT t = true := by cases t <;> first | rfl | cases hb
      rw [hfm, hok] at fin
      rw [hfm, It.sz] at hz
      refine k_ret ?_
      refine e_tup ?_
      refine e_more ?_
      refine r_bool ?_
      refine e_more ?_
      refine e_call ?_
      refine r_blt O (kd hc) (kn hK) PyProof.Rows.Boot.«bytes» ?_
      refine c_t1 ?_
      refine k_arg O (kd hc) (by rfl) ?_
      refine spliced_none ?_
      refine BA.bytes_of (bv.mono O.im) (by lia) fun k1 k2 => ?_
      refine spliced_none ?_
      exact fin O.toks (fun _ _ e => e) (.s _ _)
    refine r_guard O (isBo t = false) ?_ fun s O g1 => ?_
    · refine wpAny_If ?_
      refine e_plain ?_
      refine k_is1 O hr (kd hc) (kn hK) (kd hc) (by rfl) (kd hc) (kn hK) PyProof.Rows.Boot.«bool» (kBo t) fun s O => ?_
      refine wpAny_truthy_bool ?_
      refine ite_b (fun hb => ?_) (fun hb => wpAny_execs_nil ⟨O, hb⟩)
      cases t <;> first | (cases hb; done) | skip
      cases hr with | b x =>
      refine k_ret ?_
      refine e_tup ?_
      refine e_more ?_
      refine r_bool ?_
      refine e_more ?_
      refine IfExp_ ?_
      refine e_plain ?_
      refine r_name O (kd hc) (by rfl) ?_
      refine wpAny_truthy_bool ?_
      refine ite_b (fun hx => ?_) (fun hx => ?_)
      · subst hx
        refine r_bytes O fun k1 s O => ?_
        refine spliced_none ?_
        exact fin O (fun _ _ e => e) (.s _ _)
      · subst hx
        refine r_bytes O fun k1 s O => ?_
        refine spliced_none ?_
        exact fin O (fun _ _ e => e) (.s _ _)
    refine r_guard O (isIn t = false) ?_ fun s O g2 => ?_
    · refine wpAny_If ?_
      refine e_plain ?_
      refine k_is1 O hr (kd hc) (kn hK) (kd hc) (by rfl) (kd hc) (kn hK) PyProof.Rows.Boot.«int» (kIn t) fun s O => ?_
      refine wpAny_truthy_bool ?_
      refine ite_b (fun hb => ?_) (fun hb => wpAny_execs_nil ⟨O, hb⟩)
      obtain ⟨i, rfl⟩ : ∃ i, t = .n i := by
        cases t <;> first | exact ⟨_, rfl⟩ | (cases hb; done) | (cases g1; done)
      cases hr with | n _ tk =>
      refine r_guard O (0 ≤ i) ?_ fun s O g3 => ?_
      · refine wpAny_If ?_
        refine e_icmp ?_
        refine r_name O (kd hc) (by rfl) ?_
        refine r_int O fun k1 s O => ?_
        refine lt_int ?_
        refine wpAny_truthy_bool ?_
        refine ite_dec (fun h1 => ?_) (fun h1 => wpAny_execs_nil ⟨O, by lia⟩)
        rw [fm, show i.toNat = 0 by lia, be_zero, okT, show decide (0 ≤ i) = false from decide_eq_false (by lia)] at fin
        refine k_ret ?_
        refine e_tup ?_
        refine e_more ?_
        refine r_bool ?_
        refine e_more ?_
        refine r_bytes O fun k1 s O => ?_
        refine spliced_none ?_
        exact fin O (fun _ _ e => e) (.s _ _)
      obtain ⟨z, rfl⟩ := Int.eq_ofNat_of_zero_le g3
      rw [fm, Int.toNat_natCast, okT, show decide (0 ≤ (z : Int)) = true from decide_eq_true g3] at fin
      have lim : (be z).length ≤ 40 := be_len 40 z hsm
      refine k_asg ?_
      refine e_lst ?_
      refine spliced_none ?_
      refine r_newList O (sz_small (by simp)) fun a s O => ?_
      refine r_store O (kd hc) fun s O => ?_
      refine e_cons ?_
      refine wpAny_mono (E := ESt G c NoE) ?_ (fun _ _ h => h) fun e s' h => ?_
      rotate_left
      · obtain ⟨x, st', h1, h2, h3, h4⟩ := h; exact (h4 0).elim
      refine r_while (J5w I a z) z O B.f ⟨[], 0, tk, [], rfl, rfl, .nil, by simp⟩ fun k st s hJ O' => ?_
      cases hJ with | @mk m vs n tk ds m1 m2 hi hbe =>
      have hds : ds.length ≤ 40 := by have := congrArg List.length hbe; rw [List.length_append] at this; lia
      have vlen : vs.length = ds.length := by rw [hi.length, List.length_map]
      refine e_icmp ?_
      refine r_name (c := c.re I) O' (kd hc) m1 ?_
      refine r_int O' fun t s O' => ?_
      refine gt_int ?_
      refine wpAny_truthy_bool ?_
      refine ite_dec (fun h1 => ?_) (fun h1 => ?_)
      · refine e_cons ?_
        refine r_expr (c := c.re I) O' ?_
        refine e_meth ?_
        refine r_name (c := c.re I) O' (kd hc) m2 ?_
        refine r_getML PySem.F.slot_list_insert PySem.F.type_list_insert (O'.wr _ (.head _)) ?_
        refine c_m1 ?_
        refine e_more ?_
        refine r_int O' fun t s O' => ?_
        refine e_more ?_
        refine e_bin ?_
        refine r_name (c := c.re I) O' (kd hc) m1 ?_
        refine r_int O' fun t s O' => ?_
        refine r_mod O' (by decide) fun t s O' => ?_
        refine spliced_none ?_
        refine r_insert0 (W1 := []) (W2 := []) O' (by lia) fun s n' O' => ?_
        refine k_asg ?_
        refine e_bin ?_
        refine r_name (c := c.re I) O' (kd hc) m1 ?_
        refine r_int O' fun t s O' => ?_
        refine r_fdiv O' (by decide) fun t5 s O' => ?_
        refine r_store (c := c.re I) (l := []) O' (kd hc) fun s O' => ?_
        refine wpAny_execs_nil ?_
        have hk0 : k ≠ 0 := by lia
        refine ⟨k / 256, _, by lia, ?_, O'⟩
        refine J5w.mk (a := a) _ n' t5 ((k % 256) :: ds) ?_ ?_ ?_ ?_
        · rfl
        · exact m2
        · exact .cons _ _ hi
        · rw [← hbe, be_pos hk0]; simp
      · have hk : k = 0 := by lia
        subst hk
        rw [be_zero, List.nil_append] at hbe
        subst hbe
        have O := O.unre rfl O'
        refine k_ret ?_
        refine e_tup ?_
        refine e_more ?_
        refine r_bool ?_
        refine e_more ?_
        refine e_call ?_
        refine r_blt O (kd hc) (kn hK) PyProof.Rows.Boot.«bytes» ?_
        refine c_t1 ?_
        refine k_arg O (kd hc) m2 ?_
        refine spliced_none ?_
        refine r_bytesOf O (O.wr _ (.head _)) hi (fun y hy => ?_) (by rw [List.length_map]; lia) B.h fun t s O => ?_
        · obtain ⟨x, hx, rfl⟩ := List.mem_map.mp hy
          have := be_lt z x hx; lia
        have e : ((be z).map fun (x : Nat) => (x : Int)).map (fun n : Int => n.toNat.toUInt8) = bytesOf (be z) := by
          rw [List.map_map]; rfl
        rw [e]
        refine spliced_none ?_
        exact fin O (fun _ _ e => e) (.s _ _)
    refine r_guard O (isSq t = true) ?_ fun s O g3 => ?_
    · refine wpAny_If ?_
      refine isTrue_not ?_
      refine e_plain ?_
      refine k_isT O hr (kd hc) (kn hK) (kd hc) (by rfl) (kd hc) (kn hK) PyProof.Rows.Boot.«list» (kd hc) (kn hK) PyProof.Rows.Boot.«tuple» (kSq t) fun s O => ?_
      refine wpAny_truthy_bool ?_
      refine ite_b (fun hb => ?_) (fun hb => wpAny_execs_nil ⟨O, by simpa using hb⟩)
      have e0 : t = .no := by cases t <;> first | rfl | (cases g0; done) | (cases g1; done) | (cases g2; done) | (cases hb; done)
      subst e0
      refine k_ret ?_
      refine e_tup ?_
      refine e_more ?_
      refine r_bool ?_
      refine e_more ?_
      refine r_bytes O fun k1 s O => ?_
      refine spliced_none ?_
      exact fin O (fun _ _ e => e) (.s _ _)
    obtain ⟨kt, ts, rfl⟩ : ∃ k ts, t = .sq k ts := by
      cases t <;> first | exact ⟨_, _, rfl⟩ | (cases g3; done)
    cases hr with
    | @sq a _ vs nn _ e r =>
    have lent := r.length
    rw [fm, It.dp] at hn
    rw [fm, It.sz] at hz
    rw [fm, okT] at fin
    have hvl := szL_pos ts
    refine e_cons ?_
    refine r_compA (kd := kt) (E₁ := NoE) B.f (fun e s h => by obtain ⟨x, st', h1, h2, h3, h4⟩ := h; exact (h4 0).elim) (fun i I' W' ys => W' = [] ∧ FoL I' ys (ts.take i)) B.h (.inl rfl) (kd hc) (by rfl) e (by lia) (kd hc) (swaps_yes rfl O.block (kd hc) (by rfl) (by rfl)) (by rfl) (by rfl) (by rfl) (by rfl) (by rfl) O ⟨rfl, .nil⟩ (fun i v C oC D k I' W' Wi ys s hi hJ hyl hsub O hC => ?_) (fun D I' W' ys k s hJ hyl hsub O => ?_)
    · obtain ⟨rfl, hJ⟩ := hJ
      obtain ⟨mC, nsC, hmC⟩ := hC
      obtain ⟨t, ht, hrt⟩ := r.get hi
      obtain ⟨h2, h1⟩ := szL_get ht
      refine tests_nil ?_
      rw [if_pos rfl]
      refine e_call ?_
      refine r_cglob O (by rfl) (by rfl) (kn hK) ?_
      refine r_def (kk hK (by k_is)) ?_
      refine e_more ?_
      refine r_cname (O.wr (C, oC) (.head _)) nsC (by rfl) (by rfl) hmC ?_
      refine spliced_none ⟨O.In, ?_⟩
      refine r_pure O B ((form_spec hK n t (by lia) (by lia) (smL_get hsm ht) (hrt.mono hsub) fun I2 r2 hs2 hf s O _ => ?_).le (by lia) (by lia))
      exact ⟨I2, [], ⟨rfl, by rw [List.take_add_one, ht]; exact (hJ.mono hs2).snoc hf⟩, hs2, O⟩
    obtain ⟨rfl, hJ⟩ := hJ
    rw [lent, List.take_length] at hJ
    have n1 := O.wI _ (.head _)
    have O := O.fix
    have n1 := sub_fix (o := lst ys k) n1
    have hJ := hJ.mono n1
    have hD : (fun a => if a = D then some (lst ys k) else I' a) D = some (sqO false ys k) := if_pos rfl
    have hs1 : ∀ a o, I a = some o → (fun a => if a = D then some (lst ys k) else I' a) a = some o := fun a o e => n1 _ _ (hsub _ _ e)
    generalize (fun a => if a = D then some (lst ys k) else I' a) = I1 at O hJ hD hs1
    have lenf := hJ.length
    refine k_ret ?_
    refine e_tup ?_
    refine e_more ?_
    refine e_cmp ?_
    refine r_compS (kd := false) (E₁ := NoE) B.f (fun e s h => by obtain ⟨x, st', h1, h2, h3, h4⟩ := h; exact (h4 0).elim) (fun i I2 W' zs => W' = [] ∧ I1 = I2 ∧ (zs = [] ↔ okL (ts.take i) = true)) B.h (.inl rfl) (kd hc) (by rfl) hD (by lia) (by rfl) (by rfl) (by rfl) (by rfl) (by rfl) O ⟨rfl, rfl, by simp [okL]⟩ (fun i v C oC D2 k2 I2 W' Wi zs s hi hJ2 hyl hsub O hC => ?_) (fun D2 I2 W' zs k2 s hJ2 hyl hsub O => ?_)
    · obtain ⟨rfl, rfl, hJ2⟩ := hJ2
      obtain ⟨mC, nsC, hmC⟩ := hC
      obtain ⟨t, ht, hf⟩ := hJ.get hi
      cases hf with | @mk p fv _ ep rf =>
      have htk : okL (ts.take (i + 1)) = (okL (ts.take i) && okT t) := by rw [List.take_add_one, ht, okL_append]; simp [okL]
      refine tests_one ?_
      refine isTrue_not ?_
      refine e_plain ?_
      refine e_sub ?_
      refine r_cname (O.wr (C, oC) (.head _)) nsC (by rfl) (by rfl) hmC ?_
      refine r_int O fun k3 s O => ?_
      refine r_itemT (O.im _ _ ep) (by simp) (by decide) (by rfl) ?_
      refine wpAny_truthy_bool ?_
      cases hot : okT t with
      | true =>
        rw [hot, Bool.and_true] at htk
        exact ite_f ⟨_, [], ⟨rfl, rfl, by rw [htk]; exact hJ2⟩, fun _ _ e => e, O⟩
      | false =>
        rw [hot, Bool.and_false] at htk
        refine ite_t ?_
        refine r_cname (O.wr (C, oC) (.head _)) nsC (by rfl) (by rfl) hmC ?_
        exact ⟨_, [], ⟨rfl, rfl, by rw [htk]; simp⟩, fun _ _ e => e, O⟩
    obtain ⟨rfl, rfl, hJ2⟩ := hJ2
    rw [lenf, List.take_length] at hJ2
    refine e_lst ?_
    refine spliced_none ?_
    refine r_newList O (sz_small (by simp)) fun D3 s O => ?_
    refine r_eqNil (by have := B.u; lia) (O.wr (D2, lst zs k2) (.tail _ (.head _))) (O.wr (D3, lst [] 0) (.head _)) ?_
    have O := O.drop (W1 := [(D3, _), (D2, _)])
    rw [show decide (zs = []) = okL ts by rw [Bool.eq_iff_iff, decide_eq_true_iff]; exact hJ2]
    refine e_more ?_
    refine r_compS (kd := false) (E₁ := NoE) B.f (fun e s h => by obtain ⟨x, st', h1, h2, h3, h4⟩ := h; exact (h4 0).elim) (fun i I3 W' zs => W' = [] ∧ I1 = I3 ∧ RepL I1 zs (fmL (ts.take i))) B.h (.inl rfl) (kd hc) (by rfl) hD (by lia) (by rfl) (by rfl) (by rfl) (by rfl) (by rfl) O ⟨rfl, rfl, .nil⟩ (fun i v C oC D2 k2 I3 W' Wi zs s hi hJ2 hyl hsub O hC => ?_) (fun D2 I3 W' zs k2 s hJ2 hyl hsub O => ?_)
    · obtain ⟨rfl, rfl, hJ2⟩ := hJ2
      obtain ⟨mC, nsC, hmC⟩ := hC
      obtain ⟨t, ht, hf⟩ := hJ.get hi
      cases hf with | @mk p fv _ ep rf =>
      refine tests_nil ?_
      rw [if_pos rfl]
      refine e_sub ?_
      refine r_cname (O.wr (C, oC) (.head _)) nsC (by rfl) (by rfl) hmC ?_
      refine r_int O fun k3 s O => ?_
      refine r_itemT (v := fv) (O.im _ _ ep) (by simp) (by decide) (by rfl) ?_
      exact ⟨_, [], ⟨rfl, rfl, by rw [List.take_add_one, ht, fmL_append]; exact hJ2.snoc rf⟩, fun _ _ e => e, O⟩
    obtain ⟨rfl, rfl, hJ2⟩ := hJ2
    rw [lenf, List.take_length] at hJ2
    have n2 := O.wI _ (.head _)
    have O := O.fix
    refine spliced_none ?_
    exact fin O (fun a o e => sub_fix n2 _ _ (hs1 _ _ e)) (.l (if_pos rfl) (hJ2.mono (sub_fix n2)))
end
section
open PySem.Builtin
section
variable {prog : Program} {w : World} {A : Around} {E : VP} {s : Shared}
theorem letGo_zip {elts : List PySem.Expr} {x1} {pos : Pos} {z TI TO T : Addr} {Q : Unit → Shared → Prop} (hz : IsZip s.heap z TI TO (rawInt T))
    (hQ : ∀ h', IsZip h' z TI TO .none → Heap.SameBut z s.heap h' → Q () { s with heap := h' }) :
    wpAny (model prog w) A (letOwnedTupleGo (.Tuple elts x1 pos) (.ref z) (.ref T)) Q E s := by
  unfold letOwnedTupleGo
  refine wpAny_bind (wpAny_load hz ?_)
  show wpAny _ A (if (["enumerate", "zip", "dict_itemiterator", "dict_reverseitemiterator", "odict_iterator", "itertools.zip_longest", "itertools.pairwise"].contains "zip" &&
      (#[rawInt T, .bool false, .bool false, .ref TI, .ref TO] : Array Value)[0]? == some (rawInt T)) = true then _ else _) Q E s
  rw [if_pos (by simp)]
  refine wpAny_bind (wpAny_rule ?_)
  show wpAny _ A (setField (.ref z) 0 .none) Q E s
  exact wpAny_setField_rec hz (by simp) fun h' he' hs' => hQ h' he' hs'
end
variable {G : Base} {c : Fm} {st : St} {s : Shared} {A : Around}
set_option maxHeartbeats 1000000 in
inductive LoopZ (G : Base) (c : Fm) (p : ZP) (wr : List Addr) (J : Nat → St → Prop) (k : Nat) (s' : Shared) : Prop
  | mk (i : Nat) (st' : St) (Wi' : Ws) (h1 : k = p.xs.length + 1 - i) (h2 : i ≤ p.xs.length) (h3 : IsZip s'.heap p.z p.TI p.TO .none) (h4 : p.At i s'.heap) (h5 : J i st') (h6 : Wi'.map Prod.fst = wr) (h7 : Ok G c ⟨st'.m, st'.I, Wi' ++ st'.W⟩ s') : LoopZ G c p wr J k s'
theorem loop_z {xa xb : Str} {pa pb p1 : Pos} {k1 : Nat} {body : List Stmt} {p : ZP} {Wi W0 : Ws} {m : Mp} {I : Hp} {R : Result → Shared → Prop}
    (J : Nat → St → Prop) (D : p.ap) (hh : A.handled = none)
    (hxa : c.env.kindOf xa = some .local) (hxb : c.env.kindOf xb = some .local) (hl1 : I p.l1 = some (sqO p.k1 p.xs p.n1)) (hl2 : I p.l2 = some (sqO p.k2 p.ys p.n2)) (hn : p.xs.length = p.ys.length)
    (O : Ok G c ⟨m, I, Wi ++ W0⟩ s) (hWi : Wi.map Prod.fst = [p.z, p.TI, p.TO, p.i1, p.i2]) (hw0 : ∀ b ∈ [p.z, p.TI, p.TO, p.i1, p.i2], b ∉ c.W0)
    (hz : IsZip s.heap p.z p.TI p.TO .none) (hZ : p.At 0 s.heap) (j0 : J 0 ⟨m, I, W0⟩)
    (turn : ∀ i x y st' Wi' s', p.xs[i]? = some x → p.ys[i]? = some y → J i st' → Ok G (c.re I) ⟨ov [(xb, y), (xa, x)] st'.m, st'.I, Wi' ++ st'.W⟩ s' →
      wpAny (model G.prog G.w) A (execs body c.env) (fun f s3 => f = .next ∧ ∃ st3, J (i + 1) st3 ∧ Ok G (c.re I) ⟨st3.m, st3.I, Wi' ++ st3.W⟩ s3) (fun _ _ => False) s')
    (done : ∀ st' s', J p.xs.length st' → Ok G (c.re I) st' s' → R (.ok .next) s') :
    codeAny (model G.prog G.w) A (.forLoop (.Tuple [.Name xa pa, .Name xb pb] k1 p1) (.ref p.z) body [] c.env) R s := by
  refine codeAny_forLoop_any (LoopZ G (c.re I) p [p.z, p.TI, p.TO, p.i1, p.i2] J) ?_ (p.xs.length + 1)
    ⟨0, ⟨m, I, W0⟩, Wi, rfl, Nat.zero_le _, hz, hZ, j0, hWi, O.re⟩
  rintro k s' ⟨i, st', Wi', rfl, hi, hz', Z, hj, hw, O'⟩
  by_cases hlt : i < p.xs.length
  · have hx : p.xs[i]? = some p.xs[i] := by simp [hlt]
    have hy : p.ys[i]? = some (p.ys[i]'(hn ▸ hlt)) := by simp [hn ▸ hlt]
    refine pyNext_zip D hz' Z hx hy fun h1 hz1 Z1 hT1 hsz1 hk1 => ?_
    refine letGo_zip hz1 fun h3 hz3 hs3 => ?_
    dsimp only at hs3 ⊢
    have zlt : p.z < s'.heap.objs.size := Heap.lt_size hz'
    have up : ∀ b o, b ∉ [p.z, p.TI, p.TO, p.i1, p.i2] → s'.heap.get? b = some o → h3.get? b = some o := fun b o hb q => by
      simp only [List.mem_cons, List.not_mem_nil, or_false, not_or] at hb
      exact hs3.extBut _ _ hb.1 (hk1 _ _ hb.1 hb.2.2.1 hb.2.2.2.1 hb.2.2.2.2 q)
    have nz : ∀ b ∈ [p.TI, p.TO, p.i1, p.i2, p.l1, p.l2], b ≠ p.z := fun b hb q => by
      simp only [List.mem_cons, List.not_mem_nil, or_false] at hb
      rcases hb with rfl | rfl | rfl | rfl | rfl | rfl <;> first | exact D.TIz q | exact D.TOz q | exact D.i1z q | exact D.i2z q | exact D.l1z q | exact D.l2z q
    have up1 : ∀ b o, b ≠ p.z → h1.get? b = some o → h3.get? b = some o := fun b o hb q => hs3.extBut _ _ hb q
    have Z3 : p.At (i + 1) h3 := by
      obtain ⟨hTI, ⟨a, b, hTO⟩, a1, a2, b1, b2⟩ := Z1
      exact ⟨up1 _ _ (nz _ (by simp)) hTI, ⟨a, b, up1 _ _ (nz _ (by simp)) hTO⟩, a1.at fun o e => up1 _ _ (nz _ (by simp)) e, a2.at fun o e => up1 _ _ (nz _ (by simp)) e, up1 _ _ (nz _ (by simp)) b1, up1 _ _ (nz _ (by simp)) b2⟩
    have live : ∀ b ∈ [p.z, p.TI, p.TO, p.i1, p.i2], ∃ o, h3.get? b = some o := fun b hb => by
      obtain ⟨hTI, ⟨a, b', hTO⟩, ⟨o1, q1, _⟩, ⟨o2, q2, _⟩, _, _⟩ := Z3
      simp only [List.mem_cons, List.not_mem_nil, or_false] at hb
      rcases hb with rfl | rfl | rfl | rfl | rfl
      · exact ⟨_, hz3⟩
      · exact ⟨_, hTI⟩
      · exact ⟨_, hTO⟩
      · exact ⟨_, q1⟩
      · exact ⟨_, q2⟩
    obtain ⟨Wi2, hw2, O2⟩ := Ok.iter (st' := st') (s'' := { s' with heap := h3 }) O' hw live up rfl rfl
    have gT : h3.get? s'.heap.objs.size = some (tup [p.xs[i], p.ys[i]'(hn ▸ hlt)]) := up1 _ _ (Nat.ne_of_gt zlt) hT1
    refine r_unpack (c := c.re I) O2 gT hh (by rfl) (by rfl) fun s4 O4 => ?_
    refine assignInOrder_cons (wpAny_assign_Name (r_store (c := c.re I) (l := []) (m := st'.m) O4 hxa fun s7 O7 => ?_))
    refine assignInOrder_cons (wpAny_assign_Name (r_store (c := c.re I) O7 hxb fun s8 O8 => ?_))
    refine assignInOrder_nil ?_
    refine wpAny_mono (turn i _ _ st' Wi2 s8 hx hy hj O8) (fun f s9 hf => ?_) fun _ _ h => h.elim
    obtain ⟨rfl, st3, hj3, O9⟩ := hf
    have keep : ∀ b ∈ [p.z, p.TI, p.TO, p.i1, p.i2], ∀ o, h3.get? b = some o → s9.heap.get? b = some o := fun b hb o q => by
      rw [← hw2] at hb
      obtain ⟨r, hp, rfl⟩ := List.mem_map.mp hb
      have e1 : h3.get? r.1 = some r.2 := O2.wr r (List.mem_append_left _ hp)
      rw [q] at e1; cases e1
      exact O9.wr r (List.mem_append_left _ hp)
    refine ⟨p.xs.length + 1 - (i + 1), lt_dec (Nat.lt_succ_of_lt hlt), i + 1, st3, Wi2, rfl, hlt, keep _ (.head _) _ hz3, ?_, hj3, hw2, O9⟩
    refine Z3.keep fun b hb o q => ?_
    simp only [List.mem_cons, List.not_mem_nil, or_false] at hb
    rcases hb with rfl | rfl | rfl | rfl | rfl | rfl | rfl
    · exact keep _ (by simp) _ q
    · exact keep _ (by simp) _ q
    · exact keep _ (by simp) _ q
    · exact keep _ (by simp) _ q
    · exact keep _ (by simp) _ q
    · have e3 : h3.get? p.l1 = some _ := O2.im _ _ (O2.sub _ _ hl1)
      rw [q] at e3; cases e3
      exact O9.im _ _ (O9.sub _ _ hl1)
    · have e3 : h3.get? p.l2 = some _ := O2.im _ _ (O2.sub _ _ hl2)
      rw [q] at e3; cases e3
      exact O9.im _ _ (O9.sub _ _ hl2)
  · have hin : i = p.xs.length := by lia
    subst hin
    refine pyEnd_zip hh D hz' Z (by simp) fun h' hk => wpAny_execs_nil ?_
    have O2 := Ok.dropWi (s' := { s' with heap := h' }) O' hw hw0 (fun b o hb q => by
      simp only [List.mem_cons, List.not_mem_nil, or_false, not_or] at hb
      exact hk _ _ hb.1 hb.2.2.1 hb.2.2.2.1 hb.2.2.2.2 q) rfl rfl
    exact done st' _ hj O2
end
section
open PyProof.Rows.LCg (NsObj ns_obj)
variable {G : Base} {c : Fm} {st : St} {s : Shared} {A : Around}
set_option maxHeartbeats 0 in
theorem value_spec (hK : G.K = KK G.w.params) : ∀ (n : Nat) (t : Th), (fm t).dp < n → (fm t).sz ≤ 8000000 → ∀ {v : Value} {I : Hp} {Q : Value → Hp → Ws → Prop} {E : Ex → Hp → Ws → Prop}, RepT I v t →
    (∀ I' r, (∀ a o, I a = some o → I' a = some o) → RepT I' r (valT t) → Q r I' []) → Cl G (.ref 1787) [v] none (n + 5 + 1) (3 * n + 20 + 3) I [] Q E
  | 0, _, h => absurd h (by lia)
  | n + 1, t, hn => by
    intro hz v I Q E hr hq
    refine enterK (binds := [("thing", v)]) (kl hK) (kc hK) (by rfl) (by rfl) (by rfl) (by rfl) (by rfl) (by rfl) fun c A s hc O B => ?_
    refine r_guard O (isSq t = false) ?_ fun s O g0 => ?_
    · refine wpAny_If ?_
      refine e_plain ?_
      refine k_isT O hr (kd hc) (kn hK) (kd hc) (by rfl) (kd hc) (kn hK) PyProof.Rows.Boot.«list» (kd hc) (kn hK) PyProof.Rows.Boot.«tuple» (kSq t) fun s O => ?_
      refine wpAny_truthy_bool ?_
      refine ite_b (fun hb => ?_) (fun hb => wpAny_execs_nil ⟨O, hb⟩)
      obtain ⟨kt, ts, rfl⟩ : ∃ k ts, t = .sq k ts := by
        cases t <;> first | exact ⟨_, _, rfl⟩ | (cases hb; done)
      cases hr with
      | @sq a _ vs nn _ e r =>
      have lent := r.length
      rw [fm, It.dp] at hn
      rw [fm, It.sz] at hz
      have hvl := szL_pos ts
      refine k_ret ?_
      refine e_call ?_
      refine r_blt O (kd hc) (kn hK) PyProof.Rows.Boot.«tuple» ?_
      refine c_t1 ?_
      refine e_more ?_
      refine r_compS (kd := kt) (E₁ := NoE) B.f (fun e s h => by obtain ⟨x, st', h1, h2, h3, h4⟩ := h; exact (h4 0).elim) (fun i I' W' ys => W' = [] ∧ RepTL I' ys (valL (ts.take i))) B.h (.inl rfl) (kd hc) (by rfl) e (by lia) (by rfl) (by rfl) (by rfl) (by rfl) (by rfl) O ⟨rfl, .nil⟩ (fun i v C oC D k I' W' Wi ys s hi hJ hyl hsub O hC => ?_) (fun D I' W' ys k s hJ hyl hsub O => ?_)
      · obtain ⟨rfl, hJ⟩ := hJ
        obtain ⟨mC, nsC, hmC⟩ := hC
        obtain ⟨t, ht, hrt⟩ := r.get hi
        obtain ⟨h2, h1⟩ := szL_get ht
        refine tests_nil ?_
        rw [if_pos rfl]
        refine e_call ?_
        refine r_cglob O (by rfl) (by rfl) (kn hK) ?_
        refine r_def (kk hK (by k_is)) ?_
        refine e_more ?_
        refine r_cname (O.wr (C, oC) (.head _)) nsC (by rfl) (by rfl) hmC ?_
        refine spliced_none ⟨O.In, ?_⟩
        refine r_pure O B ((value_spec hK n t (by lia) (by lia) (hrt.mono hsub) fun I2 r2 hs2 hf s O _ => ?_).le (by lia) (by lia))
        exact ⟨I2, [], ⟨rfl, by rw [List.take_add_one, ht, valL_append]; exact (hJ.mono hs2).snoc hf⟩, hs2, O⟩
      obtain ⟨rfl, hJ⟩ := hJ
      rw [lent, List.take_length] at hJ
      have hl := hJ.length
      rw [valL_len] at hl
      refine spliced_none ?_
      refine r_tupleOf O (O.wr _ (.head _)) (by lia) fun tu s O => ?_
      have n1 := O.wI _ (.head _)
      have O := O.fix
      exact ⟨_, _, _, O.drop (W1 := [(D, _)]) (W := []), hq _ _ (fun a o e => sub_fix n1 _ _ (hsub _ _ e)) (.sq (k := true) (nn := 0) (if_pos rfl) (hJ.mono (sub_fix n1)))⟩
    refine k_ret ?_
    refine IfExp_ ?_
    refine e_plain ?_
    refine k_is1 O hr (kd hc) (kn hK) (kd hc) (by rfl) (kd hc) (kn hK) PyProof.Rows.Boot.«bytearray» (kBa t) fun s O => ?_
    refine wpAny_truthy_bool ?_
    refine ite_b (fun hb => ?_) (fun hb => ?_)
    · cases t <;> first | (cases hb; done) | skip
      cases hr with | ba ea =>
      rw [fm, It.sz] at hz
      refine e_call ?_
      refine r_blt O (kd hc) (kn hK) PyProof.Rows.Boot.«bytes» ?_
      refine c_t1 ?_
      refine k_arg O (kd hc) (by rfl) ?_
      refine spliced_none ?_
      refine BA.bytes_of (.a (O.im _ _ ea)) (by lia) fun k1 k2 => ?_
      exact ⟨_, I, _, O.toks, hq I _ (fun _ _ e => e) (.o _ _)⟩
    · refine r_name O (kd hc) (by rfl) ?_
      refine ⟨_, I, _, O, hq I _ (fun _ _ e => e) ?_⟩
      cases t <;> first | exact hr | (cases hb; done) | (cases g0; done)
set_option maxHeartbeats 0 in
theorem plain_spec (hK : G.K = KK G.w.params) {hd : Option Value} : ∀ (n : Nat) (t : Th), (fm t).dp < n → (fm t).sz ≤ 8000000 → ∀ {v : Value} {I : Hp} {Q : Value → Hp → Ws → Prop} {E : Ex → Hp → Ws → Prop}, RepT I v t → HdH hd I →
    Q (.bool (plT t)) I [] → Cl G (.ref 1792) [v] hd (n + 5 + 1) (3 * n + 20 + 3) I [] Q E
  | 0, _, h => absurd h (by lia)
  | n + 1, t, hn => by
    intro hz v I Q E hr H hq
    refine enterK (binds := [("thing", v)]) (kl hK) (kc hK) (by rfl) (by rfl) (by rfl) (by rfl) (by rfl) (by rfl) fun c A s hc O B => ?_
    refine r_guard O (isSq t = false) ?_ fun s O g0 => ?_
    · refine wpAny_If ?_
      refine e_plain ?_
      refine k_isT O hr (kd hc) (kn hK) (kd hc) (by rfl) (kd hc) (kn hK) PyProof.Rows.Boot.«list» (kd hc) (kn hK) PyProof.Rows.Boot.«tuple» (kSq t) fun s O => ?_
      refine wpAny_truthy_bool ?_
      refine ite_b (fun hb => ?_) (fun hb => wpAny_execs_nil ⟨O, hb⟩)
      obtain ⟨kt, ts, rfl⟩ : ∃ k ts, t = .sq k ts := by
        cases t <;> first | exact ⟨_, _, rfl⟩ | (cases hb; done)
      cases hr with
      | @sq a _ vs nn _ e r =>
      have lent := r.length
      rw [fm, It.dp] at hn
      rw [fm, It.sz] at hz
      rw [plT] at hq
      have hvl := szL_pos ts
      refine k_ret ?_
      refine e_cmp ?_
      refine r_compS (kd := kt) (E₁ := NoE) B.f (fun e s h => by obtain ⟨x, st', h1, h2, h3, h4⟩ := h; exact (h4 0).elim) (fun i I2 W' zs => W' = [] ∧ I = I2 ∧ (zs = [] ↔ plL (ts.take i) = true)) B.h H (kd hc) (by rfl) e (by lia) (by rfl) (by rfl) (by rfl) (by rfl) (by rfl) O ⟨rfl, rfl, by simp [plL]⟩ (fun i v C oC D2 k2 I2 W' Wi zs s hi hJ2 hyl hsub O hC => ?_) (fun D2 I2 W' zs k2 s hJ2 hyl hsub O => ?_)
      · obtain ⟨rfl, rfl, hJ2⟩ := hJ2
        obtain ⟨mC, nsC, hmC⟩ := hC
        obtain ⟨t, ht, hrt⟩ := r.get hi
        obtain ⟨h2, h1⟩ := szL_get ht
        have htk : plL (ts.take (i + 1)) = (plL (ts.take i) && plT t) := by rw [List.take_add_one, ht, plL_append]; simp [plL]
        refine tests_one ?_
        refine isTrue_not ?_
        refine e_plain ?_
        refine e_call ?_
        refine r_cglob O (by rfl) (by rfl) (kn hK) ?_
        refine r_def (kk hK (by k_is)) ?_
        refine e_more ?_
        refine r_cname (O.wr (C, oC) (.head _)) nsC (by rfl) (by rfl) hmC ?_
        refine spliced_none ⟨O.In, ?_⟩
        refine r_pure O B ((plain_spec hK n t (by lia) (by lia) hrt H fun s O _ => ?_).le (by lia) (by lia))
        refine wpAny_truthy_bool ?_
        cases hot : plT t with
        | true =>
          rw [hot, Bool.and_true] at htk
          exact ite_f ⟨_, [], ⟨rfl, rfl, by rw [htk]; exact hJ2⟩, fun _ _ e => e, O⟩
        | false =>
          rw [hot, Bool.and_false] at htk
          refine ite_t ?_
          refine r_cname (O.wr (C, oC) (.head _)) nsC (by rfl) (by rfl) hmC ?_
          exact ⟨_, [], ⟨rfl, rfl, by rw [htk]; simp⟩, fun _ _ e => e, O⟩
      obtain ⟨rfl, rfl, hJ2⟩ := hJ2
      rw [lent, List.take_length] at hJ2
      refine e_lst ?_
      refine spliced_none ?_
      refine r_newList O (sz_small (by simp)) fun D3 s O => ?_
      refine r_eqNil (by have := B.u; lia) (O.wr (D2, lst zs k2) (.tail _ (.head _))) (O.wr (D3, lst [] 0) (.head _)) ?_
      rw [show decide (zs = []) = plL ts by rw [Bool.eq_iff_iff, decide_eq_true_iff]; exact hJ2]
      exact ⟨_, I, _, O.drop (W1 := [(D3, _), (D2, _)]), hq⟩
    refine k_ret ?_
    refine k_isT O hr (kd hc) (kn hK) (kd hc) (by rfl) (kd hc) (kn hK) PyProof.Rows.Boot.«bytes» (kd hc) (kn hK) PyProof.Rows.Boot.«bytearray» (kBy t) fun s O => ?_
    refine ⟨_, I, _, O, ?_⟩
    have e : plT t = isBy t := by cases t <;> first | rfl | (cases g0; done)
    rw [e] at hq
    exact hq
theorem serL_get : ∀ {ts : List Th} {i : Nat} {t : Th}, (serL ts)[i]? = some t → ∃ t0, ts[i]? = some t0 ∧ serT t0 = t
  | [], _, _, h => by rw [serL] at h; simp at h
  | t0 :: _, 0, _, h => by rw [serL] at h; simp at h; exact ⟨t0, rfl, h⟩
  | _ :: ts, i + 1, _, h => by rw [serL] at h; simp at h; simpa using serL_get h
theorem valL_get : ∀ {ts : List Th} {i : Nat} {t : Th}, (valL ts)[i]? = some t → ∃ t0, ts[i]? = some t0 ∧ valT t0 = t
  | [], _, _, h => by rw [valL] at h; simp at h
  | t0 :: _, 0, _, h => by rw [valL] at h; simp at h; exact ⟨t0, rfl, h⟩
  | _ :: ts, i + 1, _, h => by rw [valL] at h; simp at h; simpa using valL_get h
set_option maxHeartbeats 0 in
theorem same_spec (hK : G.K = KK G.w.params) : ∀ (n : Nat) (t : Th), (fm t).dp < n → (fm t).sz ≤ 8000000 → okT t = true → ∀ {v w : Value} {I : Hp} {Q : Value → Hp → Ws → Prop} {E : Ex → Hp → Ws → Prop}, RepT I v (valT t) → RepT I w (valT t) →
    Q (.bool true) I [] → Cl G (.ref 1813) [v, w] none (n + 5 + 1) (3 * n + 20 + 3) I [] Q E
  | 0, _, h => absurd h (by lia)
  | n + 1, t, hn => by
    intro hz hok v w I Q E hr hr2 hq
    refine enterK (binds := [("one", v), ("other", w)]) (kl hK) (kc hK) (by rfl) (by rfl) (by rfl) (by rfl) (by rfl) (by rfl) fun c A s hc O B => ?_
    refine r_guard O (isSq t = false) ?_ fun s O g0 => ?_
    · refine wpAny_If ?_
      refine e_plain ?_
      refine k_is1 O hr2 (kd hc) (kn hK) (kd hc) (by rfl) (kd hc) (kn hK) PyProof.Rows.Boot.«tuple» (kTu _) fun s O => ?_
      refine wpAny_truthy_bool ?_
      refine ite_b (fun hb => ?_) (fun hb => wpAny_execs_nil ⟨O, by cases t <;> first | rfl | (cases hb; done)⟩)
      obtain ⟨kt, ts, rfl⟩ : ∃ k ts, t = .sq k ts := by
        cases t <;> first | exact ⟨_, _, rfl⟩ | (cases hb; done)
      rw [fm, It.dp] at hn
      rw [fm, It.sz] at hz
      rw [okT] at hok
      have hvl := szL_pos ts
      have hrA := hr
      rw [valT] at hr hr2
      cases hr with
      | @sq a _ vs nn _ e r =>
      cases hr2 with
      | @sq b _ ws mm _ e2 r2 =>
      have l1 := r.length
      have l2 := r2.length
      rw [valL_len] at l1 l2
      refine e_cons ?_
      refine r_if O False ?_ (fun s O g0 => g0.elim) (fun s O g0 => ?_)
      · skip
        refine e_or ?_
        refine isTrue_not ?_
        refine e_plain ?_
        refine k_is1 O hrA (kd hc) (kn hK) (kd hc) (by rfl) (kd hc) (kn hK) PyProof.Rows.Boot.«tuple» (kTu _) fun s O => ?_
        refine wpAny_truthy_bool ?_
        refine ite_f ?_
        refine e_or ?_
        refine e_icmp ?_
        refine e_call ?_
        refine r_blt O (kd hc) (kn hK) PyProof.Rows.Boot.«len» ?_
        refine c_b1 ?_
        refine k_arg O (kd hc) (by rfl) ?_
        refine spliced_none ?_
        refine r_lenS O (O.im _ _ e) (by lia) fun k1 s O => ?_
        refine e_call ?_
        refine r_blt O (kd hc) (kn hK) PyProof.Rows.Boot.«len» ?_
        refine c_b1 ?_
        refine k_arg O (kd hc) (by rfl) ?_
        refine spliced_none ?_
        refine r_lenS O (O.im _ _ e2) (by lia) fun k1 s O => ?_
        refine r_nei ?_
        refine wpAny_truthy_bool ?_
        refine ite_dec (fun q => absurd (by lia) q) (fun _ => ?_)
        exact isTrue_or_nil ⟨O, iff_no id⟩
      refine wpAny_execs_nil ?_
      have O0 := O
      refine e_cons ?_
      refine wpAny_For ?_
      refine e_call ?_
      refine r_blt O (kd hc) (kn hK) PyProof.Rows.Boot.«zip» ?_
      refine c_t1 ?_
      refine k_arg O (kd hc) (by rfl) ?_
      refine k_arg O (kd hc) (by rfl) ?_
      refine spliced_none ?_
      refine r_zip (k1 := true) (k2 := true) O e e2 fun z TI TO i1 i2 Wi s D hWi hw0 O hz' hZ => ?_
      refine wpAny_pyIter_zip hz' ?_
      refine loop_z (p := ⟨z, TI, TO, i1, i2, a, b, true, true, vs, ws, nn, mm⟩) (Wi := Wi) (W0 := []) (fun _ st => ∃ m, st = ⟨m, I, []⟩) D B.h (kd hc) (kd hc) e e2 (l1.trans l2.symm) O hWi hw0 hz' hZ ⟨_, rfl⟩ ?_ ?_
      · rintro i x y st Wi2 s hx hy ⟨m', rfl⟩ O
        dsimp only at O
        obtain ⟨t1, ht1, q1⟩ := r.get hx
        obtain ⟨t2, ht2, q2⟩ := r2.get hy
        rw [ht1] at ht2; cases ht2
        obtain ⟨t0, h0, rfl⟩ := valL_get ht1
        obtain ⟨hd1, hz1⟩ := szL_get h0
        have B' : Bud A none ((c.re I).env :: c.outer) (n + 6) (3 * n + 23) := B
        refine e_cons ?_
        refine r_if (c := c.re I) O False ?_ (fun s O g0 => g0.elim) (fun s O g0 => ?_)
        · skip
          refine isTrue_not ?_
          refine e_plain ?_
          refine k_def (c := c.re I) O (kd hc) (kn hK) (kk hK (by k_is)) ?_
          refine k_arg (c := c.re I) O (kd hc) (by rfl) ?_
          refine k_arg (c := c.re I) O (kd hc) (by rfl) ?_
          refine spliced_none ⟨O.In, ?_⟩
          refine r_pure (c := c.re I) O B' ((same_spec hK n t0 (by lia) (by lia) (okL_get hok h0) q1 q2 fun s O _ => ?_).le (by lia) (by lia))
          refine wpAny_truthy_bool ?_
          exact ⟨O, iff_no id⟩
        refine wpAny_execs_nil ?_
        refine wpAny_execs_nil ?_
        exact ⟨rfl, ⟨_, I, []⟩, ⟨_, rfl⟩, O⟩
      · rintro st s ⟨m', rfl⟩ O
        have O := Ok.unre (st := ⟨_, I, _⟩) O0 rfl O
        refine k_ret ?_
        refine r_bool ?_
        exact ⟨_, I, _, O, hq⟩
    refine k_ret ?_
    refine BoolOp_and ?_
    refine e_cmp ?_
    refine r_name O (kd hc) (by rfl) ?_
    refine r_name O (kd hc) (by rfl) ?_
    have eqv : ∀ (Q' : VP), Q' (.bool true) s → wpAny (model G.prog G.w) A (compareOp .Eq v w) Q' (EndX G c E) s := fun Q' h => by
      cases t with
      | no => cases hok
      | n i => cases hr; cases hr2; exact r_eqi (by simpa using h)
      | b x => cases hr; cases hr2; exact eq_bool (by simpa using h)
      | o x => cases hr; cases hr2; exact r_eqB (by simpa using h)
      | ba x => cases hr; cases hr2; exact r_eqB (by simpa using h)
      | sq k ts => cases g0
    refine eqv _ ?_
    refine wpAny_truthy_bool ?_
    refine ite_t ?_
    refine BoolOp_and ?_
    refine e_cmp ?_
    refine k_is1 O hr (kd hc) (kn hK) (kd hc) (by rfl) (kd hc) (kn hK) PyProof.Rows.Boot.«bool» (kBo _) fun s O => ?_
    refine k_is1 O hr2 (kd hc) (kn hK) (kd hc) (by rfl) (kd hc) (kn hK) PyProof.Rows.Boot.«bool» (kBo _) fun s O => ?_
    refine eq_bool ?_
    rw [beq_self_eq_true]
    refine wpAny_truthy_bool ?_
    refine ite_t ?_
    refine BoolOp_one ?_
    refine e_cmp ?_
    refine k_is1 O hr (kd hc) (kn hK) (kd hc) (by rfl) (kd hc) (kn hK) PyProof.Rows.Boot.«bytes» (kO _) fun s O => ?_
    refine k_is1 O hr2 (kd hc) (kn hK) (kd hc) (by rfl) (kd hc) (kn hK) PyProof.Rows.Boot.«bytes» (kO _) fun s O => ?_
    refine eq_bool ?_
    rw [beq_self_eq_true]
    exact ⟨_, I, _, O, hq⟩
end
section
open Sem (wp)
/-! a logic that knows that no code on the stack holds a bytearray -/
noncomputable def isDec : Code → Bool
  | .builtin id _ => Builtin.Bytes.decodersThatHold.contains id || ["bytearray.__contains__", "bytearray.__mod__", "bytearray.__rmod__", "_struct.pack_into.held", "bytearray.find.held"].contains id
  | _ => false
noncomputable def NoDec (l : List (Code × Pos)) : Prop := ∀ x ∈ l, isDec x.1 = false
noncomputable def wpN {α : Type} (M : Model) (A : Around) (t : Sem α) (Q : α → Shared → Prop) (E : VP) (s : Shared) : Prop :=
  ∀ Γ p, isDec Γ.code = false → NoDec Γ.below → Γ.In A → wp M Γ t (fun a _ s' => Q a s') (fun e _ s' => E e s') p s
noncomputable def codeN (M : Model) (A : Around) (c : Code) (R : Result → Shared → Prop) (s : Shared) : Prop :=
  ∀ Γ p, Γ.code = c → NoDec Γ.below → Γ.Below A → wpCode M Γ R p s
namespace N
section
variable {α β : Type} {M : Model} {A : Around} {E : VP} {s : Shared} {env : Env}
theorem any {t : Sem α} {Q : α → Shared → Prop} (h : wpAny M A t Q E s) : wpN M A t Q E s := fun Γ p _ _ hΓ => h Γ p hΓ
theorem codeAny {c : Code} {R : Result → Shared → Prop} (h : PySem.codeAny M A c R s) : codeN M A c R s := fun Γ p hc _ hΓ => h Γ p hc hΓ
theorem mono {t : Sem α} {Q Q' : α → Shared → Prop} {E' : VP} (h : wpN M A t Q E s) (hQ : ∀ a s, Q a s → Q' a s) (hE : ∀ e s, E e s → E' e s) : wpN M A t Q' E' s :=
  fun Γ p hd hb hΓ => Sem.wp_mono M Γ t (fun a _ s => hQ a s) (fun e _ s => hE e s) p s (h Γ p hd hb hΓ)
theorem pure {a : α} {Q : α → Shared → Prop} (h : Q a s) : wpN M A (Pure.pure a) Q E s := fun _ _ _ _ _ => h
theorem bind {m : Sem α} {f : α → Sem β} {Q : β → Shared → Prop} (h : wpN M A m (fun a s' => wpN M A (f a) Q E s') E s) : wpN M A (m >>= f) Q E s := fun Γ p hd hb hΓ => by
  rw [Sem.wp_bind']
  exact Sem.wp_mono M Γ m (fun a p' s' h' => h' Γ p' hd hb hΓ) (fun _ _ _ h' => h') p s (h Γ p hd hb hΓ)
theorem onRaise {m : Sem α} {k : Value → Sem Unit} {Q : α → Shared → Prop} (h : wpN M A m Q (fun e s' => wpAny M A (k e) (fun _ s'' => E e s'') E s') s) : wpN M A (m.onRaise k) Q E s := fun Γ p hd hb hΓ => by
  rw [Sem.wp_onRaise]
  exact Sem.wp_mono M Γ m (fun _ _ _ h' => h') (fun e p' s' h' => h' Γ p' hΓ) p s (h Γ p hd hb hΓ)
theorem holding {vs : List Value} {m : Sem α} {Q : α → Shared → Prop} (h : wpN M A m Q E s) : wpN M A (PySem.holding vs m) Q E s := fun Γ p hd hb hΓ => by rw [Sem.wp_holding]; exact h Γ p hd hb hΓ
theorem keep {vs : List Value} {m : Sem α} {Q : α → Shared → Prop} (h : wpN M A m Q E s) : wpN M A (m.keep vs) Q E s := fun Γ p hd hb hΓ => by rw [Sem.wp_keep]; exact h Γ p hd hb hΓ
theorem stack {Q : List (Code × Pos) → Shared → Prop} (h : ∀ st, NoDec st → Q st s) : wpN M A PySem.stack Q E s := fun Γ p hd hb _ => by
  unfold PySem.stack
  rw [Sem.wp_stack]
  refine h _ fun x hx => ?_
  rcases List.mem_cons.mp hx with rfl | hx
  · exact hd
  · exact hb x hx
theorem tree {c : Code} {R : Result → Shared → Prop} (hd : isDec c = false)
    (h : wpN M (A.under c) (M.den c) (fun fin s' => match fin with | .done f => R (.ok f) s' | .again c' => c'.quiet = true ∧ codeN M A c' R s') (fun e s' => R (.error e) s') s) : codeN M A c R s := fun Γ p hc hb hΓ => by
  rw [wpCode_iff_wp, hc]
  refine Sem.wp_mono M Γ _ (fun fin p' s' h' => ?_) (fun _ _ _ h' => h') p s (h Γ p (hc ▸ hd) hb (hc ▸ hΓ.in))
  cases fin with
  | done f => exact h'
  | again c' => exact ⟨h'.1, h'.2 (Γ.goto c') p' rfl hb (hΓ.goto c')⟩
theorem into {Γ : PySem.Ctx} {c : Code} {h : Option Value} {p : Pos} (hd : isDec Γ.code = false) (hb : NoDec Γ.below) : NoDec (Γ.enter c h p).below := fun x hx => by
  rcases List.mem_cons.mp (show x ∈ (Γ.code, p) :: Γ.below from hx) with rfl | hx
  · exact hd
  · exact hb x hx
theorem runValue {c : Code} {Q : VP} (hc : codeN M A c (fun r s' => match r with | .ok (.ret v) => Q v s' | .ok _ => False | .error e => E e s') s) : wpN M A (PySem.runValue c) Q E s :=
  fun Γ p hd hb hΓ => by rw [Sem.wp_runValue]; exact hc _ p rfl (into hd hb) (hΓ.enter c none p (by intro x; cases x))
theorem call {f : Value} {pos : List Value} {kw : List (Str × Value)} {Q : VP}
    (hc : codeN M A (.call f ⟨pos, kw⟩) (fun r s' => match r with | .ok (.ret v) => Q v s' | .ok _ => False | .error e => E e s') s) : wpN M A (PySem.call f pos kw) Q E s := runValue hc
theorem run {c : Code} {h : Option Value} {Q : Flow → Shared → Prop} (hc : codeN M (A.mark h) c (fun r s' => match r with | .ok f => Q f s' | .error e => E e s') s) (hnb : h ≠ some byPass := by intro x; cases x) : wpN M A (PySem.run c h) Q E s :=
  fun Γ p hd hb hΓ => by rw [Sem.wp_run]; exact hc _ p rfl (into hd hb) (hΓ.enter c h p hnb)
theorem runOwn {c : Code} {h : Option Value} {Q : Flow → Shared → Prop} (hc : codeN M (A.mark h) c (fun r s' => match r with | .ok f => Q f s' | .error e => cameBackBy M A env E e s') s) (hnb : h ≠ some byPass := by intro x; cases x) : wpN M A (PySem.runOwn c env h) Q E s := by
  unfold PySem.runOwn
  exact onRaise (run hc hnb)
noncomputable abbrev NN (M : Model) (A : Around) (rest : List Stmt) (env : Env) (Q : Flow → Shared → Prop) (E : VP) : Flow → Shared → Prop := fun f s' => match f with | .next => wpN M A (execs rest env) Q E s' | f => Q f s'
noncomputable abbrev NAQ (M : Model) (A : Around) (env : Env) (x : Str) (rest : List Stmt) (Q : Flow → Shared → Prop) (E : VP) : VP := fun v s => wpAny M A (storeName env x v) (fun _ s' => wpN M A (execs rest env) Q E s') E s
theorem execs_cons {st : Stmt} {rest : List Stmt} {Q : Flow → Shared → Prop} (h : wpN M A (exec st env) (NN M A rest env Q E) E s) :
    wpN M A (execs (st :: rest) env) Q E s := fun Γ p hd hb hΓ => by
  rw [PySem.execs_cons, Sem.wp_bind']
  refine Sem.wp_mono M Γ _ (fun f p' s' h' => ?_) (fun _ _ _ h' => h') _ _ (h Γ p hd hb hΓ)
  cases f <;> first | exact h' Γ p' hd hb hΓ | exact h'
theorem execs_any {st : Stmt} {rest : List Stmt} {Q : Flow → Shared → Prop} (h : wpAny M A (exec st env) (NN M A rest env Q E) E s) : wpN M A (execs (st :: rest) env) Q E s := execs_cons (any h)
theorem asg {x : Str} {pos' pos : Pos} {value : PySem.Expr} {rest : List Stmt} {Q : Flow → Shared → Prop} (h : wpAny M A (eval value env) (NAQ M A env x rest Q E) E s)
    (hs : swapsWith value (some (.Name x pos')) pos.line env = Pure.pure false := by rfl) : wpN M A (execs (.Assign [.Name x pos'] value pos :: rest) env) Q E s := execs_any (wpAny_Assign_Name h hs)
theorem Assign_Name {x : Str} {pos' pos : Pos} {value : PySem.Expr} {Q : Flow → Shared → Prop} (h : wpN M A (eval value env) (fun v s₁ => wpAny M A (storeName env x v) (fun _ => Q .next) E s₁) E s)
    (hs : swapsWith value (some (.Name x pos')) pos.line env = Pure.pure false := by rfl) : wpN M A (exec (.Assign [.Name x pos'] value pos) env) Q E s := fun Γ p hd hb hΓ => by
  simp only [exec_Assign_Name env x pos' value pos hs, Sem.wp_bind', Sem.wp_cmd_standAt, Sem.wp_bindName, Sem.wp_pure']
  exact Sem.wp_mono M Γ _ (fun v _ s₁ h₁ => h₁ Γ _ hΓ) (fun _ _ _ h' => h') _ _ (h Γ _ hd hb hΓ)
theorem If {test : PySem.Expr} {body orelse : List Stmt} {pos : Pos} {Q : Flow → Shared → Prop}
    (h : wpAny M A (isTrue test env (eval test env)) (fun b s₁ => if b then wpN M A (execs body env) Q E s₁ else wpN M A (execs orelse env) Q E s₁) E s) : wpN M A (exec (.If test body orelse pos) env) Q E s := fun Γ p hd hb hΓ => by
  rw [exec_If]
  simp only [Sem.wp_bind', Sem.wp_cmd_standAt]
  refine Sem.wp_mono M Γ _ (fun b p₁ s₁ h₁ => ?_) (fun _ _ _ h' => h') _ _ (h Γ _ hΓ)
  cases b with
  | false => exact (show wpN M A (execs orelse env) Q E s₁ from h₁) Γ p₁ hd hb hΓ
  | true => exact (show wpN M A (execs body env) Q E s₁ from h₁) Γ p₁ hd hb hΓ
theorem IfExp {test body orelse pos} {Q : VP}
    (h : wpAny M A (isTrue test env (eval test env)) (fun c s₂ => if c then wpN M A (eval body env) Q E s₂ else wpN M A (eval orelse env) Q E s₂) E s) : wpN M A (eval (.IfExp test body orelse pos) env) Q E s := by
  rw [eval_IfExp]
  refine bind (any (wpAny_mono h (fun c s₂ h₂ => ?_) fun _ _ x => x))
  cases c <;> exact h₂
theorem MethodCall {o : PySem.Expr} {name : Str} {apos pos : Pos} {args : List PySem.Expr} {pl : Sem Bool} {Q : VP}
    (h : wpAny M A (eval o env) (fun ov s₁ => wpAny M A (getMethod ov name pl) (fun fx s₂ => wpN M A (callWith pos fx.1 fx.2 (backTo pos (starEach args env)) []) Q E s₂) E s₁) E s)
    (he : eval (.Call (.Attribute o name apos) args [] pos) env = (do
      let ov ← eval o env
      standAt apos.atName
      let (f, first) ← PySem.holding [ov] (getMethod ov name pl)
      callWith pos f first (backTo pos (starEach args env)) []) := by rfl) :
    wpN M A (eval (.Call (.Attribute o name apos) args [] pos) env) Q E s := by
  rw [he]
  refine bind (any (wpAny_mono h (fun ov s₁ h₁ => bind (any (wpAny_standAt (bind (any (wpAny_holding (wpAny_mono h₁ (fun fx s₂ h₂ => ?_) fun _ _ x => x))))))) fun _ _ x => x))
  exact h₂
theorem Call {func : PySem.Expr} {args : List PySem.Expr} {pos : Pos} {Q : VP}
    (h : wpAny M A (eval func env) (fun f s₁ => wpN M A (callWith pos f [] (backTo pos (starEach args env)) []) Q E s₁) E s)
    (he : eval (.Call func args [] pos) env = (do callWith pos (← eval func env) [] (backTo pos (starEach args env)) (backToKw pos (keywordEach [] env))) := by rfl) :
    wpN M A (eval (.Call func args [] pos) env) Q E s := by
  rw [he]; exact bind (any h)
theorem ite {α : Type} {p : Prop} [Decidable p] {t e : Sem α} {Q : α → Shared → Prop} (h1 : wpN M A t Q E s) (h2 : wpN M A e Q E s) : wpN M A (if p then t else e) Q E s := by
  by_cases h : p
  · rw [if_pos h]; exact h1
  · rw [if_neg h]; exact h2
theorem more {e : PySem.Expr} {rest : List PySem.Expr} {pos : Pos} {Q : List Value → Shared → Prop}
    (h : wpN M A (eval e env) (fun v s₁ => wpAny M A (spliced (backTo pos (starEach rest env))) (fun vs s₂ => Q (v :: vs) s₂) E s₁) E s)
    (he : starEach (e :: rest) env = (false, eval e env) :: starEach rest env := by rfl) : wpN M A (spliced (backTo pos (starEach (e :: rest) env))) Q E s := by
  rw [he]
  show wpN M A (spliced ((false, eval e env) :: backTo pos (starEach rest env))) Q E s
  rw [spliced]
  refine bind (mono h (fun v s₁ h₁ => ?_) fun _ _ x => x)
  rw [if_neg Bool.false_ne_true]
  exact any (wpAny_bind (wpAny_pure (wpAny_bind (wpAny_holding (wpAny_mono h₁ (fun vs s₂ h₂ => wpAny_pure h₂) fun _ _ x => x)))))
theorem evalArgs {f : Value} {x : Sem Value} {rest : List (Bool × Sem Value)} {Q : Args → Shared → Prop}
    (h : wpN M A (spliced ((false, x) :: rest)) (fun vs s' => Q ⟨vs, []⟩ s') E s) : wpN M A (PySem.evalArgs f true ((false, x) :: rest) []) Q E s := by
  unfold PySem.evalArgs
  show wpN M A (spliced ((false, x) :: rest) >>= _) Q E s
  refine bind (mono h (fun vs s' h' => ?_) fun _ _ x => x)
  refine holding ?_
  exact any (wpAny_bind (wpAny_pure (wpAny_bind (wpAny_pure (wpAny_pure h')))))
theorem callWithB {pos : Pos} {f : Value} {first : List Value} {e : PySem.Expr} {rest : List PySem.Expr} {Q : VP} (hf : keeperOf f = Pure.pure .machine)
    (h : wpN M A (spliced (backTo pos (starEach (e :: rest) env))) (fun vs s₁ => wpN M A (PySem.call f (first ++ vs)) Q E s₁) E s)
    (he : starEach (e :: rest) env = (false, eval e env) :: starEach rest env := by rfl) (hplain : (backTo pos (starEach rest env)).any (·.1) = false := by rfl) :
    wpN M A (callWith pos f first (backTo pos (starEach (e :: rest) env)) []) Q E s := by
  rw [he] at h ⊢
  unfold callWith
  refine bind (holding (evalArgs (mono h (fun vs s₁ h₁ => bind (any (wpAny_standAt ?_))) fun _ _ x => x)))
  have hp : (backTo pos ((false, eval e env) :: starEach rest env)).any (·.1) = false := by show (false || (backTo pos (starEach rest env)).any (·.1)) = false; rw [hplain]; rfl
  rw [hp]
  refine bind (any (wpAny_of_eq hf ?_))
  exact bind (mono h₁ (fun r s₂ hr => any (wpAny_bind (wpAny_holding (wpAny_point (wpAny_pure hr))))) fun _ _ x => x)
theorem For {target iter body pos} {Q : Flow → Shared → Prop}
    (h : wpAny M A (eval iter env) (fun x s₁ => wpAny M A (pyIter x) (fun it s₂ =>
      codeN M A (.forLoop target it body [] env) (fun r s' => match r with | .ok f => Q f s' | .error e => cameBackBy M A env E e s') s₂) E s₁) E s)
    (hs : ∀ x, foldedSetIterable iter env x = Pure.pure x := by intro _; rfl) : wpN M A (exec (.For target iter body [] pos) env) Q E s := by
  rw [exec_For]
  exact bind (any (wpAny_standAt (bind (any (wpAny_mono h (fun x s₁ h₁ => bind (any (wpAny_of_eq (hs x) (bind (any (wpAny_standAt (bind (any (wpAny_holding
    (wpAny_mono h₁ (fun it s₂ h₂ => runOwn h₂) fun _ _ h' => h')))))))))) fun _ _ h' => h')))))
theorem Expr {prog : Program} {w : World} {e : PySem.Expr} {pos : Pos} {Q : Flow → Shared → Prop} (h : wpN (model prog w) A (eval e env) (fun _ => Q .next) E s)
    (hi : interactive env = false := by rfl) (hs : swapsWith e none pos.line env = Pure.pure false := by rfl) : wpN (model prog w) A (exec (.Expr e pos) env) Q E s := by
  rw [exec_Expr env e pos hi hs]
  exact bind (any (wpAny_standAt (bind (mono h (fun v s' h' => any (wpAny_dropValue h')) fun _ _ x => x))))
end
end N
namespace N
section
variable {prog : Program} {w : World} {A : Around} {E : VP} {s : Shared} {env : Env} {R : Result → Shared → Prop}
theorem ifnot {α : Type} {M : Model} {c : Bool} {a b : Sem α} {Q : α → Shared → Prop} (hc : c = false) (h : wpN M A b Q E s) : wpN M A (if c = true then a else b) Q E s := by subst hc; exact h
theorem builtin {id : String} {args : Args} {b : Builtin} (hd : isDec (.builtin id args) = false) (hb : entryFor table id = some b)
    (h : wpN (model prog w) (A.under (.builtin id args)) (b args)
      (fun fin s' => match fin with | .done f => R (.ok f) s' | .again c' => c'.quiet = true ∧ codeN (model prog w) A c' R s') (fun e s' => R (.error e) s') s) :
    codeN (model prog w) A (.builtin id args) R s := by
  refine tree hd ?_
  show wpN _ _ (match entryFor table id with | some b => b args | none => unsupported ((withoutEnding? id "#data").getD id)) _ _ s
  rw [hb]; exact h
theorem isDecB (id : String) (args : Args) : isDec (.builtin id args) = (Builtin.Bytes.decodersThatHold.contains id || ["bytearray.__contains__", "bytearray.__mod__", "bytearray.__rmod__", "_struct.pack_into.held", "bytearray.find.held"].contains id) := rfl
theorem call_builtin {id : String} {args : Args} {b : Builtin} (hd : isDec (.builtin id args) = false) (hq : plainId id = true) (hb : entryFor table id = some b)
    (h : wpAny (model prog w) A.in1 (checkBuiltinCall id args) (fun _ s₁ => wpN (model prog w) A.in1 (b args)
      (fun fin s' => match fin with | .done f => R (.ok f) s' | .again c' => c'.quiet = true ∧ codeN (model prog w) A c' R s') (fun e s' => R (.error e) s') s₁)
      (fun e s' => R (.error e) s') s) : codeN (model prog w) A (.call (.builtin id) args) R s := by
  refine tree rfl ?_
  show wpN _ A.in1 (do checkBuiltinCall id args; again (.builtin id args)) _ _ s
  refine bind (any (wpAny_mono h (fun _ s₁ h₁ => any (wpAny_pure (And.intro (plainId_quiet hq args) (builtin hd hb ?_)))) fun _ _ h' => h'))
  rw [Around.under_plainId hq args]; exact h₁
theorem noted {α : Type} {M : Model} {m : Sem α} {Q : α → Shared → Prop} (h : wpN M A m Q (notedBy M A env E) s) : wpN M A (m.onRaise fun x => do noteFrame x env; theTreesLotGoes x) Q E s :=
  onRaise (mono h (fun _ _ q => q) fun _ _ hx => wpAny_bind (wpAny_mono hx (fun _ _ e => wpAny_theTreesLotGoes e) fun _ _ e => e))
theorem func {body : List Stmt} (h : wpN (model prog w) (A.deeper env) (execs body env) (fun f s' => R (.ok (.ret (match f with | .ret v => v | _ => .none))) s')
      (fun e s' => wpAny (model prog w) (A.deeper env) (leaving env e) (fun _ s'' => R (.error e) s'') (fun e' s'' => R (.error e') s'') s') s) : codeN (model prog w) A (.func body env) R s := by
  refine tree rfl ?_
  show wpN _ (A.deeper env) (do point; match ← (execs body env).onRaise (leaving env) with | .ret v => ret v | _ => ret .none) _ _ s
  refine bind (any (wpAny_point (bind (onRaise (mono h (fun f s' h' => ?_) fun _ _ h' => h')))))
  cases f <;> exact any (wpAny_pure h')
theorem block {stmts : List Stmt} (h : wpAny (model prog w) A (execs stmts env) (fun f s' => R (.ok f) s') (notedBy (model prog w) A env fun e s' => R (.error e) s') s) : codeN (model prog w) A (.block stmts env) R s := codeAny (codeAny_block h)
theorem loop {M : Model} {c : Code} (hd : isDec c = false) (hq : c.quiet = true) (I : Nat → Shared → Prop)
    (turn : ∀ n s, I n s → wpN M (A.under c) (M.den c)
      (fun fin s' => match fin with
        | .done f => R (.ok f) s'
        | .again c' => (c' = c ∧ ∃ m, m < n ∧ I m s') ∨ (c'.quiet = true ∧ codeN M A c' R s')) (fun e s' => R (.error e) s') s)
    (n : Nat) (h : I n s) : codeN M A c R s := by
  induction n using Nat.strongRecOn generalizing s with
  | ind n ih =>
    refine tree hd (mono (turn n s h) (fun fin s' hf => ?_) fun _ _ h' => h')
    cases fin with
    | done f => exact hf
    | again c' =>
      rcases hf with ⟨rfl, m, hm, hI⟩ | hf
      · exact ⟨hq, ih m hm hI⟩
      · exact hf
theorem forLoop {target it body} (I : Nat → Shared → Prop)
    (turn : ∀ n s, I n s → wpAny (model prog w) A (pyNext it) (fun r s₁ => match r with
      | none => wpAny (model prog w) A (execs [] env) (fun f s₃ => R (.ok f) s₃) (notedBy (model prog w) A env fun e s' => R (.error e) s') s₁
      | some v => wpAny (model prog w) A (assign target env v) (fun _ s₂ => wpN (model prog w) A (execs body env) (fun f s₃ => match f with
          | .next | .cont => ∃ m, m < n ∧ I m s₃
          | .brk => R (.ok .next) s₃
          | .ret v => R (.ok (.ret v)) s₃) (notedBy (model prog w) A env fun e s' => R (.error e) s') s₂) (notedBy (model prog w) A env fun e s' => R (.error e) s') s₁) (notedBy (model prog w) A env fun e s' => R (.error e) s') s)
    (n : Nat) (h : I n s) (ht : ∀ v, letOwnedTupleGo target it v = Pure.pure () := by intro _; rfl) : codeN (model prog w) A (.forLoop target it body [] env) R s := by
  refine loop rfl rfl I (fun n s hI => ?_) n h
  show wpN _ _ ((forTurn target it body [] env).onRaise (fun x => do noteFrame x env; theTreesLotGoes x)) _ _ s
  refine noted ?_
  unfold forTurn
  refine bind (any (wpAny_standAt (bind (any (wpAny_onRaise (wpAny_mono (turn n s hI) (fun r s₁ h₁ => ?_) fun _ _ h' => wpAny_standAt h'))))))
  cases r with
  | none => exact any (wpAny_pure (.inr ⟨rfl, block h₁⟩))
  | some v =>
    refine bind (any (wpAny_of_eq (ht v) ?_))
    refine bind (any (wpAny_mono h₁ (fun _ s₂ h₂ => bind (mono h₂ (fun f s₃ h₃ => ?_) fun _ _ h' => h')) fun _ _ h' => h'))
    cases f with
    | next => exact any (wpAny_pure (.inl ⟨rfl, h₃⟩))
    | cont => exact any (wpAny_pure (.inl ⟨rfl, h₃⟩))
    | brk => exact any (wpAny_pure h₃)
    | ret v => exact any (wpAny_pure h₃)
theorem call_def {a : Addr} {o : Obj} {fd : FuncData} {body : List Stmt} {args : Args} {binds : List (Str × Value)}
    (hroom : A.depth < recursionLimit) (ho : s.heap.get? a = some o) (hdata : o.data = .func fd) (hlim : s.heap.NoLimit) (hcd : s.heap.CodeRec fd.code fd.qualname)
    (hbody : fd.body = .stmts body) (hbind : BindsTo s fd args binds)
    (hcell : ∀ x ∈ fd.scope.names, x.2 ≠ .cell) (hloc : ∀ x ∈ binds, fd.scope.names.lookup x.1 = some .local)
    (h : ∀ h₀, h₀.Ns s.heap.objs.size (fun x => binds.reverse.lookup x) → (∀ b o, s.heap.get? b = some o → h₀.get? b = some o) →
      wpN (model prog w) (A.deeper (callEnv fd s.heap.objs.size a)) (execs body (callEnv fd s.heap.objs.size a)) (fun f s' => R (.ok (.ret (match f with | .ret v => v | _ => .none))) s')
        (fun e s' => wpAny (model prog w) (A.deeper (callEnv fd s.heap.objs.size a)) (leaving (callEnv fd s.heap.objs.size a) e) (fun _ s'' => R (.error e) s'') (fun e' s'' => R (.error e') s'') s')
        { s with heap := h₀, toks := s.toks + binds.length })
    (hco : fd.scope.isCoroutine = false) (hgen : fd.scope.isGenerator = false) (hk : fd.scope.kind = .function) :
    codeN (model prog w) A (.call (.ref a) args) R s := by
  refine tree rfl ?_
  show wpN _ A.in1 (callAny (.ref a) args) _ _ s
  unfold callAny
  refine bind (any (wpAny_load ho ?_))
  have hlim0 := hlim
  obtain ⟨c, oc, vs, tq, hc, hoc, hdc, hq⟩ := hcd
  rw [hdata]
  show wpN _ _ (callFunction a fd args) _ _ _
  unfold callFunction
  rw [hco, hgen, hbody, hc]
  refine bind (any (wpAny_field hoc hdc hq ?_))
  refine bind (any (wpAny_pure ?_))
  refine bind (any (hbind _ _ _ _ ?_))
  refine bind (any ?_)
  rw [← hc]
  refine wpAny_newFunctionEnv hcell hloc (fun h₀ hns₀ hsb₀ => ?_) hk
  refine bind (any (wpAny_enterFrame (hlim.fresh _ hsb₀) hroom ?_))
  refine any (wpAny_pure ⟨rfl, func (h h₀ hns₀ fun b o e => ?_)⟩)
  exact hsb₀.extBut b o (Nat.ne_of_lt (Heap.lt_size e)) (Heap.get?_push_of_some _ e)
end
end N
end
section
open Sem (wp)
variable {G : Base} {c : Fm} {st : St} {s : Shared} {A : Around} {E : VP} {env : Env}
noncomputable def ClN (G : Base) (f : Value) (args : List Value) (hd : Option Value) (d u : Nat) (I : Hp) (W : Ws) (Q : Value → Hp → Ws → Prop) (E : Ex → Hp → Ws → Prop) : Prop :=
  ∀ (A : Around) (fr : List Env) (s : Shared), Bud A hd fr d u → Pre G fr I W s →
    wpN (model G.prog G.w) A (call f args) (fun v s' => ∃ I' W', Ret fr I W s I' W' s' ∧ Q v I' W')
      (fun e s' => ∃ x I' W', Ret fr I W s I' W' s' ∧ e = .ref x.a ∧ (s.heap.get? x.a = none ∧ s.heap.get? x.tb = none) ∧ Flies I' W' x s' ∧ E x I' W') s
theorem r_pureN {m : Mp} {I : Hp} {W : Ws} {f : Value} {args : List Value} {hd : Option Value} {d u : Nat} {Q : VP}
    (O : Ok G c ⟨m, I, W⟩ s) (B : Bud A hd (c.env :: c.outer) d u)
    (C : ClN G f args hd d u I [] (fun v I' W' => ∀ s', Ok G c ⟨m, I', W' ++ W⟩ s' → (∀ a o, I a = some o → I' a = some o) → Q v s') (fun _ _ _ => False)) :
    wpN (model G.prog G.w) A (call f args) Q E s := by
  have fasE : fas (c.env :: c.outer) = c.L :: fas c.outer := rfl
  have P : Pre G (c.env :: c.outer) I [] s :=
    { b := O.b, im := O.im, wr := fun p hp => (nomatch hp), wI := fun p hp => (nomatch hp), nd := List.nodup_nil
      fI := fun a ha => by
        rw [fasE] at ha
        rcases List.mem_cons.mp ha with rfl | ha
        · exact ⟨O.LI, fun p hp => (nomatch hp)⟩
        · exact ⟨(O.fI a ha).1, fun p hp => (nomatch hp)⟩
      ff := fun e he => by
        rcases List.mem_cons.mp he with rfl | he
        · obtain ⟨o, es, ep, h1, h2, _⟩ := O.ns
          exact ⟨by show c.fd.scope.kind ≠ .module; rw [O.fk]; decide, c.L, o, es, ep, rfl, h1, h2⟩
        · exact O.ff e he
      gb := O.gb }
  refine N.mono (C A _ s B P) (fun v s' h => ?_) fun e s' h => ?_
  · obtain ⟨I', W', R, h⟩ := h
    exact h s' (Ok.back (Wc := []) O R) R.sub
  · obtain ⟨x, I', W', R, rfl, hn, hf, h⟩ := h
    exact h.elim
theorem enterKN {a : Addr} {name qual : Str} {params : Arguments} {body : List Stmt} {scope : Scope} {dV kV doc pm cdv ct oc : Value} {an od : Option Addr} {osl : Array (Option Value)}
    {args : List Value} {binds : List (Str × Value)} {hd : Option Value} {d u : Nat} {I : Hp} {W : Ws} {Q : Value → Hp → Ws → Prop} {E : Ex → Hp → Ws → Prop}
    (hlk : G.K.lookup a = some ⟨oc, od, .func (fnOf name qual params body scope dV kV doc pm an cdv ct), osl⟩) (hcd : codeIn G.K cdv qual = true)
    (hbind : bindArgs (fnOf name qual params body scope dV kV doc pm an cdv ct) ⟨args, []⟩ = pure binds)
    (hcell : (scope.names.all fun x => decide (x.2 ≠ .cell)) = true) (hloc : (binds.all fun x => decide (scope.names.lookup x.1 = some .local)) = true)
    (hco : scope.isCoroutine = false) (hgen : scope.isGenerator = false) (hk : scope.kind = .function)
    (h : ∀ (c : Fm) (A : Around) (s₁ : Shared), c.fd.scope = scope → Ok G c ⟨ov binds.reverse fun _ => none, I, W⟩ s₁ → Bud A hd (c.env :: c.outer) d u →
      wpN (model G.prog G.w) A (execs body c.env) (EndQ G c Q) (EndX G c E) s₁) :
    ClN G (.ref a) args hd (d + 1) (u + 3) I W Q E := by
  intro A fr s B P
  have kB : ∀ a o, G.B0.get? a = some o → s.heap.get? a = some o := fun a o e => P.im _ _ (P.b _ _ e)
  have ov_eq : (ov binds.reverse fun _ => none) = fun x => binds.reverse.lookup x := by
    funext y; unfold ov; cases binds.reverse.lookup y <;> rfl
  refine N.call (N.call_def (by have := B.d; lia) (P.im _ _ (P.b _ _ (G.X _ _ hlk))) rfl (G.T.nolimit.keeps kB) ((codeRec_of G.X hcd).keeps kB) rfl (BindsTo.of_eq hbind) (fun x hx => of_decide_eq_true (List.all_eq_true.mp hcell x hx)) (locs hloc) (fun h₀ hns hk₀ => ?_) hco hgen hk)
  refine N.mono (h (fmOf (fnOf name qual params body scope dV kV doc pm an cdv ct) a fr s I W) _ _ rfl (ov_eq ▸ enter_ok P hns hk₀ hk rfl rfl) (enter_bud B)) (fun fl s' he => ?_) fun e s' he => enter_x B he
  obtain ⟨m', I', W', O', hq⟩ := he
  refine ⟨I', W', enter_ret O', ?_⟩
  cases fl <;> exact hq
theorem k_defN {a : Addr} {pos : Pos} {e : PySem.Expr} {rest : List PySem.Expr} {Q : VP} (hk : keepIn G.K (.ref a) = true)
    (h : wpAny (model G.prog G.w) A (spliced (backTo pos (starEach (e :: rest) env))) (fun vs s₁ => G.K.In s₁.heap ∧ wpN (model G.prog G.w) A (call (.ref a) vs) Q E s₁) E s)
    (he : starEach (e :: rest) env = (false, eval e env) :: starEach rest env := by rfl) (hplain : (backTo pos (starEach rest env)).any (·.1) = false := by rfl) :
    wpN (model G.prog G.w) A (callWith pos (.ref a) [] (backTo pos (starEach (e :: rest) env)) []) Q E s := by
  rw [he] at h ⊢
  unfold callWith
  refine N.bind (N.holding (N.evalArgs (N.any (wpAny_mono h (fun vs s₁ h₁ => N.bind (N.any (wpAny_standAt ?_))) fun _ _ x => x))))
  have hp : (backTo pos ((false, eval e env) :: starEach rest env)).any (·.1) = false := by show (false || (backTo pos (starEach rest env)).any (·.1)) = false; rw [hplain]; rfl
  obtain ⟨k, hk', L⟩ := keeps_K hk _ h₁.1
  rw [hp]
  refine N.bind (N.any (L.here ?_))
  have h₂ := h₁.2
  rw [← List.nil_append vs] at h₂
  have tail : ∀ {t : Sem Value}, wpN (model G.prog G.w) A t Q E s₁ → wpN (model G.prog G.w) A (t >>= fun r => holding [r] point >>= fun _ => pure r) Q E s₁ :=
    fun ht => N.bind (N.mono ht (fun r s₂ hr => N.any (wpAny_bind (wpAny_holding (wpAny_point (wpAny_pure hr))))) fun _ _ x => x)
  have marked (mk : Value) : wpN (model G.prog G.w) A (callMarked mk (.ref a) ([] ++ vs) []) Q E s₁ := by unfold callMarked; exact N.keep h₂
  rcases hk' with rfl | rfl | rfl <;> dsimp only <;> first | exact tail h₂ | (refine N.ite ?_ ?_ <;> first | exact tail h₂ | exact tail (marked _))
theorem r_ifN {test : PySem.Expr} {body orelse : List Stmt} {pos : Pos} {Q : Flow → Shared → Prop} (_ : Ok G c st s) (P : Prop)
    (hc : wpAny (model G.prog G.w) A (isTrue test env (eval test env)) (fun b s' => Ok G c st s' ∧ (b = true ↔ P)) E s)
    (h1 : ∀ s', Ok G c st s' → P → wpN (model G.prog G.w) A (execs body env) Q E s')
    (h2 : ∀ s', Ok G c st s' → ¬ P → wpN (model G.prog G.w) A (execs orelse env) Q E s') :
    wpN (model G.prog G.w) A (exec (.If test body orelse pos) env) Q E s := by
  refine N.If (wpAny_mono hc (fun b s' h => ?_) fun _ _ h => h)
  cases b with
  | false => exact h2 s' h.1 fun p => by have := h.2.mpr p; cases this
  | true => exact h1 s' h.1 (h.2.mp rfl)
theorem r_seq_loopN {x : Str} {px : Pos} {body : List Stmt} {l : Addr} {k : Bool} {vs : List Value} {nn : Nat} {m : Mp} {I : Hp} {W : Ws} {Q : Flow → Shared → Prop} {E₁ : Ex → St → Prop} {hd : Option Value} (J : Nat → St → Prop) (hh : A.handled = hd) (H : HdH hd I)
    (O : Ok G c ⟨m, I, W⟩ s) (hl : I l = some (sqO k vs nn)) (hx : c.env.kindOf x = some .local) (hfr : A.frames = some (c.env :: c.outer)) (j0 : J 0 ⟨m, I, W⟩)
    (turn : ∀ (i : Nat) v st' Wi s', vs[i]? = some v → J i st' → Ok G (c.re I) ⟨ov [(x, v)] st'.m, st'.I, Wi ++ st'.W⟩ s' →
      wpN (model G.prog G.w) A (execs body c.env) (TurnQ G (c.re I) (J (i + 1)) Wi Q) (ESt G (c.re I) E₁) s')
    (done : ∀ st' s', J vs.length st' → Ok G c st' s' → (∀ a o, I a = some o → st'.I a = some o) → Q .next s') :
    wpAny (model G.prog G.w) A (pyIter (.ref l)) (fun it s₂ =>
      codeN (model G.prog G.w) A (.forLoop (.Name x px) it body [] c.env) (fun r s' => match r with | .ok f => Q f s' | .error e => cameBackBy (model G.prog G.w) A c.env (ESt G c E₁) e s') s₂) (ESt G c E₁) s := by
  have e := O.im l _ hl
  refine pyIter_sq e ?_
  have hf := size_free s.heap
  have O₂ := O.own (s' := { s with heap := s.heap.push (itO k l 0) }) (fun _ _ e => Heap.get?_push_of_some _ e) hf (Heap.get?_push_size _ rfl) rfl rfl
  have hne : l ≠ s.heap.objs.size := fun q => by rw [q, hf] at e; cases e
  have ⟨Iv, k0, h0, ht⟩ := loop_core (B := fun Q E s => wpN (model G.prog G.w) A (execs body c.env) Q E s) (R := fun r s' => match r with | .ok f => Q f s' | .error e => cameBackBy (model G.prog G.w) A c.env (ESt G c E₁) e s') (fun _ _ _ _ _ h a b => N.mono h a b) (px := px) (Wi := [_]) (wr := [_]) J (walks_sq hh _ l hne k vs nn) (fun i h e b hb => by rw [List.mem_singleton.mp hb]; obtain ⟨o, ho, _⟩ := e.1; exact ⟨o, ho⟩) hx hfr O₂ rfl
    (fun b hb => by rw [List.mem_singleton.mp hb]; exact (off_fresh O hf).2.2.2) (fun b hb h => sq_fp H hl hb h) ⟨⟨_, Heap.get?_push_size _ rfl, rfl, rfl⟩, Heap.get?_push_of_some _ e, H.mono fun a o e => O₂.im _ _ e⟩ j0
    (fun i v st' Wi' s' hi hP hJ O' => N.mono (turn i v st' Wi' s' hP hJ O') (fun f s3 h => by cases f <;> exact h) fun _ _ h => h) (fun st' s' hJ O' => done st' s' hJ (O₂.unre rfl O') fun a o e => O'.sub a o e) fun e s' he => ESt.noted hfr (ESt.unre O rfl he)
  exact N.forLoop Iv ht k0 h0
end
section
open Sem (wp)
namespace NB
theorem ba_mro : mroOf (.type "bytearray") = pure [.type "bytearray", .type "object"] := by rw [mroOf_type]; kernel_rfl
theorem ba_new : typeLookup (.type "bytearray") "__new__" = pure (some (.builtin "bytearray.__new__")) := by rw [typeLookup_type, builtinLookup_eq_fast]; kernel_rfl
theorem ba_init : Slot "bytearray" "__init__" "bytearray.__init__" :=
  .of (owner := "bytearray") (n := "__init__") (by rw [typeLookup_type, builtinLookup_eq_fast]; kernel_rfl) (by decide +kernel) (by decide +kernel) (by decide +kernel)
    (by first | exact .inl (by decide +kernel) | exact .inr (by decide +kernel)) (by rw [isSubtype_type]; kernel_rfl)
theorem ba_called : TypeCalled "bytearray" "bytearray.__new__" "bytearray.__init__" :=
  ⟨by decide +kernel, by decide +kernel, ⟨_, _, ba_mro⟩, madeBy_type ba_mro ba_new (by decide +kernel), by decide +kernel, by rw [isSubtype_type]; kernel_rfl, ba_init⟩
theorem ba_typeCall (a : Value) : checkTypeCall "bytearray" ⟨[a], []⟩ = pure () := by kernel_rfl
theorem ba_newCall (a : Value) : checkBuiltinCall "bytearray.__new__" ⟨[.type "bytearray", a], []⟩ = pure () := by kernel_rfl
theorem ba_entryN : entryFor table "bytearray.__new__" = some Builtin.«list.__new__» :=
  entryFor_alias (id' := "list.__new__") (by kernel_rfl) (by first | rfl | decide +kernel) (by decide +kernel) (by kernel_rfl)
theorem ba_entryI : entryFor table "bytearray.__init__" = some Builtin.«bytearray.__init__» := entryFor_of_tree (by kernel_rfl)
theorem ba_plainN : plainId "bytearray.__new__" = true := by decide +kernel
theorem ba_args (a b : Value) : argsOk "bytearray.__init__" ⟨[a, b], []⟩ := by unfold argsOk; kernel_rfl
set_option maxRecDepth 1000000 in
set_option maxHeartbeats 4000000 in
theorem ba_owner : ("bytearray.__new__".splitOn ".__new__").headD "" = "bytearray" := by simp +decide [String.splitOn, String.splitOnAux]
section
variable {prog : Program} {w : World} {A : Around} {E : VP} {s : Shared}
theorem ba_made (a : Value) {Q₁ : VP}
    (h : Q₁ (.ref s.heap.objs.size) { s with heap := s.heap.push { cls := .type "bytearray", data := .bytearray #[] } }) :
    codeAny (model prog w) A (.call (.builtin "bytearray.__new__") ⟨[.type "bytearray", a], []⟩) (wants Q₁ E) s := by
  refine codeAny_of_tree ?_
  show wpAny _ A.in1 (do checkBuiltinCall "bytearray.__new__" ⟨[.type "bytearray", a], []⟩; again (.builtin "bytearray.__new__" ⟨[.type "bytearray", a], []⟩)) _ _ s
  refine wpAny_bind (wpAny_of_eq (ba_newCall a) (wpAny_pure ⟨plainId_quiet ba_plainN _, codeAny_builtin_stack ba_entryN rfl fun p st => ?_⟩))
  rw [Around.under_plainId ba_plainN _]
  have hsub := BA.sub
  have hown := ba_owner
  obtain ⟨hp, g, d, tk, os⟩ := s
  simp only [hown]
  wp_walk
  exact h
theorem ba_newc (a : Value) {Q₁ : VP} (h : Q₁ (.ref s.heap.objs.size) { s with heap := s.heap.push { cls := .type "bytearray", data := .bytearray #[] } }) :
    wpAny (model prog w) A (call (.builtin "bytearray.__new__") [.type "bytearray", a]) Q₁ E s := wpAny_call (ba_made a h)
theorem ba_type (v : Value) {Q : VP} (hnext : wpN (model prog w) A.in1 (call (.builtin "bytearray.__init__") [.ref s.heap.objs.size, v]) (fun r s' => r = .none ∧ Q (.ref s.heap.objs.size) s') E { s with heap := s.heap.push { cls := .type "bytearray", data := .bytearray #[] } }) :
    wpN (model prog w) A (call (.type "bytearray") [v]) Q E s := by
  refine N.call (N.tree rfl ?_)
  show wpN _ _ (callAny (.type "bytearray") _) _ _ _
  refine N.pure ⟨Code.quiet_builtin _ (by decide +kernel), N.builtin (by rw [N.isDecB]; decide +kernel) PySem.F.entry_type_call ?_⟩
  rw [Around.under_plain (weight_type_call_type "bytearray" [v] []) rfl]
  unfold Builtin.«type.__call__»
  dsimp only
  refine N.ifnot (by decide) ?_
  refine N.ifnot ba_called.canCreate ?_
  refine N.bind (N.any (wpAny_of_eq (ba_typeCall v) ?_))
  refine N.bind (N.any (wpAny_of_eq ba_mro ?_))
  refine N.ifnot rfl ?_
  refine N.bind (N.any (wpAny_of_eq ba_called.made ?_))
  dsimp only
  refine N.bind (N.pure ?_)
  refine N.bind (N.holding (N.any (ba_newc v ?_)))
  have hT : ({ s with heap := s.heap.push { cls := .type "bytearray", data := .bytearray #[] } } : Shared).TypeIs (.ref s.heap.objs.size) "bytearray" := ⟨_, Heap.get?_push_size _ rfl, rfl⟩
  refine N.bind (N.any (wpAny_isInstance hT BA.sub ?_))
  refine N.ifnot rfl ?_
  refine N.bind (N.holding ?_)
  unfold callSpecial?
  refine N.bind (N.any (wpAny_specialOf hT ba_init.lookup ?_))
  dsimp only
  refine N.holding ?_
  rw [ba_init.bind]
  refine N.bind (N.pure ?_)
  refine N.bind (N.mono hnext (fun r s' h => ?_) fun _ _ h => h)
  obtain ⟨rfl, h⟩ := h
  refine N.pure ?_
  dsimp only
  refine N.ifnot rfl ?_
  exact N.pure h
theorem ba_bind (v : Value) : Builtin.Bytes.bindOptional "bytearray.__init__" "bytearray" ["source", "encoding", "errors"] [v] [] = pure [some v, none, none] := by kernel_rfl
theorem ba_buf {id : String} {b : Array UInt8} {t : Tok} : Builtin.Bytes.buffer? id (.bytes b t) true = pure (some b) := by
  unfold Builtin.Bytes.buffer?
  rw [KBy.special_eq KBy.look_buffer, KBy.own_buffer, KBy.own_release]
  kernel_rfl
theorem ba_noidx : typeLookup (.type "bytes") "__index__" = pure none := by rw [typeLookup_type, builtinLookup_eq_fast]; kernel_rfl
theorem ba_write {a : Addr} {x : List UInt8} (y : List UInt8) {Q : Unit → Shared → Prop} (e : s.heap.get? a = some (baO x)) (hz : y.length ≤ 16777216) (h : ∀ h', (∀ b o, b ≠ a → s.heap.get? b = some o → h'.get? b = some o) → h'.get? a = some (baO y) → Q () { s with heap := h' }) :
    wpAny (model prog w) A (Builtin.Bytes.write (.ref a) fun _ => y.toArray) Q E s := by
  show wpAny _ _ (updateBytearray a _) _ _ _
  unfold updateBytearray
  refine wpAny_bind (wpAny_load e ?_)
  show wpAny _ _ (update a (Obj.mapBytearray _) >>= fun _ => lookBehind a) _ _ _
  refine wpAny_bind (wpAny_update e ?_)
  have e2 : (s.heap.update a (Obj.mapBytearray fun _ => y.toArray)).get? a = some (baO y) := Heap.get?_update_self (Obj.mapBytearray fun _ => y.toArray) e rfl
  refine wpAny_lookBehind e2 ?_ (h _ (fun b o hb q => (Heap.get?_update_other _ _ (Ne.symm hb)).trans q) e2)
  show (if y.toArray.size > sizeLine then some "bytearray:memory" else none) = none
  rw [if_neg (by rw [sizeLine_eq, List.size_toArray]; lia)]
theorem ba_initc {a : Addr} {x : List UInt8} {t : Tok} {Q : VP} (e : s.heap.get? a = some (baO [])) (hz : x.length ≤ 16777216) (h : ∀ h', (∀ b o, b ≠ a → s.heap.get? b = some o → h'.get? b = some o) → h'.get? a = some (baO x) → Q .none { s with heap := h' }) :
    wpN (model prog w) A (call (.builtin "bytearray.__init__") [.ref a, .bytes x.toArray t]) Q E s := by
  refine N.call (N.call_builtin (by rw [N.isDecB]; decide +kernel) ba_init.plain ba_entryI (ba_init.check _ _ _ _ _ _ _ _ (BA.ty e) (ba_args _ _) ?_))
  unfold Builtin.«bytearray.__init__»
  dsimp only
  refine N.bind (N.any ?_)
  unfold Builtin.Bytes.ownRelease
  refine wpAny_bind (BA.own e BA.look_release (by decide +kernel) (by decide +kernel) ?_)
  refine wpAny_pure ?_
  refine N.ifnot rfl ?_
  refine N.bind (N.any (wpAny_of_eq (ba_bind _) ?_))
  dsimp only
  refine N.bind (N.any (wpAny_of_eq (a := ()) rfl ?_))
  refine N.bind (N.any (wpAny_of_eq (a := ()) rfl ?_))
  refine N.bind ?_
  unfold orM
  refine N.bind ?_
  unfold Builtin.Bytes.exported
  refine N.bind (N.stack fun st hst => ?_)
  refine N.pure ?_
  rw [show st.any _ = false from List.any_eq_false.mpr fun c hc => ?_]
  rotate_left
  · have hd := hst c hc
    intro hf
    obtain ⟨co, p⟩ := c
    cases co
    case builtin id args =>
      have hd : (Builtin.Bytes.decodersThatHold.contains id || _) = false := hd
      obtain ⟨pos, kw⟩ := args
      have no : ∀ n : String, (["bytearray.__contains__", "bytearray.__mod__", "bytearray.__rmod__", "_struct.pack_into.held", "bytearray.find.held"].contains n) = true → id ≠ n := fun n hn q => by
        subst q
        rw [(Bool.or_eq_false_iff.mp hd).2] at hn
        cases hn
      delta Builtin.Bytes.exported.match_1 at hf
      replace hf : dite (id = "bytearray.__contains__") _ _ = true := hf
      rw [dif_neg (no _ rfl), dif_neg (no _ rfl), dif_neg (no _ rfl), dif_neg (no _ rfl), dif_neg (no _ rfl)] at hf
      cases pos with
      | nil => cases hf
      | cons v r =>
        have hf : (_ && Builtin.Bytes.decodersThatHold.contains id) = true := hf
        rw [(Bool.or_eq_false_iff.mp hd).1, Bool.and_false] at hf
        cases hf
    all_goals cases hf
  refine N.any ?_
  refine wpAny_bind ?_
  unfold Builtin.Bytes.exportsOf
  refine wpAny_bind (wpAny_load e ?_)
  refine wpAny_pure ?_
  refine wpAny_pure ?_
  refine N.ifnot rfl ?_
  refine N.any ?_
  refine wpAny_bind (ba_write [] e (by simp) fun h1 k1 e1 => ?_)
  refine wpAny_bind (wpAny_of_eq (a := none) rfl ?_)
  refine bm_if_false rfl ?_
  refine wpAny_bind (wpAny_of_eq (a := ()) rfl ?_)
  refine wpAny_bind (wpAny_specialOf (typeIs_bytes _ _ _) ba_noidx ?_)
  refine bm_if_false rfl ?_
  refine wpAny_bind (wpAny_of_eq ba_buf ?_)
  refine wpAny_bind (wpAny_rule ?_)
  refine wpAny_bind (ba_write x e1 hz fun h2 k2 e2 => ?_)
  exact wpAny_pure (h h2 (fun b o hb q => k2 b o hb (k1 b o hb q)) e2)
end
end NB
variable {G : Base} {c : Fm} {st : St} {s : Shared} {A : Around} {E : VP}
theorem r_baN {x : List UInt8} {t : Tok} {m : Mp} {I : Hp} {W : Ws} {Q : VP} (O : Ok G c ⟨m, I, W⟩ s) (hz : x.length ≤ 16777216) (h : ∀ a s', Ok G c ⟨m, I, (a, baO x) :: W⟩ s' → Q (.ref a) s') :
    wpN (model G.prog G.w) A (call (.type "bytearray") [.bytes x.toArray t]) Q E s := by
  refine NB.ba_type _ ?_
  refine NB.ba_initc (Heap.get?_push_size _ rfl) hz fun h' k e => ⟨rfl, ?_⟩
  have nz : ∀ b o, s.heap.get? b = some o → b ≠ s.heap.objs.size := fun b o q z => by rw [z, size_free] at q; cases q
  exact h _ _ (O.own (s' := { s with heap := h' }) (fun b o q => k b o (nz b o q) (Heap.get?_push_of_some _ q)) (size_free _) e rfl rfl)
end
section
variable {G : Base} {c : Fm} {st : St} {s : Shared} {A : Around}
inductive J1 (I : Hp) (W : Ws) (row : Addr) (i : Nat) : St → Prop
  | mk {m : Mp} (vs : List Value) (n' : Nat) (x : Int) (t : Tok) (ns : List Int) (hm1 : m "number" = some (.int x t)) (hm2 : m "row" = some (.ref row)) (hints : IntsAre vs ns) (hlen : ns.length = i) (hrange : ∀ z ∈ ns, 0 ≤ z ∧ z < 256) : J1 I W row i ⟨m, I, [(row, lst vs n')] ++ W⟩
theorem octets_spec (hK : G.K = KK G.w.params) {n k : Int} {t1 t2 : Tok} (hk : 0 ≤ k ∧ k ≤ 12) {d u : Nat} {I : Hp} {W : Ws} {Q : Value → Hp → Ws → Prop} {E : Ex → Hp → Ws → Prop}
    (h : ∀ b t, b.size = k.toNat → Q (.bytes b t) I W) : Cl G (.ref 1770) [.int n t1, .int k t2] none (d + 1) (u + 10 + 3) I W Q E := by
  refine enterK (binds := [("number", .int n t1), ("size", .int k t2)]) (kl hK) (kc hK) (by rfl) (by rfl) (by rfl) (by rfl) (by rfl) (by rfl) fun c A s₁ hc O B => ?_
  have O0 := O
  refine k_asg ?_
  refine e_lst ?_
  refine spliced_none ?_
  refine r_newList O (by decide) fun row s O => ?_
  refine r_store O (kd hc) fun s O => ?_
  refine e_cons ?_
  refine wpAny_mono (E := ESt G c NoE) ?_ (fun _ _ h => h) fun e s' h => ?_
  rotate_left
  · obtain ⟨x, st', h1, h2, h3, h4⟩ := h; exact (h4 0).elim
  refine wpAny_For ?_
  refine e_call ?_
  refine r_blt O (kd hc) (kn hK) (by rfl) ?_
  refine PyProof.Rows.callWith_type1 ?_
  refine k_arg O (kd hc) (by rfl) ?_
  refine spliced_none ?_
  have hr := O.LW _ (.head _)
  refine r_range_loop (J1 I W row)
    B.h O (kd hc) B.f (by lia) ⟨[], 0, n, t1, [], rfl, rfl, .nil, rfl, by simp⟩ (fun i t st Wi s hi hJ O => ?_) (fun st s hJ O hsub => ?_)
  · cases hJ with | @mk m vs n' x t' ns hm1 hm2 hints hlen hrange =>
    have B' : Bud A none ((c.re I).env :: c.outer) d (u + 10) := B
    refine e_cons ?_
    refine r_expr (c := c.re I) O ?_
    refine e_meth ?_
    refine r_name (c := c.re I) O (kd hc) hm2 ?_
    refine r_getAppend (c := c.re I) O (mid (W1 := Wi) (W2 := W)) ?_
    refine PyProof.Rows.callWith_method1 ?_
    refine e_more ?_
    refine e_bin ?_
    refine r_name (c := c.re I) O (kd hc) hm1 ?_
    refine r_int O fun t2 s O => ?_
    refine r_mod O (by decide) fun t3 s O => ?_
    refine spliced_none ?_
    refine r_append (W1 := Wi) (W2 := W) O (by rw [hints.length, hlen, sizeLine_eq]; lia) fun s n2 O => ?_
    refine k_asg ?_
    refine e_bin ?_
    refine r_name (c := c.re I) O (kd hc) hm1 ?_
    refine r_int O fun t4 s O => ?_
    refine r_fdiv O (by decide) fun t5 s O => ?_
    refine r_store (c := c.re I) O (kd hc) fun s O => ?_
    refine wpAny_execs_nil ?_
    exact ⟨⟨ov [("number", .int (x / 256) t5), ("k", .int i t)] m, I, (row, lst _ n2) :: W⟩, ⟨_, n2, _, t5, ns ++ [x % 256], rfl, hm2, hints.append (.cons _ _ .nil), by simp [hlen], by
      intro z hz
      rcases List.mem_append.mp hz with h | h
      · exact hrange z h
      · rw [List.mem_singleton.mp h]; lia⟩, O⟩
  · cases hJ with | @mk m vs n' x t' ns hm1 hm2 hints hlen hrange =>
    refine k_ret ?_
    refine e_call ?_
    refine r_blt O (kd hc) (kn hK) (by rfl) ?_
    refine PyProof.Rows.callWith_type1 ?_
    refine k_arg O (kd hc) hm2 ?_
    refine spliced_none ?_
    refine call_bytes_ints ⟨_, O.wr (row, lst vs n') (by simp), rfl, n', rfl⟩ hints hrange (by rw [hints.length, hlen, sizeLine_eq]; lia) B.h fun h' t k' hk' => ?_
    exact ⟨m, I, W, (O.grown (s' := { s with heap := h', toks := k' }) hk' rfl rfl).drop (W1 := [(row, lst vs n')]), h _ _ (by rw [byteArr_size, hlen])⟩
theorem mid2 {α : Type} {x y : α} {a b : List α} : x ∈ a ++ y :: x :: b := List.mem_append_right _ (.tail _ (.head _))
inductive J4 (I : Hp) (R : Addr) (B : Nat) : St → Prop
  | mk {m : Mp} {I2 : Hp} (r : RowT) (l : List RowT) (nR tot : Nat) (m1 : m "rows" = some (.ref R)) (hs : StkT I2 (r :: l) tot) (hlen : l.length ≤ 9) (htot : tot ≤ B) (hsub : ∀ a o, I a = some o → I2 a = some o) : J4 I R B ⟨m, I2, (R, lst (refsT l ++ [.ref r.a]) nR) :: r.o :: l.map RowT.o⟩
inductive J4w (I : Hp) (R : Addr) (B k : Nat) : St → Prop
  | mk {m : Mp} {I2 : Hp} (r : RowT) (l : List RowT) (nR tot : Nat) (m1 : m "rows" = some (.ref R)) (hs : StkT I2 (r :: l) tot) (hlen : l.length ≤ 9) (htot : tot ≤ B) (hsub : ∀ a o, I a = some o → I2 a = some o) (hk : k = l.length) : J4w I R B k ⟨m, I2, (R, lst (refsT l ++ [.ref r.a]) nR) :: r.o :: l.map RowT.o⟩
theorem pow40_ne : (256 : Int) ^ 40 ≠ 0 := by decide
theorem pow40_pos : (0 : Int) < 256 ^ 40 := by decide
theorem mod40 (x : Int) : (x % (256 : Int) ^ 40).natAbs < 256 ^ 40 := by
  have h1 := Int.emod_nonneg x pow40_ne
  have h2 := Int.emod_lt_of_pos x (b := (256 : Int) ^ 40) (by decide)
  have h3 : ((256 : Int) ^ 40) = ((256 ^ 40 : Nat) : Int) := by rw [Int.natCast_pow]; rfl
  rw [h3] at h1 h2 ⊢
  generalize (256 ^ 40 : Nat) = N at h1 h2 ⊢
  lia
theorem small_int {i : Int} (h : i.natAbs ≤ 300) : smT (.n i) := Nat.lt_of_le_of_lt h (by decide)
theorem sz_big {i : Int} (h : i.natAbs < 256 ^ 40) : (fm (.n i)).sz ≤ 300 := by
  rw [fm, It.sz]
  have : (be i.toNat).length ≤ 40 := be_len 40 _ (Nat.lt_of_le_of_lt (by lia) h)
  unfold bytesOf; rw [List.length_map]; lia
theorem sz_int {i : Int} (h : i.natAbs < 256 ^ 40) : (fm (.n i)).sz ≤ 300 := sz_big h
noncomputable def pick8T (x : Int) (j : Nat) : Th := [Th.no, .n (-1 - x / 10 % 300), .sq false [], .sq false [.sq true []], .o [], .n 0, .sq true [.o []], .b false].getD j .no
theorem pick8 {x : Int} {j : Nat} {v : Value} {I : Hp} {a1 a2 a3 a4 : Addr} {k11 k12 k13 k14 : Tok} (hj : j < 8) (hv : [Value.none, .int (-1 - x / 10 % 300) k11, .ref a1, .ref a3, .bytes ([] : List UInt8).toArray k12, .int 0 k13, .ref a4, .bool false][j]? = some v)
    (e1 : I a1 = some (lst [] 0)) (e2 : I a2 = some (tup [])) (e3 : I a3 = some (lst [.ref a2] 0)) (e4 : I a4 = some (tup [.bytes ([] : List UInt8).toArray k14])) : RepT I v (pick8T x j) := by
  rcases j with _ | _ | _ | _ | _ | _ | _ | _ | j
  · cases hv; exact .no
  · cases hv; exact .n _ _
  · cases hv; exact .sq (k := false) (nn := 0) e1 .nil
  · cases hv; exact .sq (k := false) (nn := 0) e3 (.cons (.sq (k := true) (nn := 0) e2 .nil) .nil)
  · cases hv; exact .o _ _
  · cases hv; exact .n _ _
  · cases hv; exact .sq (k := true) (nn := 0) e4 (.cons (.o _ _) .nil)
  · cases hv; exact .b _
  · lia
theorem pick8_dp {x : Int} (j : Nat) (hj : j < 8) : (fm (pick8T x j)).dp ≤ 2 := by
  rcases j with _ | _ | _ | _ | _ | _ | _ | _ | j
  all_goals first | lia | simp [pick8T, fm, fmL, It.dp, It.dpL]
theorem pick8_sm {x : Int} (j : Nat) (hj : j < 8) : smT (pick8T x j) := by
  rcases j with _ | _ | _ | _ | _ | _ | _ | _ | j
  all_goals first | lia | exact trivial | exact small_int (by lia) | exact ⟨trivial, trivial⟩
theorem pick8_sz {x : Int} (j : Nat) (hj : j < 8) : (fm (pick8T x j)).sz ≤ 300 := by
  rcases j with _ | _ | _ | _ | _ | _ | _ | _ | j
  all_goals first | lia | exact sz_int (i := -1 - x / 10 % 300) (small_int (by lia)) | simp [pick8T, fm, fmL, It.sz, It.szL, bytesOf, be_zero]
theorem app4 {ET : VP} {Q : Flow → Shared → Prop} {m : Mp} {I I' : Hp} {Wi : Ws} {R : Addr} {r : RowT} {l : List RowT} {nR tot i : Nat} {e : PySem.Expr} {p1 p2 p3 p4 p5 p6 p7 : Pos} {k1 : Nat} {pl : Sem Bool} (O : Ok G (c.re I) ⟨m, I', Wi ++ (R, lst (refsT l ++ [.ref r.a]) nR) :: r.o :: l.map RowT.o⟩ s)
    (hl : (c.re I).env.kindOf "rows" = some .local) (m1 : m "rows" = some (.ref R)) (hs : StkT I' (r :: l) tot) (hlen : l.length ≤ 9)
    (htot : tot ≤ 300 * i + 10) (hi : i < 16) (hsub : ∀ a o, I a = some o → I' a = some o)
    (h : ∀ s' WW, Ok G (c.re I) ⟨m, I', WW⟩ s' → wpN (model G.prog G.w) A (eval e c.env) (fun v s2 => ∃ I2 t, Ok G (c.re I) ⟨m, I2, WW⟩ s2 ∧ (∀ a o, I' a = some o → I2 a = some o) ∧ RepT I2 v t ∧ (fm t).dp ≤ 2 ∧ (fm t).sz ≤ 300 ∧ smT t) ET s')
    (hq : ∀ s', (∃ st3 : St, J4 I R (300 * (i + 1) + 10) st3 ∧ Ok G (c.re I) ⟨st3.m, st3.I, Wi ++ st3.W⟩ s') → Q .next s')
    (hsw : swapsWith (.Call (.Attribute (.Subscript (.Name "rows" p1) (.UnaryOp .USub (.Constant (.int 1) k1 p2) p3) p4) "append" p5) [e] [] p6) none p7.line c.env = pure false := by rfl)
    (hev : eval (.Call (.Attribute (.Subscript (.Name "rows" p1) (.UnaryOp .USub (.Constant (.int 1) k1 p2) p3) p4) "append" p5) [e] [] p6) c.env = (do
      let ov ← eval (.Subscript (.Name "rows" p1) (.UnaryOp .USub (.Constant (.int 1) k1 p2) p3) p4) c.env
      standAt p5.atName
      let (f, first) ← holding [ov] (getMethod ov "append" pl)
      callWith p6 f first (backTo p6 (starEach [e] c.env)) []) := by rfl)
    (he : starEach [e] c.env = (false, eval e c.env) :: starEach [] c.env := by rfl) (hplain : (backTo p6 (starEach [] c.env)).any (·.1) = false := by rfl) :
    wpN (model G.prog G.w) A (exec (.Expr (.Call (.Attribute (.Subscript (.Name "rows" p1) (.UnaryOp .USub (.Constant (.int 1) k1 p2) p3) p4) "append" p5) [e] [] p6) p7) c.env) Q ET s := by
  refine N.Expr ?_ O.still hsw
  refine N.MethodCall ?_ hev
  refine e_sub ?_
  refine r_name (c := c.re I) O hl m1 ?_
  refine UnaryOp_ ?_
  refine r_int O fun kz s O => ?_
  refine r_neg O fun kz s O => ?_
  refine r_last (O.wr (R, lst (refsT l ++ [.ref r.a]) nR) mid) (by rw [refsT_len]; lia) ?_
  refine r_getAppend (c := c.re I) (l := r.a) (vs := r.vs) (n := r.n) O mid2 ?_
  refine N.callWithB rfl ?_ he hplain
  refine N.more (N.mono (h _ _ O) (fun v s hv => ?_) fun _ _ h => h) he
  obtain ⟨I2, t, O, hs2, hr, hd, hz, hm⟩ := hv
  refine spliced_none (N.any ?_)
  have hs := hs.mono hs2
  have hvl := vals_lenT hs
  have hrl := hs.len
  simp only [List.length_cons] at hvl
  refine r_append (c := c.re I) (W1 := Wi ++ [(R, lst (refsT l ++ [.ref r.a]) nR)]) (W2 := l.map RowT.o) (l := r.a) (vs := r.vs) (n := r.n) (by simpa using O) (sz_small (by lia)) fun s n2 O => ?_
  have O := O.cW (W' := Wi ++ ((R, lst (refsT l ++ [.ref r.a]) nR) :: (RowT.mk r.a (r.vs ++ [v]) n2 (r.ts ++ [t])).o :: l.map RowT.o)) (by simp)
  exact hq s ⟨⟨_, _, _⟩, ⟨_, l, nR, _, m1, hs.put hr n2 (by lia) hm, hlen, by lia, fun a o e => hs2 _ _ (hsub _ _ e)⟩, O⟩
set_option maxHeartbeats 0 in
theorem thing_spec (hK : G.K = KK G.w.params) {nu : Addr} {vs : List Value} {nn : Nat} {ns : List Int} {d u : Nat} {I : Hp} {Q : Value → Hp → Ws → Prop} {E : Ex → Hp → Ws → Prop}
    (hI : I nu = some (lst vs nn)) (hi : IntsAre vs ns) (hl : ns.length ≤ 16)
    (h : ∀ I' a vs' n ts, (∀ a o, I a = some o → I' a = some o) → I' a = some (lst vs' n) → RepTL I' vs' ts → It.szL (fmL ts) ≤ 6000 → It.dpL (fmL ts) ≤ 12 → smL ts → Q (.ref a) I' []) :
    ClN G (.ref 1777) [.ref nu] none (d + 5 + 1) (u + 20 + 3) I [] Q E := by
  refine enterKN (binds := [("numbers", .ref nu)]) (kl hK) (kc hK) (by rfl) (by rfl) (by rfl) (by rfl) (by rfl) (by rfl) fun c A s hc O B => ?_
  have hvl := hi.length
  refine N.asg ?_
  refine e_lst ?_
  refine e_more ?_
  refine e_lst ?_
  refine spliced_none ?_
  refine r_newList O (sz_small (by simp)) fun r0 s O => ?_
  refine spliced_none ?_
  refine r_newList O (sz_small (by simp)) fun R s O => ?_
  refine r_store O.over (kd hc) fun s O => ?_
  refine N.execs_cons ?_
  refine N.mono (E := ESt G c NoE) ?_ (fun _ _ h => h) fun e s' h => ?_
  rotate_left
  · obtain ⟨x, st', h1, h2, h3, h4⟩ := h; exact (h4 0).elim
  refine N.For ?_
  refine r_name O (kd hc) (by rfl) ?_
  refine r_seq_loopN (k := false) (fun i => J4 I R (300 * i + 10)) B.h (.inl rfl) O hI (kd hc) B.f ⟨⟨r0, [], 0, []⟩, [], 0, 10, rfl, ⟨.nil, by simp [fmL, It.dpL], trivial, 0, rfl, by simp [fmL, It.szL]⟩, by simp, by lia, fun _ _ e => e⟩ (fun i v st Wi s hi' hJ O => ?_) (fun st s hJ O hsub => ?_)
  · have hide : ∀ {t : Sem Flow} {Q : Flow → Shared → Prop} {E : VP} {s : Shared}, (∀ Q' E', (∀ v s, Q v s → Q' v s) → (∀ e s, E e s → E' e s) → wpN (model G.prog G.w) A t Q' E' s) → wpN (model G.prog G.w) A t Q E s := fun h => h _ _ (fun _ _ h => h) fun _ _ h => h
    refine hide fun QT ET hT hE => ?_
    cases hJ with | @mk m I' r l nR tot m1 hs hlen htot hsub =>
    obtain ⟨x, tx, rfl, hx⟩ := hi.at i v hi'
    have hi2 : i < 16 := by have := (List.getElem?_eq_some_iff.mp hi').1; lia
    have hrl := hs.len
    have hvl2 := vals_lenT hs
    simp only [List.length_cons] at hvl2
    obtain ⟨WW, hW⟩ : ∃ WW, WW = Wi ++ (R, lst (refsT l ++ [.ref r.a]) nR) :: r.o :: l.map RowT.o := ⟨_, rfl⟩
    replace O : Ok G (c.re I) ⟨ov [("number", .int x tx)] m, I', WW⟩ s := by rw [hW]; exact O
    refine N.asg ?_
    refine e_bin ?_
    refine r_name (c := c.re I) O (kd hc) (by rfl) ?_
    refine r_int O fun k1 s O => ?_
    refine r_mod O (by lia) fun k2 s O => ?_
    refine r_store (c := c.re I) O (kd hc) fun s O => ?_
    refine N.asg ?_
    refine e_bin ?_
    refine r_name (c := c.re I) O (kd hc) (by rfl) ?_
    refine r_int O fun k3 s O => ?_
    refine r_fdiv O (by lia) fun k4 s O => ?_
    refine r_store (c := c.re I) O (kd hc) fun s O => ?_
    refine N.execs_cons ?_
    refine r_ifN (c := c.re I) O (x % 10 = 0 ∧ ((refsT l ++ [Value.ref r.a]).length : Int) < 10) ?_ (fun s O g5 => ?_) (fun s O g6 => ?_)
    · skip
      refine e_and ?_
      refine e_icmp ?_
      refine r_name (c := c.re I) O (kd hc) (by rfl) ?_
      refine r_int O fun k6 s O => ?_
      refine r_eqi ?_
      refine wpAny_truthy_bool ?_
      refine ite_dec (fun g7 => ?_) (fun g7 => ⟨O, iff_no (by lia)⟩)
      refine e_and ?_
      refine e_icmp ?_
      refine e_call ?_
      refine r_blt (c := c.re I) O (kd hc) (kn hK) PyProof.Rows.Boot.«len» ?_
      refine c_b1 ?_
      refine k_arg (c := c.re I) O (kd hc) m1 ?_
      refine spliced_none ?_
      refine r_lenL O (O.wr (R, lst (refsT l ++ [.ref r.a]) nR) (by rw [show WW = _ from hW]; exact mid)) (by simp [refsT_len]; lia) fun k8 s O => ?_
      refine r_int O fun k9 s O => ?_
      refine lt_int ?_
      refine wpAny_truthy_bool ?_
      refine ite_dec (fun g10 => ?_) (fun g10 => ⟨O, iff_no (by lia)⟩)
      exact isTrue_and_nil ⟨O, iff_yes (by lia)⟩
    · subst hW
      refine N.any ?_
      refine e_cons ?_
      refine r_expr (c := c.re I) O ?_
      refine e_meth ?_
      refine r_name (c := c.re I) O (kd hc) m1 ?_
      refine r_getAppend (c := c.re I) (l := R) (vs := refsT l ++ [.ref r.a]) (n := nR) O mid ?_
      refine c_m1 ?_
      refine e_more ?_
      refine e_lst ?_
      refine spliced_none ?_
      refine r_newList O (sz_small (by simp)) fun a s O => ?_
      refine spliced_none ?_
      refine r_append (c := c.re I) (W1 := (a, lst [] 0) :: Wi) (W2 := r.o :: l.map RowT.o) O (sz_small (by simp [refsT_len]; lia)) fun s n2 O => ?_
      repeat first | refine N.any (wpAny_execs_nil ?_) | refine wpAny_execs_nil ?_
      have O := O.perm (W' := Wi ++ (R, lst (refsT (r :: l) ++ [.ref a]) n2) :: (a, lst [] 0) :: r.o :: l.map RowT.o) (by rw [refsT_cons]; exact perm_in)
      simp only [List.length_append, refsT_len, List.length_cons, List.length_nil] at g5
      refine hT _ _ ?_
      refine ⟨⟨_, _, _⟩, ?_, O⟩
      exact ⟨⟨a, [], 0, []⟩, r :: l, n2, tot + 10, m1, hs.new (by simp; lia) a 0, by simp; lia, by lia, hsub⟩
    · skip
      refine N.execs_cons ?_
      refine r_ifN (c := c.re I) O (x % 10 = 1 ∧ ((refsT l ++ [Value.ref r.a]).length : Int) > 1) ?_ (fun s O g5 => ?_) (fun s O g6 => ?_)
      · skip
        refine e_and ?_
        refine e_icmp ?_
        refine r_name (c := c.re I) O (kd hc) (by rfl) ?_
        refine r_int O fun k6 s O => ?_
        refine r_eqi ?_
        refine wpAny_truthy_bool ?_
        refine ite_dec (fun g7 => ?_) (fun g7 => ⟨O, iff_no (by lia)⟩)
        refine e_and ?_
        refine e_icmp ?_
        refine e_call ?_
        refine r_blt (c := c.re I) O (kd hc) (kn hK) PyProof.Rows.Boot.«len» ?_
        refine c_b1 ?_
        refine k_arg (c := c.re I) O (kd hc) m1 ?_
        refine spliced_none ?_
        refine r_lenL O (O.wr (R, lst (refsT l ++ [.ref r.a]) nR) (by rw [show WW = _ from hW]; exact mid)) (by simp [refsT_len]; lia) fun k8 s O => ?_
        refine r_int O fun k9 s O => ?_
        refine gt_int ?_
        refine wpAny_truthy_bool ?_
        refine ite_dec (fun g10 => ?_) (fun g10 => ⟨O, iff_no (by lia)⟩)
        exact isTrue_and_nil ⟨O, iff_yes (by lia)⟩
      · subst hW
        refine N.any ?_
        cases l with
        | nil => exact absurd (‹_ ∧ _›).2 (by simp [refsT])
        | cons r2 l =>
          rw [refsT_cons] at O
          simp only [List.map_cons] at O
          simp only [List.length_cons] at hlen
          refine k_asg ?_
          refine e_meth ?_
          refine r_name (c := c.re I) O (kd hc) m1 ?_
          refine r_getML PySem.F.slot_list_pop PySem.F.type_list_pop (O.wr (R, lst (refsT l ++ [.ref r2.a] ++ [.ref r.a]) nR) mid) ?_
          refine r_pop (c := c.re I) (W1 := Wi) (W2 := r.o :: r2.o :: l.map RowT.o) (vs := refsT l ++ [.ref r2.a]) (l := R) O (by simp [refsT_len]; lia) fun s n3 O => ?_
          refine r_store (c := c.re I) O (kd hc) fun s O => ?_
          refine e_cons ?_
          refine r_expr (c := c.re I) O ?_
          refine e_meth ?_
          refine e_sub ?_
          refine r_name (c := c.re I) O (kd hc) m1 ?_
          refine UnaryOp_ ?_
          refine r_int O fun kz s O => ?_
          refine r_neg O fun kz s O => ?_
          refine r_last (O.wr (R, lst (refsT l ++ [.ref r2.a]) n3) mid) (by rw [refsT_len]; lia) ?_
          refine r_getAppend (c := c.re I) (l := r2.a) (vs := r2.vs) (n := r2.n) O (by simp) ?_
          refine c_m1 ?_
          refine k_arg (c := c.re I) O (kd hc) (by rfl) ?_
          refine spliced_none ?_
          refine r_append (c := c.re I) (W1 := Wi ++ [(R, lst (refsT l ++ [.ref r2.a]) n3), r.o]) (W2 := l.map RowT.o) (l := r2.a) (vs := r2.vs) (n := r2.n) (by simpa using O) (sz_small (by obtain ⟨_, _, _, k, h3, h4⟩ := hs; have := h3.len; lia)) fun s n2 O => ?_
          repeat first | refine N.any (wpAny_execs_nil ?_) | refine wpAny_execs_nil ?_
          have hr0 : I' r.a = none := O.wI r.o (by simp)
          have hm := sub_fix (o := lst r.vs r.n) hr0
          have O := Ok.fix' (x := r.a) (o := lst r.vs r.n) (W1 := Wi ++ [(R, lst (refsT l ++ [.ref r2.a]) n3)]) (W2 := (r2.a, lst (r2.vs ++ [.ref r.a]) n2) :: l.map RowT.o) (by simpa using O)
          have q := (hs.mono hm).close (v := .ref r.a) (kt := false) (fun h => .sq (k := false) (nn := r.n) (if_pos rfl) h) n2
          have O := O.cW (W' := Wi ++ ((R, lst (refsT l ++ [.ref r2.a]) n3) :: (RowT.mk r2.a (r2.vs ++ [.ref r.a]) n2 (r2.ts ++ [.sq false r.ts])).o :: l.map RowT.o)) (by simp)
          refine hT _ _ ?_
          refine ⟨⟨_, _, _⟩, ?_, O⟩
          refine J4.mk (RowT.mk r2.a (r2.vs ++ [.ref r.a]) n2 (r2.ts ++ [.sq false r.ts])) l n3 tot ?_ q (by lia) ?_ fun a o e => hm a o (hsub a o e)
          · exact m1
          · lia
      · skip
        refine N.execs_cons ?_
        refine r_ifN (c := c.re I) O (x % 10 = 2 ∧ ((refsT l ++ [Value.ref r.a]).length : Int) > 1) ?_ (fun s O g5 => ?_) (fun s O g6 => ?_)
        · skip
          refine e_and ?_
          refine e_icmp ?_
          refine r_name (c := c.re I) O (kd hc) (by rfl) ?_
          refine r_int O fun k6 s O => ?_
          refine r_eqi ?_
          refine wpAny_truthy_bool ?_
          refine ite_dec (fun g7 => ?_) (fun g7 => ⟨O, iff_no (by lia)⟩)
          refine e_and ?_
          refine e_icmp ?_
          refine e_call ?_
          refine r_blt (c := c.re I) O (kd hc) (kn hK) PyProof.Rows.Boot.«len» ?_
          refine c_b1 ?_
          refine k_arg (c := c.re I) O (kd hc) m1 ?_
          refine spliced_none ?_
          refine r_lenL O (O.wr (R, lst (refsT l ++ [.ref r.a]) nR) (by rw [show WW = _ from hW]; exact mid)) (by simp [refsT_len]; lia) fun k8 s O => ?_
          refine r_int O fun k9 s O => ?_
          refine gt_int ?_
          refine wpAny_truthy_bool ?_
          refine ite_dec (fun g10 => ?_) (fun g10 => ⟨O, iff_no (by lia)⟩)
          exact isTrue_and_nil ⟨O, iff_yes (by lia)⟩
        · subst hW
          refine N.any ?_
          cases l with
          | nil => exact absurd (‹_ ∧ _›).2 (by simp [refsT])
          | cons r2 l =>
            rw [refsT_cons] at O
            simp only [List.map_cons] at O
            simp only [List.length_cons] at hlen
            refine k_asg ?_
            refine e_call ?_
            refine r_blt (c := c.re I) O (kd hc) (kn hK) PyProof.Rows.Boot.«tuple» ?_
            refine c_t1 ?_
            refine e_more ?_
            refine e_meth ?_
            refine r_name (c := c.re I) O (kd hc) m1 ?_
            refine r_getML PySem.F.slot_list_pop PySem.F.type_list_pop (O.wr (R, lst (refsT l ++ [.ref r2.a] ++ [.ref r.a]) nR) mid) ?_
            refine r_pop (c := c.re I) (W1 := Wi) (W2 := r.o :: r2.o :: l.map RowT.o) (vs := refsT l ++ [.ref r2.a]) (l := R) O (by simp [refsT_len]; lia) fun s n3 O => ?_
            refine spliced_none ?_
            refine r_tupleOf O (O.wr r.o (by simp)) (by lia) fun tu s O => ?_
            have htu : I' tu = none := O.wI (tu, tup r.vs) (.head _)
            have hm := sub_fix (o := tup r.vs) htu
            have O := O.fix
            refine r_store (c := c.re I) O (kd hc) fun s O => ?_
            refine e_cons ?_
            refine r_expr (c := c.re I) O ?_
            refine e_meth ?_
            refine e_sub ?_
            refine r_name (c := c.re I) O (kd hc) m1 ?_
            refine UnaryOp_ ?_
            refine r_int O fun kz s O => ?_
            refine r_neg O fun kz s O => ?_
            refine r_last (O.wr (R, lst (refsT l ++ [.ref r2.a]) n3) mid) (by rw [refsT_len]; lia) ?_
            refine r_getAppend (c := c.re I) (l := r2.a) (vs := r2.vs) (n := r2.n) O (by simp) ?_
            refine c_m1 ?_
            refine k_arg (c := c.re I) O (kd hc) (by rfl) ?_
            refine spliced_none ?_
            refine r_append (c := c.re I) (W1 := Wi ++ [(R, lst (refsT l ++ [.ref r2.a]) n3), r.o]) (W2 := l.map RowT.o) (l := r2.a) (vs := r2.vs) (n := r2.n) (by simpa using O) (sz_small (by obtain ⟨_, _, _, k, h3, h4⟩ := hs; have := h3.len; lia)) fun s n2 O => ?_
            repeat first | refine N.any (wpAny_execs_nil ?_) | refine wpAny_execs_nil ?_
            have O := (O.perm (W' := r.o :: (Wi ++ ((R, lst (refsT l ++ [.ref r2.a]) n3) :: (r2.a, lst (r2.vs ++ [.ref tu]) n2) :: l.map RowT.o))) (by simpa using (List.perm_middle (a := r.o) (l₁ := Wi ++ [(R, lst (refsT l ++ [.ref r2.a]) n3)]) (l₂ := (r2.a, lst (r2.vs ++ [.ref tu]) n2) :: l.map RowT.o)).symm)).drop (W1 := [r.o])
            have q := (hs.mono hm).close (v := .ref tu) (kt := true) (fun h => .sq (k := true) (nn := 0) (if_pos rfl) h) n2
            have O := O.cW (W' := Wi ++ ((R, lst (refsT l ++ [.ref r2.a]) n3) :: (RowT.mk r2.a (r2.vs ++ [.ref tu]) n2 (r2.ts ++ [.sq true r.ts])).o :: l.map RowT.o)) (by simp)
            refine hT _ _ ?_
            refine ⟨⟨_, _, _⟩, ?_, O⟩
            refine J4.mk (RowT.mk r2.a (r2.vs ++ [.ref tu]) n2 (r2.ts ++ [.sq true r.ts])) l n3 tot ?_ q (by lia) ?_ fun a o e => hm a o (hsub a o e)
            · exact m1
            · lia
        · skip
          refine N.execs_cons ?_
          refine r_ifN (c := c.re I) O (x % 10 = 3) ?_ (fun s O g17 => ?_) (fun s O g17 => ?_)
          · skip
            refine e_icmp ?_
            refine r_name (c := c.re I) O (kd hc) (by rfl) ?_
            refine r_int O fun k6 s O => ?_
            refine r_eqi ?_
            refine wpAny_truthy_bool ?_
            exact ⟨O, iff_dec (by lia)⟩
          · subst hW
            refine N.execs_cons (app4 O (kd hc) m1 hs hlen htot hi2 hsub (fun s WW O => ?_) fun s hend => ?_)
            · refine N.any ?_
              refine e_bin ?_
              refine r_name (c := c.re I) O (kd hc) (by rfl) ?_
              refine r_int O fun k7 s O => ?_
              refine r_mod O (by lia) fun k8 s O => ?_
              exact ⟨_, _, O, fun _ _ e => e, .n _ _, by rw [fm, It.dp]; lia, sz_int (by lia), small_int (by lia)⟩
            · skip
              repeat first | refine N.any (wpAny_execs_nil ?_) | refine wpAny_execs_nil ?_
              exact hT .next _ hend
          · skip
            refine N.execs_cons ?_
            refine r_ifN (c := c.re I) O (x % 10 = 4) ?_ (fun s O g17 => ?_) (fun s O g17 => ?_)
            · skip
              refine e_icmp ?_
              refine r_name (c := c.re I) O (kd hc) (by rfl) ?_
              refine r_int O fun k6 s O => ?_
              refine r_eqi ?_
              refine wpAny_truthy_bool ?_
              exact ⟨O, iff_dec (by lia)⟩
            · subst hW
              refine N.execs_cons (app4 O (kd hc) m1 hs hlen htot hi2 hsub (fun s WW O => ?_) fun s hend => ?_)
              · refine N.any ?_
                refine e_bin ?_
                refine r_name (c := c.re I) O (kd hc) (by rfl) ?_
                refine e_bin ?_
                refine r_int O fun k7 s O => ?_
                refine r_int O fun k8 s O => ?_
                refine r_pow (k := 40) O (by lia) fun k9 s O => ?_
                refine r_mod O pow40_pos fun k10 s O => ?_
                exact ⟨_, _, O, fun _ _ e => e, .n _ _, by rw [fm, It.dp]; lia, sz_int (mod40 _), mod40 _⟩
              · skip
                repeat first | refine N.any (wpAny_execs_nil ?_) | refine wpAny_execs_nil ?_
                exact hT .next _ hend
            · skip
              refine N.execs_cons ?_
              refine r_ifN (c := c.re I) O (x % 10 = 5) ?_ (fun s O g17 => ?_) (fun s O g17 => ?_)
              · skip
                refine e_icmp ?_
                refine r_name (c := c.re I) O (kd hc) (by rfl) ?_
                refine r_int O fun k6 s O => ?_
                refine r_eqi ?_
                refine wpAny_truthy_bool ?_
                exact ⟨O, iff_dec (by lia)⟩
              · subst hW
                refine N.execs_cons (app4 O (kd hc) m1 hs hlen htot hi2 hsub (fun s WW O => ?_) fun s hend => ?_)
                · refine N.any ?_
                  refine e_cmp ?_
                  refine e_bin ?_
                  refine r_name (c := c.re I) O (kd hc) (by rfl) ?_
                  refine r_int O fun k7 s O => ?_
                  refine r_mod O (by lia) fun k8 s O => ?_
                  refine r_int O fun k9 s O => ?_
                  refine r_eqi ?_
                  exact ⟨_, _, O, fun _ _ e => e, .b _, by rw [fm, It.dp]; lia, by rw [fm, It.sz]; split <;> simp, trivial⟩
                · skip
                  repeat first | refine N.any (wpAny_execs_nil ?_) | refine wpAny_execs_nil ?_
                  exact hT .next _ hend
              · skip
                refine N.execs_cons ?_
                refine r_ifN (c := c.re I) O (x % 10 = 6) ?_ (fun s O g17 => ?_) (fun s O g17 => ?_)
                · skip
                  refine e_icmp ?_
                  refine r_name (c := c.re I) O (kd hc) (by rfl) ?_
                  refine r_int O fun k6 s O => ?_
                  refine r_eqi ?_
                  refine wpAny_truthy_bool ?_
                  exact ⟨O, iff_dec (by lia)⟩
                · skip
                  refine N.asg ?_
                  refine k_def (c := c.re I) O (kd hc) (kn hK) (kk hK (by k_is)) ?_
                  refine e_more ?_
                  refine e_bin ?_
                  refine r_name (c := c.re I) O (kd hc) (by rfl) ?_
                  refine r_int O fun k7 s O => ?_
                  refine r_fdiv O (by lia) fun k8 s O => ?_
                  refine e_more ?_
                  refine e_bin ?_
                  refine r_name (c := c.re I) O (kd hc) (by rfl) ?_
                  refine r_int O fun k9 s O => ?_
                  refine r_mod O (by lia) fun k10 s O => ?_
                  refine spliced_none ⟨O.In, ?_⟩
                  refine r_pure (c := c.re I) O B ((octets_spec hK (n := _) (by lia) (d := 0) (u := 0) fun b t hbl s O _ => ?_).le (by lia) (by lia))
                  refine r_store (c := c.re I) O (kd hc) fun s O => ?_
                  obtain ⟨b, rfl⟩ : ∃ b0 : List UInt8, b = b0.toArray := ⟨b.toList, by simp⟩
                  rw [List.size_toArray] at hbl
                  subst hW
                  refine N.execs_cons (app4 (e := .IfExp _ _ _ _) O (kd hc) m1 hs hlen htot hi2 hsub (fun s WW O => ?_) fun s hend => ?_)
                  · refine N.IfExp ?_
                    refine e_icmp ?_
                    refine e_bin ?_
                    refine e_bin ?_
                    refine r_name (c := c.re I) O (kd hc) (by rfl) ?_
                    refine r_int O fun k7 s O => ?_
                    refine r_fdiv O (by lia) fun k8 s O => ?_
                    refine r_int O fun k9 s O => ?_
                    refine r_mod O (by lia) fun k10 s O => ?_
                    refine r_int O fun k11 s O => ?_
                    refine r_eqi ?_
                    refine wpAny_truthy_bool ?_
                    refine ite_dec (fun g1 => ?_) (fun g1 => ?_)
                    · refine N.Call ?_
                      refine r_blt (c := c.re I) O (kd hc) (kn hK) PyProof.Rows.Boot.«bytearray» ?_
                      refine N.callWithB rfl ?_
                      refine N.more (N.any ?_)
                      refine r_name (c := c.re I) O (kd hc) (by rfl) ?_
                      refine spliced_none ?_
                      refine r_baN (c := c.re I) O (by lia) fun a s O => ?_
                      have hm := sub_fix (o := baO b) (O.wI (a, baO b) (.head _))
                      have O := O.fix
                      exact ⟨_, .ba b, O, hm, .ba (if_pos rfl), by rw [fm, It.dp]; lia, by rw [fm, It.sz]; lia, trivial⟩
                    · refine N.any ?_
                      refine r_name (c := c.re I) O (kd hc) (by rfl) ?_
                      exact ⟨_, .o b, O, fun _ _ e => e, .o _ _, by rw [fm, It.dp]; lia, by rw [fm, It.sz]; lia, trivial⟩
                  · skip
                    repeat first | refine N.any (wpAny_execs_nil ?_) | refine wpAny_execs_nil ?_
                    exact hT .next _ hend
                · skip
                  refine N.execs_cons ?_
                  refine r_ifN (c := c.re I) O (x % 10 = 7) ?_ (fun s O g17 => ?_) (fun s O g17 => ?_)
                  · skip
                    refine e_icmp ?_
                    refine r_name (c := c.re I) O (kd hc) (by rfl) ?_
                    refine r_int O fun k6 s O => ?_
                    refine r_eqi ?_
                    refine wpAny_truthy_bool ?_
                    exact ⟨O, iff_dec (by lia)⟩
                  · subst hW
                    refine N.execs_cons (app4 O (kd hc) m1 hs hlen htot hi2 hsub (fun s WW O => ?_) fun s hend => ?_)
                    · refine N.any ?_
                      refine e_bin ?_
                      refine e_call ?_
                      refine r_blt (c := c.re I) O (kd hc) (kn hK) PyProof.Rows.Boot.«bytes» ?_
                      refine c_t1 ?_
                      refine e_more ?_
                      refine e_lst ?_
                      refine e_more ?_
                      refine e_bin ?_
                      refine r_name (c := c.re I) O (kd hc) (by rfl) ?_
                      refine r_int O fun k7 s O => ?_
                      refine r_mod O (by lia) fun k8 s O => ?_
                      refine spliced_none ?_
                      refine r_newList O (sz_small (by simp)) fun a1 s O => ?_
                      refine spliced_none ?_
                      refine r_bytesOf O (O.wr (a1, lst _ 0) (.head _)) (.cons _ _ .nil) (by intro n hn; rw [List.mem_singleton.mp hn]; lia) (by simp) B.h fun k9 s O => ?_
                      have O := O.drop (W1 := [(_, lst _ 0)])
                      refine e_bin ?_
                      refine r_int O fun k10 s O => ?_
                      refine e_bin ?_
                      refine e_bin ?_
                      refine r_name (c := c.re I) O (kd hc) (by rfl) ?_
                      refine r_int O fun k11 s O => ?_
                      refine r_fdiv O (by lia) fun k12 s O => ?_
                      refine r_int O fun k13 s O => ?_
                      refine r_mod O (by lia) fun k14 s O => ?_
                      refine r_add O fun k15 s O => ?_
                      refine r_mulB O (by simp) (by simp) (by lia) fun kq s O => ?_
                      exact ⟨_, _, O, fun _ _ e => e, .o _ _, by rw [fm, It.dp]; lia, by rw [fm, It.sz]; simp only [List.map_cons, List.map_nil, flat_len]; lia, trivial⟩
                    · skip
                      repeat first | refine N.any (wpAny_execs_nil ?_) | refine wpAny_execs_nil ?_
                      exact hT .next _ hend
                  · skip
                    refine N.execs_cons ?_
                    refine r_ifN (c := c.re I) O (x % 10 = 8) ?_ (fun s O g17 => ?_) (fun s O g17 => ?_)
                    · skip
                      refine e_icmp ?_
                      refine r_name (c := c.re I) O (kd hc) (by rfl) ?_
                      refine r_int O fun k6 s O => ?_
                      refine r_eqi ?_
                      refine wpAny_truthy_bool ?_
                      exact ⟨O, iff_dec (by lia)⟩
                    · subst hW
                      refine N.execs_cons (app4 O (kd hc) m1 hs hlen htot hi2 hsub (fun s WW O => ?_) fun s hend => ?_)
                      · refine N.any ?_
                        refine e_sub ?_
                        refine e_lst ?_
                        refine e_more ?_
                        refine r_none ?_
                        refine e_more ?_
                        refine e_bin ?_
                        refine UnaryOp_ ?_
                        refine r_int O fun k7 s O => ?_
                        refine r_neg O fun k8 s O => ?_
                        refine e_bin ?_
                        refine r_name (c := c.re I) O (kd hc) (by rfl) ?_
                        refine r_int O fun k9 s O => ?_
                        refine r_mod O (by lia) fun k10 s O => ?_
                        refine r_sub O fun k11 s O => ?_
                        refine e_more ?_
                        refine e_lst ?_
                        refine spliced_none ?_
                        refine r_newList O (sz_small (by simp)) fun a1 s O => ?_
                        refine e_more ?_
                        refine e_lst ?_
                        refine e_more ?_
                        refine e_tup ?_
                        refine spliced_none ?_
                        refine r_newTuple O (sz_small (by simp)) fun a2 s O => ?_
                        refine spliced_none ?_
                        refine r_newList O (sz_small (by simp)) fun a3 s O => ?_
                        refine e_more ?_
                        refine r_bytes O fun k12 s O => ?_
                        refine e_more ?_
                        refine r_int O fun k13 s O => ?_
                        refine e_more ?_
                        refine e_tup ?_
                        refine e_more ?_
                        refine r_bytes O fun k14 s O => ?_
                        refine spliced_none ?_
                        refine r_newTuple O (sz_small (by simp)) fun a4 s O => ?_
                        refine e_more ?_
                        refine r_bool ?_
                        refine spliced_none ?_
                        refine r_newList O (sz_small (by simp)) fun a5 s O => ?_
                        refine e_bin ?_
                        refine r_name (c := c.re I) O (kd hc) (by rfl) ?_
                        refine r_int O fun k15 s O => ?_
                        refine r_mod O (by lia) fun k16 s O => ?_
                        have h4 := sub_fix (o := tup [Value.bytes ([] : List UInt8).toArray k14]) (O.wI (a4, tup _) (.tail _ (.head _)))
                        have hz : 0 ≤ x / 10 % 8 ∧ x / 10 % 8 < 8 := by lia
                        obtain ⟨j, hj⟩ : ∃ j : Nat, j = (x / 10 % 8).toNat := ⟨_, rfl⟩
                        have hj8 : j < 8 := by lia
                        obtain ⟨v, hv⟩ : ∃ v, [Value.none, .int (-1 - x / 10 % 300) k11, .ref a1, .ref a3, .bytes ([] : List UInt8).toArray k12, .int 0 k13, .ref a4, .bool false][j]? = some v := ⟨_, List.getElem?_eq_getElem (by simpa using hj8)⟩
                        refine r_itemLt (v := v) (O.wr (a5, lst _ 0) (.head _)) (by simp) hz.1 (by rw [← hj]; exact hv) ?_
                        have O := O.drop (W1 := [(a5, _)])
                        have h4 := sub_fix (o := tup [Value.bytes ([] : List UInt8).toArray k14]) (O.wI (a4, tup _) (.head _))
                        have O := O.fix
                        have h3 := sub_fix (o := lst [Value.ref a2] 0) (O.wI (a3, lst _ 0) (.head _))
                        have O := O.fix
                        have h2 := sub_fix (o := tup []) (O.wI (a2, tup _) (.head _))
                        have O := O.fix
                        have h1 := sub_fix (o := lst [] 0) (O.wI (a1, lst _ 0) (.head _))
                        have O := O.fix
                        refine ⟨_, _, O, fun a o e => h1 _ _ (h2 _ _ (h3 _ _ (h4 _ _ e))), pick8 (x := x) hj8 hv (if_pos rfl) (h1 _ _ (if_pos rfl)) (h1 _ _ (h2 _ _ (if_pos rfl))) (h1 _ _ (h2 _ _ (h3 _ _ (if_pos rfl)))), pick8_dp j hj8, pick8_sz j hj8, pick8_sm j hj8⟩
                      · skip
                        repeat first | refine N.any (wpAny_execs_nil ?_) | refine wpAny_execs_nil ?_
                        exact hT .next _ hend
                    · subst hW
                      refine N.execs_cons (app4 O (kd hc) m1 hs hlen htot hi2 hsub (fun s WW O => ?_) fun s hend => ?_)
                      · refine N.any ?_
                        refine e_tup ?_
                        refine spliced_none ?_
                        refine r_newTuple O (sz_small (by simp)) fun a s O => ?_
                        have hm := sub_fix (o := tup []) (O.wI (a, tup []) (.head _))
                        have O := O.fix
                        exact ⟨_, .sq true [], O, hm, .sq (k := true) (nn := 0) (if_pos rfl) .nil, by simp [fm, fmL, It.dp, It.dpL], by simp [fm, fmL, It.sz, It.szL], trivial⟩
                      · skip
                        repeat first | refine N.any (wpAny_execs_nil ?_) | refine wpAny_execs_nil ?_
                        exact hT .next _ hend
  · cases hJ with | @mk m I' r l nR tot m1 hs hlen htot hsub =>
    have O0 := O
    refine N.any ?_
    refine e_cons ?_
    refine wpAny_mono (E := ESt G c NoE) ?_ (fun _ _ h => h) fun e s' h => ?_
    rotate_left
    · obtain ⟨x, st', h1, h2, h3, h4⟩ := h; exact (h4 0).elim
    refine r_while (J4w I R (300 * vs.length + 10)) l.length O B.f ⟨r, l, nR, tot, m1, hs, hlen, htot, hsub, rfl⟩ (fun k st s hJ O => ?_)
    clear hsub m1 hs hlen htot
    cases hJ with | @mk m I2 r l nR tot m1 hs hlen htot hsub hk =>
    subst hk
    have hrl := hs.len
    refine e_icmp ?_
    refine e_call ?_
    refine r_blt (c := c.re I') O (kd hc) (kn hK) PyProof.Rows.Boot.«len» ?_
    refine c_b1 ?_
    refine k_arg (c := c.re I') O (kd hc) m1 ?_
    refine spliced_none ?_
    refine r_lenL O (O.wr (R, lst (refsT l ++ [.ref r.a]) nR) (.head _)) (by simp [refsT_len]; lia) fun k53 s O => ?_
    refine r_int O fun k54 s O => ?_
    refine gt_int ?_
    refine wpAny_truthy_bool ?_
    refine ite_dec (fun g1 => ?_) (fun g1 => ?_)
    · skip
      cases l with
      | nil => exact absurd g1 (by simp [refsT])
      | cons r2 l =>
        rw [refsT_cons] at O
        simp only [List.map_cons] at O
        simp only [List.length_cons] at hlen
        refine k_asg ?_
        refine e_meth ?_
        refine r_name (c := c.re I') O (kd hc) m1 ?_
        refine r_getML PySem.F.slot_list_pop PySem.F.type_list_pop (O.wr (R, lst (refsT l ++ [.ref r2.a] ++ [.ref r.a]) nR) (.head _)) ?_
        refine r_pop (c := c.re I') (W1 := []) (W2 := r.o :: r2.o :: l.map RowT.o) (vs := refsT l ++ [.ref r2.a]) (l := R) O (by simp [refsT_len]; lia) fun s n3 O => ?_
        refine r_store (c := c.re I') (l := []) (m := m) O.over (kd hc) fun s O => ?_
        refine e_cons ?_
        refine r_expr (c := c.re I') O ?_
        refine e_meth ?_
        refine e_sub ?_
        refine r_name (c := c.re I') O (kd hc) m1 ?_
        refine UnaryOp_ ?_
        refine r_int O fun kz s O => ?_
        refine r_neg O fun kz s O => ?_
        refine r_last (O.wr (R, lst (refsT l ++ [.ref r2.a]) n3) (.head _)) (by rw [refsT_len]; lia) ?_
        refine r_getAppend (c := c.re I') (l := r2.a) (vs := r2.vs) (n := r2.n) O (by simp) ?_
        refine c_m1 ?_
        refine k_arg (c := c.re I') O (kd hc) (by rfl) ?_
        refine spliced_none ?_
        refine r_append (c := c.re I') (W1 := [(R, lst (refsT l ++ [.ref r2.a]) n3), r.o]) (W2 := l.map RowT.o) (l := r2.a) (vs := r2.vs) (n := r2.n) (by simpa using O) (sz_small (by obtain ⟨_, _, _, k, h3, h4⟩ := hs; have := h3.len; lia)) fun s n2 O => ?_
        refine wpAny_execs_nil ?_
        have hr0 : I2 r.a = none := O.wI r.o (by simp)
        have hm := sub_fix (o := lst r.vs r.n) hr0
        have O := Ok.fix' (x := r.a) (o := lst r.vs r.n) (W1 := [(R, lst (refsT l ++ [.ref r2.a]) n3)]) (W2 := (r2.a, lst (r2.vs ++ [.ref r.a]) n2) :: l.map RowT.o) (by simpa using O)
        have q := (hs.mono hm).close (v := .ref r.a) (kt := false) (fun h => .sq (k := false) (nn := r.n) (if_pos rfl) h) n2
        have O := O.cW (W' := ((R, lst (refsT l ++ [.ref r2.a]) n3) :: (RowT.mk r2.a (r2.vs ++ [.ref r.a]) n2 (r2.ts ++ [.sq false r.ts])).o :: l.map RowT.o)) (by simp)
        refine ⟨l.length, ⟨_, _, _⟩, by simp, ?_, O⟩
        refine J4w.mk (RowT.mk r2.a (r2.vs ++ [.ref r.a]) n2 (r2.ts ++ [.sq false r.ts])) l n3 tot ?_ q (by lia) htot (fun a o e => hm a o (hsub a o e)) rfl
        exact m1
    · skip
      cases l with
      | cons r2 l => exact absurd g1 (by simp [refsT]; lia)
      | nil =>
        have O := O0.unre0 O
        refine k_ret ?_
        refine e_sub ?_
        refine r_name O (kd hc) m1 ?_
        refine r_int O fun kz s O => ?_
        refine r_itemL (v := .ref r.a) (O.wr (R, lst (refsT [] ++ [.ref r.a]) nR) (.head _)) (by simp [refsT]) (by decide) (by simp [refsT]) ?_
        have hr0 : I2 r.a = none := O.wI r.o (by simp)
        have hm := sub_fix (o := lst r.vs r.n) hr0
        have O := Ok.fix' (x := r.a) (o := lst r.vs r.n) (W1 := [(R, lst (refsT [] ++ [.ref r.a]) nR)]) (W2 := []) (by simpa using O)
        have O := Ok.drop (W := []) O
        obtain ⟨h1, h2, h6, k, h3, h4⟩ := hs.mono hm
        have htot' : vs.length ≤ 16 := by lia
        exact ⟨_, _, [], O, h _ _ r.vs r.n r.ts (fun a o e => hm a o (hsub a o e)) (by rw [if_pos rfl]) h1 (by lia) (by simpa using h2) h6⟩
theorem encT_len {t : It} (hz : t.sz ≤ 8000000) : (enc t).length ≤ t.sz := by
  have := putF_len t 0 (by lia)
  rwa [(putF_enc t 0 (Int.le_refl _)).1] at this
theorem encTL_len {ts : List It} (hz : It.szL ts ≤ 8000000) : (encL ts).length ≤ It.szL ts := by
  have := putL_len ts 0 (by lia)
  rwa [(putL_enc ts 0 (Int.le_refl _)).1] at this
theorem szL_takeR (ts : List It) (i : Nat) : It.szL (ts.take i) ≤ It.szL ts := by
  have := szL_append (ts.take i) (ts.drop i)
  rw [List.take_append_drop] at this
  lia
inductive J3 (I : Hp) (ts : List It) (i : Nat) : St → Prop
  | mk {m : Mp} (k : Tok) (m1 : m "body" = some (.bytes (encL (ts.take i)).toArray k)) : J3 I ts i ⟨m, I, []⟩
set_option maxHeartbeats 0 in
theorem put_spec (hK : G.K = KK G.w.params) : ∀ (n : Nat) (t : It), t.dp < n → t.sz ≤ 8000000 → ∀ {v : Value} {I : Hp} {Q : Value → Hp → Ws → Prop} {E : Ex → Hp → Ws → Prop},
    Rep I v t → (∀ t', Q (.bytes (enc t).toArray t') I []) → Cl G (.ref 1806) [v] none (n + 2) (3 * n + 16) I [] Q E
  | 0, _, h => absurd h (by lia)
  | n + 1, t, hn => by
    intro hz v I Q E hr h
    refine enterK (d := n + 2) (u := 3 * n + 16) (binds := [("item", v)]) (kl hK) (kc hK) (by rfl) (by rfl) (by rfl) (by rfl) (by rfl) (by rfl) fun c A s hc O B => ?_
    cases hr with
    | s b tb =>
      refine r_guard O False ?_ fun s O g => g.elim
      refine wpAny_If ?_
      refine e_plain ?_
      refine k_isi O (kd hc) (kn hK) (kd hc) (by rfl) (kd hc) (kn hK) PyProof.Rows.Boot.«bytes» kitx_bytes trivial (by rfl) (by simp) fun s O => ?_
      refine wpAny_truthy_bool (ite_t ?_)
      have hbz : b.length ≤ 8000000 := by rw [It.sz] at hz; lia
      refine r_guard O (¬ (b.length = 1 ∧ (b.getD 0 0).toNat < 128)) ?_ fun s O g2 => ?_
      · refine wpAny_If ?_
        refine e_and ?_
        refine e_icmp ?_
        refine k_lenB O (kd hc) (kn hK) (kd hc) (by rfl) (by lia) fun k7 s O => ?_
        refine r_int O fun k8 s O => ?_
        refine eq_int ?_
        refine wpAny_truthy_bool ?_
        refine ite_b (fun g3 => ?_) (fun g3 => ite_f (wpAny_execs_nil ⟨O, fun g => by simp [g.1] at g3⟩))
        have g3' : b.length = 1 := by have : (b.length : Int) = 1 := by simpa using g3
                                      lia
        refine e_and ?_
        refine e_icmp ?_
        refine e_sub ?_
        refine r_name O (kd hc) (by rfl) ?_
        refine r_int O fun k9 s O => ?_
        refine r_itemB O (by lia) (by lia) fun k10 s O => ?_
        refine r_int O fun k11 s O => ?_
        refine lt_int ?_
        refine wpAny_truthy_bool ?_
        refine ite_dec (fun g4 => ?_) (fun g4 => ite_f (wpAny_execs_nil ⟨O, fun g => g4 (by have := g.2; simp only [Int.toNat_zero]; lia)⟩))
        refine isTrue_and_nil (ite_t ?_)
        have g4' : (b.getD 0 0).toNat < 128 := by simp only [Int.toNat_zero] at g4; lia
        refine k_ret ?_
        refine r_name O (kd hc) (by rfl) ?_
        rw [enc, if_pos ⟨g3', g4'⟩] at h
        exact ⟨_, I, _, O, h _⟩
      · refine k_ret ?_
        refine e_bin ?_
        refine k_def O (kd hc) (kn hK) (kk hK (by k_is)) ?_
        refine e_more ?_
        refine r_int O fun k7 s O => ?_
        refine e_more ?_
        refine k_lenB O (kd hc) (kn hK) (kd hc) (by rfl) (by lia) fun k8 s O => ?_
        refine spliced_none ⟨O.In, ?_⟩
        refine r_pure O B ((head_spec hK (base := 128) (size := b.length) (.inl rfl) (by lia) (d := 0) (u := 0) fun t s O _ => ?_).le (by lia) (by lia))
        refine r_name O (kd hc) (by rfl) ?_
        have hl := headF_len 128 b.length false (by lia)
        refine r_addB O (by simp only [bytesOf, List.length_map]; lia) fun k13 s O => ?_
        rw [enc, if_neg g2] at h
        exact ⟨_, I, _, O, h _⟩
    | @l a vs nn ts e r =>
      refine r_guard O True ?_ fun s O _ => ?_
      · refine wpAny_If ?_
        refine e_plain ?_
        refine k_isi O (kd hc) (kn hK) (kd hc) (by rfl) (kd hc) (kn hK) PyProof.Rows.Boot.«bytes» kitx_list ⟨_, O.im _ _ e, rfl⟩ (by rfl) (by simp) fun s O => ?_
        exact wpAny_truthy_bool (ite_f (wpAny_execs_nil ⟨O, trivial⟩))
      refine k_asg ?_
      refine r_bytes O fun k7 s O => ?_
      refine r_store O.over (kd hc) fun s O => ?_
      refine e_cons ?_
      refine wpAny_mono (E := ESt G c NoE) ?_ (fun _ _ h => h) fun e s' h => ?_
      rotate_left
      · obtain ⟨x, st', h1, h2, h3, h4⟩ := h; exact (h4 0).elim
      refine wpAny_For ?_
      refine r_name O (kd hc) (by rfl) ?_
      have lent := r.length
      rw [It.sz] at hz
      rw [It.dp] at hn
      refine r_list_loop (J3 I ts) B.h O e (kd hc) B.f ⟨k7, rfl⟩ (fun i v st Wi s hi hJ O => ?_) (fun st s hJ O _ => ?_)
      · cases hJ with | @mk m k m1 =>
        obtain ⟨t, ht, hrt⟩ := r.get hi
        have hmem : t ∈ ts := List.mem_of_getElem? ht
        have h1 := szL_memR hmem
        have h2 := dpL_memR hmem
        have h3 := encTL_len (ts := ts.take i) (by have := szL_takeR ts i; lia)
        have h3' := szL_takeR ts i
        have h4 := encT_len (t := t) (by lia)
        refine k_asg ?_
        refine e_bin ?_
        refine r_name (c := c.re I) O (kd hc) m1 ?_
        refine k_def (c := c.re I) O (kd hc) (kn hK) (kk hK (by k_is)) ?_
        refine k_arg (c := c.re I) O (kd hc) (by rfl) ?_
        refine spliced_none ⟨O.In, ?_⟩
        refine r_pure (c := c.re I) O B (put_spec hK n t (by lia) (by lia) hrt fun t' s O _ => ?_)
        refine r_addB O (by lia) fun k13 s O => ?_
        refine r_store (c := c.re I) O (kd hc) fun s O => ?_
        refine wpAny_execs_nil ?_
        refine ⟨⟨_, I, []⟩, ⟨k13, ?_⟩, O⟩
        rw [List.take_add_one, ht, encL_append]
        simp [encL]
      · cases hJ with | @mk m k m1 =>
        rw [lent, List.take_length] at m1
        have h3 := encTL_len (ts := ts) (by lia)
        refine k_ret ?_
        refine e_bin ?_
        refine k_def O (kd hc) (kn hK) (kk hK (by k_is)) ?_
        refine e_more ?_
        refine r_int O fun k7 s O => ?_
        refine e_more ?_
        refine k_lenB O (kd hc) (kn hK) (kd hc) m1 (by lia) fun k8 s O => ?_
        refine spliced_none ⟨O.In, ?_⟩
        refine r_pure O B ((head_spec hK (base := 192) (.inr rfl) (by lia) (d := 0) (u := 0) fun t s O _ => ?_).le (by lia) (by lia))
        refine r_name O (kd hc) m1 ?_
        have hl := headF_len 192 (encL ts).length false (by lia)
        refine r_addB O (by simp only [bytesOf, List.length_map]; lia) fun k13 s O => ?_
        rw [enc] at h
        exact ⟨_, I, _, O, h _⟩
noncomputable def rdB (x : List UInt8) (p b : Nat) : HR :=
  if b < 128 then .ok [] false 1 p
  else if b < 184 then
    if b = 129 ∧ x.length ≤ p + 1 then .idx
    else if b = 129 ∧ (x.getD (p + 1) 0).toNat < 128 then .dec
    else .ok (slc x p 1) false (b - 128) (p + 1)
  else if b < 192 then
    if slc x (p + 1) 1 = [0] then .dec
    else if vD (slc x (p + 1) (b - 183)) < 56 then .dec
    else .ok (slc x p 1 ++ slc x (p + 1) (b - 183)) false (vD (slc x (p + 1) (b - 183))) (p + 1 + (b - 183))
  else if b < 248 then .ok (slc x p 1) true (b - 192) (p + 1)
  else
    if slc x (p + 1) 1 = [0] then .dec
    else if vD (slc x (p + 1) (b - 247)) < 56 then .dec
    else .ok (slc x p 1 ++ slc x (p + 1) (b - 247)) true (vD (slc x (p + 1) (b - 247))) (p + 1 + (b - 247))
section
variable {x : List UInt8} {p b : Nat}
theorem rdH_b (hbb : (x.getD p 0).toNat = b) (hnp : ¬ x.length ≤ p) : rdH x p = rdB x p b := by subst hbb; exact if_neg hnp
theorem rdB1 (h : b < 128) : rdB x p b = .ok [] false 1 p := if_pos h
theorem rdB2 (h1 : ¬ b < 128) (h2 : b < 184) : rdB x p b = if b = 129 ∧ x.length ≤ p + 1 then .idx else if b = 129 ∧ (x.getD (p + 1) 0).toNat < 128 then .dec else .ok (slc x p 1) false (b - 128) (p + 1) := (if_neg h1).trans (if_pos h2)
theorem rdB3 (h1 : ¬ b < 184) (h2 : b < 192) : rdB x p b = if slc x (p + 1) 1 = [0] then .dec else if vD (slc x (p + 1) (b - 183)) < 56 then .dec else .ok (slc x p 1 ++ slc x (p + 1) (b - 183)) false (vD (slc x (p + 1) (b - 183))) (p + 1 + (b - 183)) :=
  (if_neg (by omega)).trans ((if_neg h1).trans (if_pos h2))
theorem rdB4 (h1 : ¬ b < 192) (h2 : b < 248) : rdB x p b = .ok (slc x p 1) true (b - 192) (p + 1) := (if_neg (by omega)).trans ((if_neg (by omega)).trans ((if_neg h1).trans (if_pos h2)))
theorem rdB5 (h1 : ¬ b < 248) : rdB x p b = if slc x (p + 1) 1 = [0] then .dec else if vD (slc x (p + 1) (b - 247)) < 56 then .dec else .ok (slc x p 1 ++ slc x (p + 1) (b - 247)) true (vD (slc x (p + 1) (b - 247))) (p + 1 + (b - 247)) :=
  (if_neg (by omega)).trans ((if_neg (by omega)).trans ((if_neg (by omega)).trans (if_neg h1)))
end
set_option maxHeartbeats 0 in
theorem cl_ok (hK : G.K = KK G.w.params) {x : List UInt8} {t1 t2 : Tok} {p : Nat} (hx : x.length ≤ 1000000) {d u : Nat} {I : Hp} {Q : Value → Hp → Ws → Prop} {E : Ex → Hp → Ws → Prop}
    (hok : ∀ pre l sz q, rdH x p = .ok pre l sz q → ∀ I' a k1 k2 k3 k4, (∀ a o, I a = some o → I' a = some o) → I' a = some (tup [.bytes pre.toArray k1, .str (if l then "list" else "bytes") k2, .int sz k3, .int q k4]) → Q (.ref a) I' []) {pre₀ : List UInt8} {l₀ : Bool} {sz₀ q₀ : Nat} (hr : rdH x p = .ok pre₀ l₀ sz₀ q₀) :
    Cl G (.ref 1736) [.bytes x.toArray t1, .int p t2] none (d + 5 + 1) (u + 20 + 3) I [] Q E := by
  refine enterK (binds := [("rlp", .bytes x.toArray t1), ("start", .int p t2)]) (kl hK) (kc hK) (by rfl) (by rfl) (by rfl) (by rfl) (by rfl) (by rfl) fun c A s hc O B => ?_
  refine k_asg ?_
  refine e_sub ?_
  refine r_name O (kd hc) (by rfl) ?_
  refine r_name O (kd hc) (by rfl) ?_
  refine r_itemBx O B.h (by lia) (fun hp k1 s O => ?_) (fun hp e s O hn he hcx => nomatch (show rdH x p = .idx by unfold rdH; rw [if_pos hp]).symm.trans hr)
  refine r_store O (kd hc) fun s O => ?_
  have hb := (x.getD p 0).toNat_lt
  generalize hbb : (x.getD p 0).toNat = b at O hb
  have hnp : ¬ x.length ≤ p := by lia
  refine e_cons ?_
  refine r_if O (b < 128) ?_ (fun s O g0 => ?_) (fun s O g0 => ?_)
  · skip
    refine e_icmp ?_
    refine r_name O (kd hc) (by rfl) ?_
    refine r_int O fun k1 s O => ?_
    refine lt_int ?_
    refine wpAny_truthy_bool ?_
    exact ⟨O, iff_dec (by lia)⟩
  · skip
    refine k_ret ?_
    refine e_tup ?_
    refine e_more ?_
    refine r_bytes O fun k2 s O => ?_
    refine e_more ?_
    refine r_str O fun k3 s O => ?_
    refine e_more ?_
    refine r_int O fun k4 s O => ?_
    refine k_arg O (kd hc) (by rfl) ?_
    refine spliced_none ?_
    refine r_newTuple O (sz_small (by simp)) fun a1 s O => ?_
    have nI := O.wI _ (.head _)
    have O := O.fix
    refine ⟨_, _, _, O, hok _ _ _ _ ((rdH_b hbb hnp).trans (rdB1 (by lia))) _ _ ?_ ?_ ?_ ?_ (sub_fix nI) ?_⟩
    rotate_left 4
    rw [if_pos rfl]; rfl
  · skip
    refine e_cons ?_
    refine r_if O (b < 184) ?_ (fun s O g0 => ?_) (fun s O g0 => ?_)
    · skip
      refine e_icmp ?_
      refine r_name O (kd hc) (by rfl) ?_
      refine r_glob O (kd hc) (kn hK) ?_
      refine lt_int ?_
      refine wpAny_truthy_bool ?_
      exact ⟨O, iff_dec (by lia)⟩
    · skip
      have ep : cut x (some (p : Int)) (some ((p : Int) + 1)) = slc x p 1 := cut_slc (by lia) (by lia)
      refine e_cons ?_
      refine wpAny_If ?_
      refine e_and ?_
      refine e_icmp ?_
      refine e_bin ?_
      refine r_name O (kd hc) (by rfl) ?_
      refine r_int O fun k5 s O => ?_
      refine r_sub O fun k6 s O => ?_
      refine r_int O fun k7 s O => ?_
      refine r_eqi ?_
      refine wpAny_truthy_bool ?_
      refine ite_dec (fun g1 => ?_) (fun g1 => ite_f (wpAny_execs_nil ?_))
      · skip
        refine e_and ?_
        refine e_icmp ?_
        refine e_sub ?_
        refine r_name O (kd hc) (by rfl) ?_
        refine e_bin ?_
        refine r_name O (kd hc) (by rfl) ?_
        refine r_int O fun k8 s O => ?_
        refine r_add O fun k9 s O => ?_
        rw [show (p : Int) + 1 = ((p + 1 : Nat) : Int) by lia]
        refine r_itemBx O B.h (by lia) (fun hp1 k1 s O => ?_) (fun hp1 e s O hn he hcx => nomatch (Eq.symm (((rdH_b hbb hnp).trans (rdB2 (by lia) (by lia))).trans (if_pos (⟨by lia, hp1⟩)))).trans hr)
        refine r_int O fun k2 s O => ?_
        refine lt_int ?_
        refine wpAny_truthy_bool ?_
        refine ite_dec (fun g2 => ?_) (fun g2 => ite_f (wpAny_execs_nil ?_))
        · skip
          refine isTrue_and_nil (ite_t ?_)
          exact nomatch (Eq.symm (((rdH_b hbb hnp).trans (rdB2 (by lia) (by lia))).trans ((if_neg (by lia)).trans (if_pos (⟨by lia, by lia⟩))))).trans hr
        · skip
          refine k_ret ?_
          refine e_tup ?_
          refine e_more ?_
          refine e_sub ?_
          refine r_name O (kd hc) (by rfl) ?_
          refine e_slc ?_
          refine p_some ?_
          refine r_name O (kd hc) (by rfl) ?_
          refine p_some ?_
          refine e_bin ?_
          refine r_name O (kd hc) (by rfl) ?_
          refine r_int O fun k11 s O => ?_
          refine r_add O fun k12 s O => ?_
          refine p_none ?_
          refine r_sliceB O (by lia) (.int _ _) (.int _ _) fun k13 s O => ?_
          refine e_more ?_
          refine r_str O fun k14 s O => ?_
          refine e_more ?_
          refine e_bin ?_
          refine r_name O (kd hc) (by rfl) ?_
          refine r_int O fun k15 s O => ?_
          refine r_sub O fun k16 s O => ?_
          refine e_more ?_
          refine e_bin ?_
          refine r_name O (kd hc) (by rfl) ?_
          refine r_int O fun k17 s O => ?_
          refine r_add O fun k18 s O => ?_
          refine spliced_none ?_
          refine r_newTuple O (sz_small (by simp)) fun a2 s O => ?_
          have nI := O.wI _ (.head _)
          have O := O.fix
          refine ⟨_, _, _, O, hok _ _ _ _ (((rdH_b hbb hnp).trans (rdB2 (by lia) (by lia))).trans ((if_neg (by lia)).trans (if_neg (by lia)))) _ _ ?_ ?_ ?_ ?_ (sub_fix nI) ?_⟩
          rotate_left 4
          rw [if_pos rfl, ep]
          rw [show (p : Int) + 1 = ((p + 1 : Nat) : Int) by lia, show (b : Int) - 128 = ((b - 128 : Nat) : Int) from icast (by lia)]
          rfl
      · skip
        refine k_ret ?_
        refine e_tup ?_
        refine e_more ?_
        refine e_sub ?_
        refine r_name O (kd hc) (by rfl) ?_
        refine e_slc ?_
        refine p_some ?_
        refine r_name O (kd hc) (by rfl) ?_
        refine p_some ?_
        refine e_bin ?_
        refine r_name O (kd hc) (by rfl) ?_
        refine r_int O fun k19 s O => ?_
        refine r_add O fun k20 s O => ?_
        refine p_none ?_
        refine r_sliceB O (by lia) (.int _ _) (.int _ _) fun k21 s O => ?_
        refine e_more ?_
        refine r_str O fun k22 s O => ?_
        refine e_more ?_
        refine e_bin ?_
        refine r_name O (kd hc) (by rfl) ?_
        refine r_int O fun k23 s O => ?_
        refine r_sub O fun k24 s O => ?_
        refine e_more ?_
        refine e_bin ?_
        refine r_name O (kd hc) (by rfl) ?_
        refine r_int O fun k25 s O => ?_
        refine r_add O fun k26 s O => ?_
        refine spliced_none ?_
        refine r_newTuple O (sz_small (by simp)) fun a3 s O => ?_
        have nI := O.wI _ (.head _)
        have O := O.fix
        refine ⟨_, _, _, O, hok _ _ _ _ (((rdH_b hbb hnp).trans (rdB2 (by lia) (by lia))).trans ((if_neg (by lia)).trans (if_neg (by lia)))) _ _ ?_ ?_ ?_ ?_ (sub_fix nI) ?_⟩
        rotate_left 4
        rw [if_pos rfl, ep]
        rw [show (p : Int) + 1 = ((p + 1 : Nat) : Int) by lia, show (b : Int) - 128 = ((b - 128 : Nat) : Int) from icast (by lia)]
        rfl
    · skip
      refine e_cons ?_
      refine r_if O (b < 192) ?_ (fun s O g0 => ?_) (fun s O g0 => ?_)
      · skip
        refine e_icmp ?_
        refine r_name O (kd hc) (by rfl) ?_
        refine r_int O fun k27 s O => ?_
        refine lt_int ?_
        refine wpAny_truthy_bool ?_
        exact ⟨O, iff_dec (by lia)⟩
      · skip
        refine k_asg ?_
        refine e_bin ?_
        refine r_name O (kd hc) (by rfl) ?_
        refine r_int O fun k28 s O => ?_
        refine r_sub O fun k29 s O => ?_
        refine r_store O (kd hc) fun s O => ?_
        have e0 : cut x (some ((p : Int) + 1)) (some ((p : Int) + 2)) = slc x (p + 1) 1 := cut_slc (by lia) (by lia)
        have ecut : cut x (some ((p : Int) + 1)) (some ((p : Int) + 1 + ((b : Int) - 183))) = slc x (p + 1) (b - 183) := cut_slc (by lia) (by lia)
        have ep : cut x (some (p : Int)) (some ((p : Int) + 1)) = slc x p 1 := cut_slc (by lia) (by lia)
        refine e_cons ?_
        refine r_if O (slc x (p + 1) 1 = [0]) ?_ (fun s O gz => ?_) (fun s O gz => ?_)
        · skip
          refine e_icmp ?_
          refine e_sub ?_
          refine r_name O (kd hc) (by rfl) ?_
          refine e_slc ?_
          refine p_some ?_
          refine e_bin ?_
          refine r_name O (kd hc) (by rfl) ?_
          refine r_int O fun k30 s O => ?_
          refine r_add O fun k31 s O => ?_
          refine p_some ?_
          refine e_bin ?_
          refine r_name O (kd hc) (by rfl) ?_
          refine r_int O fun k32 s O => ?_
          refine r_add O fun k33 s O => ?_
          refine p_none ?_
          refine r_sliceB O (by lia) (.int _ _) (.int _ _) fun k34 s O => ?_
          refine r_bytes O fun k35 s O => ?_
          refine r_eqB ?_
          refine wpAny_truthy_bool ?_
          refine ⟨O, ?_⟩
          rw [e0]
          exact beq_iff_eq
        · skip
          exact nomatch (Eq.symm (((rdH_b hbb hnp).trans (rdB3 (by lia) (by lia))).trans (if_pos (gz)))).trans hr
        refine wpAny_execs_nil ?_
        refine k_asg ?_
        refine e_sub ?_
        refine r_name O (kd hc) (by rfl) ?_
        refine e_slc ?_
        refine p_some ?_
        refine e_bin ?_
        refine r_name O (kd hc) (by rfl) ?_
        refine r_int O fun k37 s O => ?_
        refine r_add O fun k38 s O => ?_
        refine p_some ?_
        refine e_bin ?_
        refine e_bin ?_
        refine r_name O (kd hc) (by rfl) ?_
        refine r_int O fun k39 s O => ?_
        refine r_add O fun k40 s O => ?_
        refine r_name O (kd hc) (by rfl) ?_
        refine r_add O fun k41 s O => ?_
        refine p_none ?_
        refine r_sliceB O (by lia) (.int _ _) (.int _ _) fun k42 s O => ?_
        refine r_store O (kd hc) fun s O => ?_
        refine k_asg ?_
        refine k_def O (kd hc) (kn hK) (kk hK (by k_is)) ?_
        refine k_arg O (kd hc) (by rfl) ?_
        refine spliced_none ⟨O.In, ?_⟩
        refine r_pure O B ((toInt_spec hK (x := _) (by rw [ecut, slc_len]; exact minL (by lia)) (d := 0) (u := 0) fun kv s O _ => ?_).le (by lia) (by lia))
        refine r_store O (kd hc) fun s O => ?_
        refine e_cons ?_
        refine r_if O (vD (slc x (p + 1) (b - 183)) < 56) ?_ (fun s O gv => ?_) (fun s O gv => ?_)
        · skip
          refine e_icmp ?_
          refine r_name O (kd hc) (by rfl) ?_
          refine r_int O fun k43 s O => ?_
          refine lt_int ?_
          refine wpAny_truthy_bool ?_
          refine ⟨O, iff_dec ?_⟩
          rw [ecut]
          exact ilt _ 56
        · skip
          exact nomatch (Eq.symm (((rdH_b hbb hnp).trans (rdB3 (by lia) (by lia))).trans ((if_neg (gz)).trans (if_pos (gv))))).trans hr
        refine wpAny_execs_nil ?_
        refine k_ret ?_
        refine e_tup ?_
        refine e_more ?_
        refine e_bin ?_
        refine e_sub ?_
        refine r_name O (kd hc) (by rfl) ?_
        refine e_slc ?_
        refine p_some ?_
        refine r_name O (kd hc) (by rfl) ?_
        refine p_some ?_
        refine e_bin ?_
        refine r_name O (kd hc) (by rfl) ?_
        refine r_int O fun k45 s O => ?_
        refine r_add O fun k46 s O => ?_
        refine p_none ?_
        refine r_sliceB O (by lia) (.int _ _) (.int _ _) fun k47 s O => ?_
        refine r_name O (kd hc) (by rfl) ?_
        refine r_addB O (by rw [ep, ecut, slc_len, slc_len]; exact Nat.le_trans (Nat.add_le_add (minL (Nat.le_refl _)) (minL (c := 1000) (by lia))) (by decide)) fun k48 s O => ?_
        refine e_more ?_
        refine r_str O fun k49 s O => ?_
        refine k_arg O (kd hc) (by rfl) ?_
        refine e_more ?_
        refine e_bin ?_
        refine e_bin ?_
        refine r_name O (kd hc) (by rfl) ?_
        refine r_int O fun k50 s O => ?_
        refine r_add O fun k51 s O => ?_
        refine r_name O (kd hc) (by rfl) ?_
        refine r_add O fun k52 s O => ?_
        refine spliced_none ?_
        refine r_newTuple O (sz_small (by simp)) fun a4 s O => ?_
        have nI := O.wI _ (.head _)
        have O := O.fix
        refine ⟨_, _, _, O, hok _ _ _ _ (((rdH_b hbb hnp).trans (rdB3 (by lia) (by lia))).trans ((if_neg (gz)).trans (if_neg (gv)))) _ _ ?_ ?_ ?_ ?_ (sub_fix nI) ?_⟩
        rotate_left 4
        rw [if_pos rfl, ep, ecut]
        rw [show (p : Int) + 1 + ((b : Int) - 183) = ((p + 1 + (b - 183) : Nat) : Int) by lia]
        rfl
      · skip
        refine e_cons ?_
        refine r_if O (b < 248) ?_ (fun s O g0 => ?_) (fun s O g0 => ?_)
        · skip
          refine e_icmp ?_
          refine r_name O (kd hc) (by rfl) ?_
          refine e_bin ?_
          refine r_int O fun k53 s O => ?_
          refine r_int O fun k54 s O => ?_
          refine r_add O fun k55 s O => ?_
          refine lt_int ?_
          refine wpAny_truthy_bool ?_
          exact ⟨O, iff_dec (by lia)⟩
        · skip
          have ep : cut x (some (p : Int)) (some ((p : Int) + 1)) = slc x p 1 := cut_slc (by lia) (by lia)
          refine k_ret ?_
          refine e_tup ?_
          refine e_more ?_
          refine e_sub ?_
          refine r_name O (kd hc) (by rfl) ?_
          refine e_slc ?_
          refine p_some ?_
          refine r_name O (kd hc) (by rfl) ?_
          refine p_some ?_
          refine e_bin ?_
          refine r_name O (kd hc) (by rfl) ?_
          refine r_int O fun k56 s O => ?_
          refine r_add O fun k57 s O => ?_
          refine p_none ?_
          refine r_sliceB O (by lia) (.int _ _) (.int _ _) fun k58 s O => ?_
          refine e_more ?_
          refine r_str O fun k59 s O => ?_
          refine e_more ?_
          refine e_bin ?_
          refine r_name O (kd hc) (by rfl) ?_
          refine r_int O fun k60 s O => ?_
          refine r_sub O fun k61 s O => ?_
          refine e_more ?_
          refine e_bin ?_
          refine r_name O (kd hc) (by rfl) ?_
          refine r_int O fun k62 s O => ?_
          refine r_add O fun k63 s O => ?_
          refine spliced_none ?_
          refine r_newTuple O (sz_small (by simp)) fun a5 s O => ?_
          have nI := O.wI _ (.head _)
          have O := O.fix
          refine ⟨_, _, _, O, hok _ _ _ _ ((rdH_b hbb hnp).trans (rdB4 (by lia) (by lia))) _ _ ?_ ?_ ?_ ?_ (sub_fix nI) ?_⟩
          rotate_left 4
          rw [if_pos rfl, ep]
          rw [show (p : Int) + 1 = ((p + 1 : Nat) : Int) by lia, show (b : Int) - 192 = ((b - 192 : Nat) : Int) from icast (by lia)]
          rfl
        · skip
          refine k_asg ?_
          refine e_bin ?_
          refine e_bin ?_
          refine e_bin ?_
          refine r_name O (kd hc) (by rfl) ?_
          refine r_int O fun k64 s O => ?_
          refine r_sub O fun k65 s O => ?_
          refine r_int O fun k66 s O => ?_
          refine r_sub O fun k67 s O => ?_
          refine r_int O fun k68 s O => ?_
          refine r_add O fun k69 s O => ?_
          refine r_store O (kd hc) fun s O => ?_
          have e0 : cut x (some ((p : Int) + 1)) (some ((p : Int) + 2)) = slc x (p + 1) 1 := cut_slc (by lia) (by lia)
          have ecut : cut x (some ((p : Int) + 1)) (some ((p : Int) + 1 + ((b : Int) - 192 - 56 + 1))) = slc x (p + 1) (b - 247) := cut_slc (by lia) (by lia)
          have ep : cut x (some (p : Int)) (some ((p : Int) + 1)) = slc x p 1 := cut_slc (by lia) (by lia)
          refine e_cons ?_
          refine r_if O (slc x (p + 1) 1 = [0]) ?_ (fun s O gz => ?_) (fun s O gz => ?_)
          · skip
            refine e_icmp ?_
            refine e_sub ?_
            refine r_name O (kd hc) (by rfl) ?_
            refine e_slc ?_
            refine p_some ?_
            refine e_bin ?_
            refine r_name O (kd hc) (by rfl) ?_
            refine r_int O fun k70 s O => ?_
            refine r_add O fun k71 s O => ?_
            refine p_some ?_
            refine e_bin ?_
            refine r_name O (kd hc) (by rfl) ?_
            refine r_int O fun k72 s O => ?_
            refine r_add O fun k73 s O => ?_
            refine p_none ?_
            refine r_sliceB O (by lia) (.int _ _) (.int _ _) fun k74 s O => ?_
            refine r_bytes O fun k75 s O => ?_
            refine r_eqB ?_
            refine wpAny_truthy_bool ?_
            refine ⟨O, ?_⟩
            rw [e0]
            exact beq_iff_eq
          · skip
            exact nomatch (Eq.symm (((rdH_b hbb hnp).trans (rdB5 (by lia))).trans (if_pos (gz)))).trans hr
          refine wpAny_execs_nil ?_
          refine k_asg ?_
          refine e_sub ?_
          refine r_name O (kd hc) (by rfl) ?_
          refine e_slc ?_
          refine p_some ?_
          refine e_bin ?_
          refine r_name O (kd hc) (by rfl) ?_
          refine r_int O fun k77 s O => ?_
          refine r_add O fun k78 s O => ?_
          refine p_some ?_
          refine e_bin ?_
          refine e_bin ?_
          refine r_name O (kd hc) (by rfl) ?_
          refine r_int O fun k79 s O => ?_
          refine r_add O fun k80 s O => ?_
          refine r_name O (kd hc) (by rfl) ?_
          refine r_add O fun k81 s O => ?_
          refine p_none ?_
          refine r_sliceB O (by lia) (.int _ _) (.int _ _) fun k82 s O => ?_
          refine r_store O (kd hc) fun s O => ?_
          refine k_asg ?_
          refine k_def O (kd hc) (kn hK) (kk hK (by k_is)) ?_
          refine k_arg O (kd hc) (by rfl) ?_
          refine spliced_none ⟨O.In, ?_⟩
          refine r_pure O B ((toInt_spec hK (x := _) (by rw [ecut, slc_len]; exact minL (by lia)) (d := 0) (u := 0) fun kv s O _ => ?_).le (by lia) (by lia))
          refine r_store O (kd hc) fun s O => ?_
          refine e_cons ?_
          refine r_if O (vD (slc x (p + 1) (b - 247)) < 56) ?_ (fun s O gv => ?_) (fun s O gv => ?_)
          · skip
            refine e_icmp ?_
            refine r_name O (kd hc) (by rfl) ?_
            refine r_int O fun k83 s O => ?_
            refine lt_int ?_
            refine wpAny_truthy_bool ?_
            refine ⟨O, iff_dec ?_⟩
            rw [ecut]
            exact ilt _ 56
          · skip
            exact nomatch (Eq.symm (((rdH_b hbb hnp).trans (rdB5 (by lia))).trans ((if_neg (gz)).trans (if_pos (gv))))).trans hr
          refine wpAny_execs_nil ?_
          refine k_ret ?_
          refine e_tup ?_
          refine e_more ?_
          refine e_bin ?_
          refine e_sub ?_
          refine r_name O (kd hc) (by rfl) ?_
          refine e_slc ?_
          refine p_some ?_
          refine r_name O (kd hc) (by rfl) ?_
          refine p_some ?_
          refine e_bin ?_
          refine r_name O (kd hc) (by rfl) ?_
          refine r_int O fun k85 s O => ?_
          refine r_add O fun k86 s O => ?_
          refine p_none ?_
          refine r_sliceB O (by lia) (.int _ _) (.int _ _) fun k87 s O => ?_
          refine r_name O (kd hc) (by rfl) ?_
          refine r_addB O (by rw [ep, ecut, slc_len, slc_len]; exact Nat.le_trans (Nat.add_le_add (minL (Nat.le_refl _)) (minL (c := 1000) (by lia))) (by decide)) fun k88 s O => ?_
          refine e_more ?_
          refine r_str O fun k89 s O => ?_
          refine k_arg O (kd hc) (by rfl) ?_
          refine e_more ?_
          refine e_bin ?_
          refine e_bin ?_
          refine r_name O (kd hc) (by rfl) ?_
          refine r_int O fun k90 s O => ?_
          refine r_add O fun k91 s O => ?_
          refine r_name O (kd hc) (by rfl) ?_
          refine r_add O fun k92 s O => ?_
          refine spliced_none ?_
          refine r_newTuple O (sz_small (by simp)) fun a6 s O => ?_
          have nI := O.wI _ (.head _)
          have O := O.fix
          refine ⟨_, _, _, O, hok _ _ _ _ (((rdH_b hbb hnp).trans (rdB5 (by lia))).trans ((if_neg (gz)).trans (if_neg (gv)))) _ _ ?_ ?_ ?_ ?_ (sub_fix nI) ?_⟩
          rotate_left 4
          rw [if_pos rfl, ep, ecut]
          rw [show (p : Int) + 1 + ((b : Int) - 192 - 56 + 1) = ((p + 1 + (b - 247) : Nat) : Int) by lia]
          rfl
end
section
noncomputable def isLi : It → Bool
  | .s _ => false
  | .l _ => true
noncomputable def pay : It → List UInt8
  | .s b => b
  | .l ts => encL ts
theorem enc_rd {x : List UInt8} {p : Nat} {t : It} (hx : x.length ≤ 1000000) (h : slc x p (enc t).length = enc t) (hp : p + (enc t).length ≤ x.length) :
    ∃ pre q, rdH x p = .ok pre (isLi t) (pay t).length q ∧ q + (pay t).length = p + (enc t).length ∧ slc x q (pay t).length = pay t ∧ pre.length + (pay t).length ≤ (enc t).length := by
  rcases enc_split h hp with ⟨b, rfl, h1, h2, h3⟩ | ⟨base, y, hb, he, e1, e2, hc⟩
  · rw [h3] at h hp
    rw [h1] at h hp
    have hlt : p < x.length := by lia
    have hg := getD_slc h (by decide) hlt
    refine ⟨[], p, ?_, ?_, ?_, ?_⟩
    · show rdH x p = .ok [] false b.length p
      rw [h1]; unfold rdH
      rw [if_neg (by lia)]
      exact if_pos (by rw [hg]; exact h2)
    · show p + b.length = _
      rw [h3]
    · show slc x p b.length = b
      rw [h1]; exact h
    · rw [h3]; show 0 + b.length ≤ _; lia
  · have hl : (bytesOf (headF base y.length false)).length = (headF base y.length false).length := by simp [bytesOf]
    rw [he, List.length_append, hl] at hp
    have hn : y.length < 256 ^ 8 := by lia
    have hpy : pay t = y ∧ isLi t = decide (base = 192) ∧ (base = 128 → y.length = 1 → 128 ≤ (y.getD 0 0).toNat) := by
      rcases hc with ⟨rfl, rfl, hc⟩ | ⟨rfl, ts, rfl, rfl⟩
      · exact ⟨rfl, rfl, fun _ h1 => by rcases Nat.lt_or_ge (y.getD 0 0).toNat 128 with q | q; exact absurd ⟨h1, q⟩ hc; exact q⟩
      · exact ⟨rfl, rfl, fun q => by cases q⟩
    obtain ⟨hpy, hli, h1⟩ := hpy
    obtain ⟨pre, hr⟩ := head_rd hb hn (by lia) e1 (fun hb1 hn1 => by
      have := h1 hb1 hn1
      have h56 : (headF base y.length false).length = 1 := by rw [head_len hn, if_pos (by lia)]
      rw [h56, hn1] at e2
      have hg := getD_slc e2 (by decide) (by lia)
      rw [hg]; exact this)
    have hnx := rdH_next hr
    refine ⟨pre, _, by rw [hli, hpy]; exact hr, ?_, by rw [hpy]; exact e2, ?_⟩
    · rw [hpy, he, List.length_append, hl]; lia
    · rw [hpy, he, List.length_append, hl]; have := hnx.2.2.1; lia
end
section
variable {G : Base} {c : Fm} {st : St} {s : Shared} {A : Around}
theorem isBytes_spec (hK : G.K = KK G.w.params) {x : List UInt8} {t1 : Tok} {d u : Nat} {I : Hp} {W : Ws} {Q : Value → Hp → Ws → Prop} {E : Ex → Hp → Ws → Prop}
    (h : Q (.bool true) I W) : Cl G (.ref 1457) [.bytes x.toArray t1] none (d + 1) (u + 3) I W Q E := by
  refine enterK (binds := [("value", .bytes x.toArray t1)]) (kl hK) (kc hK) (by rfl) (by rfl) (by rfl) (by rfl) (by rfl) (by rfl) fun c A s hc O B => ?_
  refine k_ret ?_
  refine e_call ?_
  refine r_blt O (kd hc) (kn hK) PyProof.Rows.Boot.«isinstance» ?_
  refine c_b1 ?_
  refine k_arg O (kd hc) (by rfl) ?_
  refine e_more ?_
  refine e_tup ?_
  refine e_more ?_
  refine r_blt O (kd hc) (kn hK) PyProof.Rows.Boot.«bytes» ?_
  refine e_more ?_
  refine r_blt O (kd hc) (kn hK) PyProof.Rows.Boot.«bytearray» ?_
  refine spliced_none ?_
  refine r_newTuple O (sz_small (by simp)) fun a s O => ?_
  refine spliced_none ?_
  refine r_isiT kitx_bytes O trivial (O.wr (a, tup _) (.head _)) (by rfl) (by simp) fun s O => ?_
  exact ⟨_, I, W, O.drop (W1 := [(a, _)]), h⟩
noncomputable def CP (G : Base) (x : List UInt8) (t1 : Tok) (t : It) (pre : List UInt8) (p d u : Nat) : Prop :=
  ∀ {k1 k2 k3 k4 : Tok} {I : Hp} {Q : Value → Hp → Ws → Prop} {E : Ex → Hp → Ws → Prop},
    (∀ I' a v lp k o, (∀ a o, I a = some o → I' a = some o) → I' a = some (tup [v, .ref lp, .int (p + (pay t).length : Nat) k]) → Rep I' v t → I' lp = some o → (∃ (r0 : List UInt8) (k : Tok) (vs : List Value) (n : Nat), o = lst (.bytes r0.toArray k :: vs) n ∧ vs.length ≤ 1000000 ∧ r0.length ≤ pre.length + (pay t).length) → Q (.ref a) I' []) →
    Cl G (.ref 1743) [.bytes x.toArray t1, .bytes pre.toArray k1, .int p k2, .str (if isLi t then "list" else "bytes") k3, .int (pay t).length k4] none d u I [] Q E
theorem len_encLR : ∀ (ts : List It), ts.length ≤ (encL ts).length
  | [] => Nat.le_refl _
  | t :: ts => by rw [encL, List.length_append, List.length_cons]; have := len_encLR ts; have := enc_len_pos t; lia
theorem encL_cut (us : List It) (i : Nat) : encL us = encL (us.take i) ++ encL (us.drop i) := by
  rw [← encL_append, List.take_append_drop]
theorem encL_take_le (us : List It) (i : Nat) : (encL (us.take i)).length ≤ (encL us).length := by
  rw [encL_cut us i, List.length_append]; lia
theorem encL_take_lt {us : List It} {i : Nat} (h : i < us.length) : (encL (us.take i)).length < (encL us).length := by
  have h1 := len_encLR (us.drop i)
  rw [List.length_drop] at h1
  rw [encL_cut us i, List.length_append]; lia
theorem encL_at {x : List UInt8} {us : List It} {p i : Nat} {u : It} (hus : slc x p (encL us).length = encL us) (hle : p + (encL us).length ≤ x.length) (hu : us[i]? = some u) :
    slc x (p + (encL (us.take i)).length) (enc u).length = enc u ∧ p + (encL (us.take i)).length + (enc u).length ≤ x.length ∧ (encL (us.take (i + 1))).length = (encL (us.take i)).length + (enc u).length := by
  have hi := (List.getElem?_eq_some_iff.mp hu).1
  have e3 : encL (us.take (i + 1)) = encL (us.take i) ++ enc u := by rw [List.take_add_one, hu, encL_append]; simp [encL]
  have e1 := encL_cut us (i + 1)
  rw [e3] at e1
  rw [e1] at hus hle
  simp only [List.length_append] at hle
  refine ⟨?_, by lia, by rw [e3, List.length_append]⟩
  have cut : ∀ (q : Nat) (a b : List UInt8), slc x q (a ++ b).length = a ++ b → q + (a ++ b).length ≤ x.length → slc x q a.length = a ∧ slc x (q + a.length) b.length = b := fun q a b h hl => by
    rw [List.length_append] at hl
    rw [List.length_append, slc_add] at h
    exact List.append_inj h (by rw [slc_len]; lia)
  have h1 := (cut p _ _ hus (by simp only [List.length_append]; lia)).1
  exact (cut p _ _ h1 (by simp only [List.length_append]; lia)).2
set_option maxHeartbeats 0 in
theorem cp_s (hK : G.K = KK G.w.params) {x : List UInt8} {t1 : Tok} (hx : x.length ≤ 1000000) {pre : List UInt8} (hpre : pre.length ≤ x.length) {b : List UInt8} {p : Nat} (hb : slc x p b.length = b) {d u : Nat} : CP G x t1 (.s b) pre p (d + 1) (u + 3) := by
  intro k1 k2 k3 k4 I Q E hok
  have hbl : b.length ≤ x.length := by have := congrArg List.length hb; rw [slc_len] at this; lia
  refine enterK (binds := [("rlp", .bytes x.toArray t1), ("prefix", .bytes pre.toArray k1), ("start", .int p k2), ("type_", .str "bytes" k3), ("length", .int b.length k4)]) (kl hK) (kc hK) (by rfl) (by rfl) (by rfl) (by rfl) (by rfl) (by rfl) fun c A s hc O B => ?_
  refine e_cons ?_
  refine r_if O (True) ?_ (fun s O g0 => ?_) (fun s O g0 => absurd trivial g0)
  · skip
    refine e_icmp ?_
    refine r_name O (kd hc) (by rfl) ?_
    refine r_str O fun ks s O => ?_
    refine r_eqS (b := true) ?_ (by decide +kernel)
    refine wpAny_truthy_bool ?_
    exact ⟨O, iff_yes trivial⟩
  have ec : cut x (some (p : Int)) (some ((p : Int) + (b.length : Int))) = slc x p b.length := cut_slc (by lia) (by lia)
  refine k_asg ?_
  refine e_sub ?_
  refine r_name O (kd hc) (by rfl) ?_
  refine e_slc ?_
  refine p_some ?_
  refine r_name O (kd hc) (by rfl) ?_
  refine p_some ?_
  refine e_bin ?_
  refine r_name O (kd hc) (by rfl) ?_
  refine r_name O (kd hc) (by rfl) ?_
  refine r_add O fun k1 s O => ?_
  refine p_none ?_
  refine r_sliceB O (by lia) (.int _ _) (.int _ _) fun k2 s O => ?_
  refine r_store O (kd hc) fun s O => ?_
  refine k_ret ?_
  refine e_tup ?_
  refine k_arg O (kd hc) (by rfl) ?_
  refine e_more ?_
  refine e_lst ?_
  refine e_more ?_
  refine e_bin ?_
  refine r_name O (kd hc) (by rfl) ?_
  refine r_name O (kd hc) (by rfl) ?_
  rw [ec, hb] at O
  rw [ec, hb]
  refine r_addB O (by lia) fun k3 s O => ?_
  refine spliced_none ?_
  refine r_newList O (sz_small (by simp)) fun a1 s O => ?_
  refine e_more ?_
  refine e_bin ?_
  refine r_name O (kd hc) (by rfl) ?_
  refine r_name O (kd hc) (by rfl) ?_
  refine r_add O fun k4 s O => ?_
  refine spliced_none ?_
  refine r_newTuple O (sz_small (by simp)) fun a2 s O => ?_
  have ne12 : a1 ≠ a2 := fun e => by subst e; exact absurd O.nd (by simp)
  have O := O.perm (W' := [(a1, _), (a2, _)]) (List.Perm.swap _ _ _)
  have nI := O.wI _ (.head _)
  have O := O.fix
  have nI2 := O.wI _ (.head _)
  have O := O.fix
  refine ⟨_, _, _, O, hok _ a2 ?_ a1 ?_ _ (fun a o e => sub_fix nI2 _ _ (sub_fix nI _ _ e)) ?_ ?_ (Eq.trans (if_neg ne12) (if_pos rfl)) ⟨pre ++ b, _, [], _, rfl, by simp, by rw [List.length_append]; exact Nat.le_refl _⟩⟩
  rotate_left 2
  · rw [if_pos rfl, show (p : Int) + (b.length : Int) = ((p + b.length : Nat) : Int) by lia]; rfl
  exact .s _ _
inductive J10 (I : Hp) (x : List UInt8) (t1 : Tok) (pl li : Addr) (us : List It) (p : Nat) (pre : List UInt8) (ke : Tok) (k : Nat) : St → Prop
  | mk {m : Mp} {I2 : Hp} (i : Nat) (acc : List UInt8) (vs vs2 : List Value) (n1 n2 : Nat) (kb ki : Tok) (m1 : m "rlp" = some (.bytes x.toArray t1)) (m2 : m "items" = some (.ref li)) (m3 : m "per_item_rlp" = some (.ref pl))
    (m4 : m "list_rlp" = some (.bytes acc.toArray kb)) (m5 : m "next_item_start" = some (.int (p + (encL (us.take i)).length : Nat) ki)) (m6 : m "end" = some (.int (p + (encL us).length : Nat) ke)) (hR : RepL I2 vs (us.take i)) (hsub : ∀ a o, I a = some o → I2 a = some o)
    (hacc : acc.length ≤ pre.length + (encL (us.take i)).length) (hi : i ≤ us.length) (hv2 : vs2.length = i) (hk : k = us.length - i) :
    J10 I x t1 pl li us p pre ke k ⟨m, I2, [(pl, lst vs2 n2), (li, lst vs n1)]⟩
set_option maxHeartbeats 0 in
theorem cp_l (hK : G.K = KK G.w.params) {x : List UInt8} {t1 : Tok} (hx : x.length ≤ 1000000) (n : Nat)
    (ih : ∀ (t : It) (pre : List UInt8) (p : Nat), t.dp < n → slc x p (pay t).length = pay t → p + (pay t).length ≤ x.length → pre.length ≤ x.length → CP G x t1 t pre p (n + 9) (10 * n + 60))
    {us : List It} {pre : List UInt8} {p : Nat} (hn : It.dpL us < n) (hus : slc x p (encL us).length = encL us) (hle : p + (encL us).length ≤ x.length) (hpre : pre.length ≤ x.length) : CP G x t1 (.l us) pre p (n + 9 + 1) (10 * n + 67 + 3) := by
  intro k1 k2 k3 k4 I Q E hok
  refine enterK (binds := [("rlp", .bytes x.toArray t1), ("prefix", .bytes pre.toArray k1), ("start", .int p k2), ("type_", .str "list" k3), ("length", .int (encL us).length k4)]) (kl hK) (kc hK) (by rfl) (by rfl) (by rfl) (by rfl) (by rfl) (by rfl) fun c A s hc O B => ?_
  refine e_cons ?_
  refine r_if O False ?_ (fun s O g0 => g0.elim) (fun s O g0 => ?_)
  · skip
    refine e_icmp ?_
    refine r_name O (kd hc) (by rfl) ?_
    refine r_str O fun ks s O => ?_
    refine r_eqS (b := false) ?_ (by decide +kernel)
    refine wpAny_truthy_bool ?_
    exact ⟨O, iff_no id⟩
  refine e_cons ?_
  refine r_if O True ?_ (fun s O g0 => ?_) (fun s O g0 => absurd trivial g0)
  · skip
    refine e_icmp ?_
    refine r_name O (kd hc) (by rfl) ?_
    refine r_str O fun ks s O => ?_
    refine r_eqS (b := true) ?_ (by decide +kernel)
    refine wpAny_truthy_bool ?_
    exact ⟨O, iff_yes trivial⟩
  refine k_asg ?_
  refine e_lst ?_
  refine spliced_none ?_
  refine r_newList O (sz_small (by simp)) fun li s O => ?_
  refine r_store O (kd hc) fun s O => ?_
  refine k_asg ?_
  refine e_lst ?_
  refine spliced_none ?_
  refine r_newList O (sz_small (by simp)) fun pl s O => ?_
  refine r_store O (kd hc) fun s O => ?_
  refine k_asg ?_
  refine r_name O (kd hc) (by rfl) ?_
  refine r_store O (kd hc) fun s O => ?_
  refine k_asg ?_
  refine r_name O (kd hc) (by rfl) ?_
  refine r_store O (kd hc) fun s O => ?_
  refine k_asg ?_
  refine e_bin ?_
  refine r_name O (kd hc) (by rfl) ?_
  refine r_name O (kd hc) (by rfl) ?_
  refine r_add O fun k5 s O => ?_
  refine r_store O (kd hc) fun s O => ?_
  have eE : (p : Int) + ((encL us).length : Int) = ((p + (encL us).length : Nat) : Int) := by lia
  rw [eE] at O
  have hlu := len_encLR us
  refine e_cons ?_
  refine wpAny_mono (E := ESt G c NoE) ?_ (fun _ _ h => h) fun e s' h => ?_
  rotate_left
  · obtain ⟨x, st', h1, h2, h3, h4⟩ := h; exact (h4 0).elim
  have OW := O
  refine r_while (J10 I x t1 pl li us p pre _) us.length O B.f ⟨0, pre, [], [], 0, 0, k1, k2, rfl, rfl, rfl, rfl, by simp [encL]; rfl, rfl, .nil, fun _ _ e => e, by simp [encL], Nat.zero_le _, rfl, rfl⟩ (fun k st s hJ O => ?_)
  cases hJ with | @mk m I2 i acc vs vs2 n1 n2 kb ki m1 m2 m3 m4 m5 m6 hR hsub hacc hi hv2 hk =>
  subst hk
  have hll := encL_take_le us i
  have hvl := hR.length
  rw [List.length_take] at hvl
  have O := O.over
  refine e_icmp ?_
  refine r_name (c := c.re I) O (kd hc) m5 ?_
  refine r_name (c := c.re I) O (kd hc) m6 ?_
  refine lt_int ?_
  refine wpAny_truthy_bool ?_
  refine ite_dec (fun g1 => ?_) (fun g1 => ?_)
  · skip
    have hlt : i < us.length := by
      rcases Nat.lt_or_ge i us.length with q | q
      · exact q
      · rw [List.take_of_length_le q] at g1; lia
    obtain ⟨u, hu⟩ : ∃ u, us[i]? = some u := ⟨us[i], List.getElem?_eq_getElem hlt⟩
    have hmem := List.mem_of_getElem? hu
    have hdp := dpL_memR hmem
    obtain ⟨hsl, hle2, het⟩ := encL_at hus hle hu
    obtain ⟨pre2, q2, hh, hq2, hs2, hpl⟩ := enc_rd hx hsl hle2
    refine e_cons ?_
    refine Assign_Tuple ?_
    refine k_def (c := c.re I) O (kd hc) (kn hK) (kk hK (by k_is)) ?_
    refine k_arg (c := c.re I) O (kd hc) m1 ?_
    refine k_arg (c := c.re I) O (kd hc) m5 ?_
    refine spliced_none ⟨O.In, ?_⟩
    refine r_pure (c := c.re I) O B ((cl_ok (p := p + (encL (us.take i)).length) (d := 0) (u := 0) hK hx (fun pre3 l3 sz3 q3 hh3 I' a t1' t2' t3' t4' hs ha s O hsb => ?_) hh).le (by lia) (by lia))
    rw [hh] at hh3
    cases hh3
    dsimp only [List.nil_append] at O
    have hR := hR.mono hsb
    have hsub : ∀ a o, I a = some o → I' a = some o := fun a o e => hsb _ _ (hsub _ _ e)
    refine r_unpack (c := c.re I) O (O.im _ _ ha) B.h (by rfl) (by rfl) fun s O => ?_
    refine assignInOrder_cons (wpAny_assign_Name (r_store (c := c.re I) O (kd hc) fun s O => ?_))
    refine assignInOrder_cons (wpAny_assign_Name (r_store (c := c.re I) O (kd hc) fun s O => ?_))
    refine assignInOrder_cons (wpAny_assign_Name (r_store (c := c.re I) O (kd hc) fun s O => ?_))
    refine assignInOrder_cons (wpAny_assign_Name (r_store (c := c.re I) O (kd hc) fun s O => ?_))
    refine assignInOrder_nil ?_
    refine e_cons ?_
    refine Assign_Tuple ?_
    refine k_def (c := c.re I) O (kd hc) (kn hK) (kk hK (by k_is)) ?_
    refine k_arg (c := c.re I) O (kd hc) m1 ?_
    refine k_arg (c := c.re I) O (kd hc) (by rfl) ?_
    refine k_arg (c := c.re I) O (kd hc) (by rfl) ?_
    refine k_arg (c := c.re I) O (kd hc) (by rfl) ?_
    refine k_arg (c := c.re I) O (kd hc) (by rfl) ?_
    refine spliced_none ⟨O.In, ?_⟩
    refine r_pure (c := c.re I) O B ((ih u pre2 q2 (by lia) hs2 (by lia) (by lia) (fun I3 a3 v3 lp k5 o5 hs3 ha3 hr3 hlp ho5 s O hsb3 => ?_)).le (by lia) (by lia))
    dsimp only [List.nil_append] at O
    obtain ⟨r0, k6, vs6, n6, rfl, hz6, hr0⟩ := ho5
    rw [hq2] at ha3
    have hR := hR.mono hsb3
    have hsub : ∀ a o, I a = some o → I3 a = some o := fun a o e => hsb3 _ _ (hsub _ _ e)
    refine r_unpack (c := c.re I) O (O.im _ _ ha3) B.h (by rfl) (by rfl) fun s O => ?_
    refine assignInOrder_cons (wpAny_assign_Name (r_store (c := c.re I) O (kd hc) fun s O => ?_))
    refine assignInOrder_cons (wpAny_assign_Name (r_store (c := c.re I) O (kd hc) fun s O => ?_))
    refine assignInOrder_cons (wpAny_assign_Name (r_store (c := c.re I) O (kd hc) fun s O => ?_))
    refine assignInOrder_nil ?_
    refine e_cons ?_
    refine r_expr (c := c.re I) O ?_
    refine e_meth ?_
    refine r_name (c := c.re I) O (kd hc) m3 ?_
    refine r_getAppend (c := c.re I) (l := pl) (vs := vs2) (n := n2) O (by simp) ?_
    refine c_m1 ?_
    refine k_arg (c := c.re I) O (kd hc) (by rfl) ?_
    refine spliced_none ?_
    refine r_append (c := c.re I) (W1 := []) (W2 := [(li, lst vs n1)]) O (sz_small (by lia)) fun s n9 O => ?_
    refine e_cons ?_
    refine wpAny_AugAssign_Name ?_
    refine r_load (c := c.re I) O (kd hc) m4 ?_
    refine e_sub ?_
    refine r_name (c := c.re I) O (kd hc) (by rfl) ?_
    refine r_int O fun kz s O => ?_
    refine r_itemL (O.im _ _ hlp) (by simp only [List.length_cons]; lia) (by decide) (by rfl) ?_
    refine r_iaddB O (by lia) fun ka s O => ?_
    refine r_store (c := c.re I) O (kd hc) fun s O => ?_
    refine e_cons ?_
    refine r_expr (c := c.re I) O ?_
    refine e_meth ?_
    refine r_name (c := c.re I) O (kd hc) m2 ?_
    refine r_getAppend (c := c.re I) (l := li) (vs := vs) (n := n1) O (by simp) ?_
    refine c_m1 ?_
    refine k_arg (c := c.re I) O (kd hc) (by rfl) ?_
    refine spliced_none ?_
    refine r_append (c := c.re I) (W1 := [(pl, lst (vs2 ++ [.ref lp]) n9)]) (W2 := []) O (sz_small (by lia)) fun s n9 O => ?_
    refine wpAny_execs_nil ?_
    refine ⟨us.length - (i + 1), ⟨_, _, _⟩, by lia, ?_, O⟩
    refine ⟨i + 1, acc ++ r0, _, _, _, _, _, k5, m1, m2, m3, rfl, ?_, m6, ?_, hsub, ?_, hlt, by simp [hv2], rfl⟩
    · rw [het, ← Nat.add_assoc]; rfl
    · rw [List.take_add_one, hu]; exact hR.snoc hr3
    · rw [List.length_append, het]; lia
  · skip
    have O := OW.unre0 O
    obtain rfl : i = us.length := by
      rcases Nat.lt_or_ge i us.length with q | q
      · have h1 := encL_take_lt q; lia
      · lia
    rw [List.take_length] at m5 hR hacc g1
    refine e_cons ?_
    refine r_expr O ?_
    refine e_meth ?_
    refine r_name O (kd hc) m3 ?_
    refine r_getML PySem.F.slot_list_insert PySem.F.type_list_insert (O.wr (pl, lst vs2 n2) (.head _)) ?_
    refine c_m1 ?_
    refine e_more ?_
    refine r_int O fun kz s O => ?_
    refine k_arg O (kd hc) m4 ?_
    refine spliced_none ?_
    refine r_insert0 (W1 := []) (W2 := [(li, lst vs n1)]) O (by lia) fun s n9 O => ?_
    refine e_cons ?_
    refine r_if O False ?_ (fun s O gv => gv.elim) (fun s O gv => ?_)
    · skip
      refine e_icmp ?_
      refine r_name O (kd hc) m5 ?_
      refine r_name O (kd hc) m6 ?_
      refine gt_int ?_
      refine wpAny_truthy_bool ?_
      exact ⟨O, iff_dec ⟨fun q => by lia, False.elim⟩⟩
    refine wpAny_execs_nil ?_
    refine k_ret ?_
    refine e_tup ?_
    refine k_arg O (kd hc) m2 ?_
    refine k_arg O (kd hc) m3 ?_
    refine k_arg O (kd hc) m5 ?_
    refine spliced_none ?_
    refine r_newTuple O (sz_small (by simp)) fun a3 s O => ?_
    have nI0 := O.wI (a3, _) (.head _)
    have O := O.fix
    have nI1 := O.wI (pl, _) (.head _)
    have O := O.fix
    have nI2 := O.wI (li, _) (.head _)
    have O := O.fix
    have hs3 := fun (a : Addr) (o : Obj) (e : I2 a = some o) => sub_fix (o := lst vs n1) nI2 _ _ (sub_fix (o := lst (.bytes acc.toArray kb :: vs2) n9) nI1 _ _ (sub_fix (o := tup [.ref li, .ref pl, .int (p + (encL us).length : Nat) ki]) nI0 _ _ e))
    have nep : pl ≠ li := fun e => by rw [e] at nI2; exact absurd nI2 (by simp)
    have nt1 : a3 ≠ pl := fun e => by rw [← e] at nI1; exact absurd nI1 (by simp)
    have nt2 : a3 ≠ li := fun e => by rw [← e] at nI2; exact absurd nI2 (by simp [nt1])
    refine ⟨_, _, _, O, hok _ a3 (.ref li) pl ?_ _ (fun a o e => hs3 _ _ (hsub _ _ e)) ?_ (.l (if_pos rfl) (hR.mono hs3)) (by rw [if_neg nep, if_pos rfl]) ⟨_, _, _, _, rfl, by lia, hacc⟩⟩
    rotate_left
    rw [if_neg nt2, if_neg nt1, if_pos rfl]; rfl
theorem cp_all (hK : G.K = KK G.w.params) {x : List UInt8} {t1 : Tok} (hx : x.length ≤ 1000000) : ∀ (n : Nat) (t : It) (pre : List UInt8) (p : Nat), t.dp < n → slc x p (pay t).length = pay t → p + (pay t).length ≤ x.length → pre.length ≤ x.length → CP G x t1 t pre p (n + 9) (10 * n + 60)
  | 0, _, _, _, h, _, _, _ => absurd h (by lia)
  | n + 1, .s b, pre, p, _, hs, hl, hp => fun a => Cl.le (cp_s hK hx hp hs (d := 0) (u := 0) a) (by lia) (by lia)
  | n + 1, .l us, pre, p, hn, hs, hl, hp => fun a => Cl.le (cp_l hK hx n (cp_all hK hx n) (by rw [It.dp] at hn; lia) hs hl hp a) (by lia) (by lia)
theorem ci_ok (hK : G.K = KK G.w.params) {x : List UInt8} {t1 k2 : Tok} (hx : x.length ≤ 1000000) {n : Nat} {t : It} (hn : t.dp < n) (ht : slc x 0 (enc t).length = enc t) (hl : (enc t).length ≤ x.length) {I : Hp} {Q : Value → Hp → Ws → Prop} {E : Ex → Hp → Ws → Prop}
    (hok : ∀ I' a v lp k, (∀ a o, I a = some o → I' a = some o) → I' a = some (tup [v, .ref lp, .int ((enc t).length : Nat) k]) → Rep I' v t → Q (.ref a) I' []) :
    Cl G (.ref 1750) [.bytes x.toArray t1, .int 0 k2] none (n + 10 + 1) (10 * n + 70 + 3) I [] Q E := by
  refine enterK (binds := [("rlp", .bytes x.toArray t1), ("start", .int 0 k2)]) (kl hK) (kc hK) (by rfl) (by rfl) (by rfl) (by rfl) (by rfl) (by rfl) fun c A s hc O B => ?_
  obtain ⟨pre2, q2, hh, hq2, hs2, hpl⟩ := enc_rd hx ht (by lia)
  refine e_cons ?_
  refine Assign_Tuple ?_
  refine k_def O (kd hc) (kn hK) (kk hK (by k_is)) ?_
  refine k_arg O (kd hc) (by rfl) ?_
  refine k_arg O (kd hc) (by rfl) ?_
  refine spliced_none ⟨O.In, ?_⟩
  refine r_pure O B ((cl_ok (p := 0) (d := 0) (u := 0) hK hx (fun pre3 l3 sz3 q3 hh3 I' a t1' t2' t3' t4' hs ha s O hsb => ?_) hh).le (by lia) (by lia))
  rw [hh] at hh3
  cases hh3
  refine r_unpack O (O.im _ _ ha) B.h (by rfl) (by rfl) fun s O => ?_
  refine assignInOrder_cons (wpAny_assign_Name (r_store O.over (kd hc) fun s O => ?_))
  refine assignInOrder_cons (wpAny_assign_Name (r_store O (kd hc) fun s O => ?_))
  refine assignInOrder_cons (wpAny_assign_Name (r_store O (kd hc) fun s O => ?_))
  refine assignInOrder_cons (wpAny_assign_Name (r_store O (kd hc) fun s O => ?_))
  refine assignInOrder_nil ?_
  refine k_ret ?_
  refine k_def O (kd hc) (kn hK) (kk hK (by k_is)) ?_
  refine k_arg O (kd hc) (by rfl) ?_
  refine k_arg O (kd hc) (by rfl) ?_
  refine k_arg O (kd hc) (by rfl) ?_
  refine k_arg O (kd hc) (by rfl) ?_
  refine k_arg O (kd hc) (by rfl) ?_
  refine spliced_none ⟨O.In, ?_⟩
  refine r_pure O B ((cp_all hK hx n t pre2 q2 hn hs2 (by lia) (by lia) (fun I3 a3 v3 lp k5 o5 hs3 ha3 hr3 hlp ho5 s O hsb3 => ?_)).le (by lia) (by lia))
  rw [hq2, Nat.zero_add] at ha3
  exact ⟨_, _, _, O, hok _ _ _ _ _ (fun a o e => hsb3 _ _ (hsb _ _ e)) ha3 hr3⟩
theorem dr_ok (hK : G.K = KK G.w.params) {x : List UInt8} {t1 : Tok} {b : Bool} {v3 : Value} (hx : x.length ≤ 1000000) {n : Nat} {t : It} (hn : t.dp < n) (ht : slc x 0 (enc t).length = enc t) (hl : (enc t).length ≤ x.length) (hb : b = true → (enc t).length = x.length) {I : Hp} {Q : Value → Hp → Ws → Prop} {E : Ex → Hp → Ws → Prop}
    (hok : ∀ I' a v lp, (∀ a o, I a = some o → I' a = some o) → I' a = some (tup [v, .ref lp]) → Rep I' v t → Q (.ref a) I' []) :
    Cl G (.ref 1714) [.bytes x.toArray t1, .bool b, v3] none (n + 11 + 1) (10 * n + 73 + 3) I [] Q E := by
  refine enterK (binds := [("item", .bytes x.toArray t1), ("strict", .bool b), ("_", v3)]) (kl hK) (kc hK) (by rfl) (by rfl) (by rfl) (by rfl) (by rfl) (by rfl) fun c A s hc O B => ?_
  refine e_cons ?_
  refine wpAny_Try_except ?_
  refine e_cons ?_
  refine Assign_Tuple ?_
  refine k_def O (kd hc) (kn hK) (kk hK (by k_is)) ?_
  refine k_arg O (kd hc) (by rfl) ?_
  refine e_more ?_
  refine r_int O fun k1 s O => ?_
  refine spliced_none ⟨O.In, ?_⟩
  refine r_pure O B ((ci_ok hK hx hn ht hl (fun I3 a3 v3 lp k5 hs3 ha3 hr3 s O hsb3 => ?_)).le (by lia) (by lia))
  refine r_unpack O (O.im _ _ ha3) B.h (by rfl) (by rfl) fun s O => ?_
  refine assignInOrder_cons (wpAny_assign_Name (r_store O.over (kd hc) fun s O => ?_))
  refine assignInOrder_cons (wpAny_assign_Name (r_store O (kd hc) fun s O => ?_))
  refine assignInOrder_cons (wpAny_assign_Name (r_store O (kd hc) fun s O => ?_))
  refine assignInOrder_nil ?_
  refine wpAny_execs_nil ?_
  refine wpAny_execs_nil ?_
  refine e_cons ?_
  refine r_if O False ?_ (fun s O gP => gP.elim) (fun s O gP => ?_)
  · skip
    refine e_and ?_
    refine e_icmp ?_
    refine r_name O (kd hc) (by rfl) ?_
    refine k_lenB O (kd hc) (kn hK) (kd hc) (by rfl) (by lia) fun k2 s O => ?_
    refine r_nei ?_
    refine wpAny_truthy_bool ?_
    refine ite_dec (fun g1 => ?_) (fun g1 => ⟨O, iff_no id⟩)
    refine e_and ?_
    refine e_plain ?_
    refine r_name O (kd hc) (by rfl) ?_
    refine wpAny_truthy_bool ?_
    refine ite_b (fun g2 => ?_) (fun g2 => ⟨O, iff_no id⟩)
    exact absurd (hb g2) (by lia)
  refine wpAny_execs_nil ?_
  refine k_ret ?_
  refine e_tup ?_
  refine k_arg O (kd hc) (by rfl) ?_
  refine k_arg O (kd hc) (by rfl) ?_
  refine spliced_none ?_
  refine r_newTuple O (sz_small (by simp)) fun a1 s O => ?_
  have nI := O.wI _ (.head _)
  have O := O.fix
  exact ⟨_, _, _, O, hok _ _ _ lp (fun a o e => sub_fix nI _ _ (hs3 _ _ e)) (if_pos rfl) (hr3.mono (sub_fix nI))⟩
theorem decode_ok (hK : G.K = KK G.w.params) {t : It} {t1 : Tok} (hx : (enc t).length ≤ 1000000) {n : Nat} (hn : t.dp < n) {I : Hp} {Q : Value → Hp → Ws → Prop} {E : Ex → Hp → Ws → Prop}
    (hok : ∀ I' v, (∀ a o, I a = some o → I' a = some o) → Rep I' v t → Q v I' []) :
    Cl G (.ref 1758) [.bytes (enc t).toArray t1] none (n + 12 + 1) (10 * n + 76 + 3) I [] Q E := by
  refine enterP (binds := [("rlp", .bytes (enc t).toArray t1), ("sedes", .none), ("strict", .bool true), ("recursive_cache", .bool false)]) (kl hK) (by rfl) (kc hK) (by rw [hK]; intro S; rfl) (by rfl) (by rfl) (by rfl) (by rfl) (by rfl) (by rfl) (by rfl) fun c A s hfd O B => ?_
  have hc : c.fd.scope = _ := congrArg FuncData.scope hfd
  refine e_cons ?_
  refine r_if O False ?_ (fun s O g0 => g0.elim) (fun s O g0 => ?_)
  · skip
    refine isTrue_not ?_
    refine e_plain ?_
    refine k_def O (kd hc) (kn hK) (kk hK (by k_is)) ?_
    refine k_arg O (kd hc) (by rfl) ?_
    refine spliced_none ⟨O.In, ?_⟩
    refine r_pure O B ((isBytes_spec hK (d := 0) (u := 0) fun s O _ => ?_).le (by lia) (by lia))
    refine wpAny_truthy_bool ?_
    exact ⟨O, iff_no id⟩
  refine wpAny_execs_nil ?_
  refine e_cons ?_
  refine Assign_Tuple ?_
  refine k_def O (kd hc) (kn hK) (kk hK (by k_is)) ?_
  refine k_arg O (kd hc) (by rfl) ?_
  refine k_arg O (kd hc) (by rfl) ?_
  refine k_arg O (kd hc) (by rfl) ?_
  refine spliced_none ⟨O.In, ?_⟩
  refine r_pure O B ((dr_ok hK hx hn (by simp [slc]) (Nat.le_refl _) (fun _ => rfl) (fun I3 a3 v3 lp hs3 ha3 hr3 s O hsb3 => ?_)).le (by lia) (by lia))
  refine r_unpack O (O.im _ _ ha3) B.h (by rfl) (by rfl) fun s O => ?_
  refine assignInOrder_cons (wpAny_assign_Name (r_store O.over (kd hc) fun s O => ?_))
  refine assignInOrder_cons (wpAny_assign_Name (r_store O (kd hc) fun s O => ?_))
  refine assignInOrder_nil ?_
  refine e_cons ?_
  refine r_if O False ?_ (fun s O g0 => g0.elim) (fun s O g0 => ?_)
  · skip
    refine e_plain ?_
    refine r_name O (kd hc) (by rfl) ?_
    refine truthy_none ?_
    exact ⟨O, iff_no id⟩
  refine k_ret ?_
  refine r_name O (kd hc) (by rfl) ?_
  exact ⟨_, _, _, O, hok _ _ hs3 hr3⟩
end
section
open PySem.SeqAt (EqAt RcAt RcNeAt)
variable {G : Base} {c : Fm} {st : St} {s : Shared} {A : Around}
theorem sl16 {vs : List Value} {ns : List Int} (h : IntsAre vs ns) : IntsAre (slicePick vs.toArray none (some 16) none).toList (ns.take 16) := kmk_upto (y := 16) h (by decide)
theorem te_exc : isSubtype (.type "TypeError") (.type "BaseException") = pure true := by rw [isSubtype_type]; kernel_rfl
theorem te_nt : isSubtype (.type ((Manifest.find? "TypeError").elim "type" fun x => x.metatype)) (.type "tuple") = pure false := by rw [isSubtype_type]; kernel_rfl
theorem te_self : isSubtype (.type "TypeError") (.type "TypeError") = pure true := by rw [isSubtype_type]; kernel_rfl
theorem ClN.le {f : Value} {args : List Value} {hd : Option Value} {d u d' u' : Nat} {I : Hp} {W : Ws} {Q : Value → Hp → Ws → Prop} {E : Ex → Hp → Ws → Prop} (h : ClN G f args hd d u I W Q E) (h1 : d ≤ d') (h2 : u ≤ u') : ClN G f args hd d' u' I W Q E :=
  fun A fr s B P => h A fr s ⟨B.h, B.f, Nat.lt_of_le_of_lt (by lia) B.d, Nat.lt_of_le_of_lt (by lia) B.u⟩ P
theorem r_neV {v : Value} {x : List UInt8} {u : Tok} {I : Hp} {Q : VP} {E : VP} (hI : ∀ a o, I a = some o → s.heap.get? a = some o) (hu : A.units < cLine) (b : Bv I v x) (h : Q (.bool false) s) :
    wpAny (model G.prog G.w) A (compareOp .NotEq v (.bytes x.toArray u)) Q E s := by
  cases b with
  | b x t => exact r_neB (by simpa using h)
  | a e => exact BA.ne hu (hI _ _ e) (by simpa using h)
theorem eqAt_ba {I : Hp} (hI : ∀ a o, I a = some o → s.heap.get? a = some o) {a : Addr} {x : List UInt8} {u : Tok} (hu : A.units < cLine) (e : I a = some (baO x)) : EqAt A s (.ref a) (.bytes x.toArray u) true := fun prog w E Q h => by
  unfold eqBool
  refine wpAny_holding ?_
  refine wpAny_ite_split (fun hab => wpAny_bind (wpAny_rule (wpAny_pure h))) (fun _ => ?_)
  refine wpAny_bind (BA.eq hu (hI _ _ e) ?_)
  exact wpAny_truthy_bool (by simpa using h)
theorem eqAt_ser {I : Hp} (hI : ∀ a o, I a = some o → s.heap.get? a = some o) : ∀ (n : Nat) {A : Around} {v w : Value} {t : Th}, okT t = true → (fm t).dp < n → A.units + (fm t).dp < cLine → RepT I v (serT t) → Rep I w (fm t) → EqAt A s v w true
  | 0, _, _, _, _, _, h, _, _, _ => absurd h (by lia)
  | n + 1, A, v, w, t, hok, hn, hu, r1, r2 => by
    cases t with
    | no => cases hok
    | n i => cases r1; cases r2; exact eqAt_bytes _ _ _
    | b x => cases r1; cases r2; exact eqAt_bytes _ _ _
    | o x => cases r1; cases r2; exact eqAt_bytes _ _ _
    | ba x =>
      cases r1 with | ba e =>
      cases r2 with | s _ u =>
      exact eqAt_ba hI (by lia) e
    | sq k ts =>
      rw [serT] at r1
      rw [fm] at r2
      rw [okT] at hok
      cases r1 with | @sq a _ vs nn _ e1 r1 =>
      cases r2 with | @l b ws n2 _ e2 r2 =>
      by_cases hab : a = b
      · subst hab
        exact PySem.SeqAt.EqAt.same _
      · refine PySem.SeqAt.EqAt.of_refs hab ?_
        have l1 := r1.length
        have l2 := r2.length
        rw [serL_len] at l1
        rw [fmL_len] at l2
        rw [fm, It.dp] at hn hu
        have := PySem.SeqAt.RcAt.lists (A := A) (s := s) (e := fun _ => true) (isL (hI _ _ e1)) (isL (hI _ _ e2)) (by simp [l1, l2]) (by lia) fun j h1 h2 => by
          have g1 : vs[j]? = some vs.toArray[j] := by simp at h1; simp [h1]
          have g2 : ws[j]? = some ws.toArray[j] := by simp at h2; simp [h2]
          obtain ⟨t1, ht1, q1⟩ := r1.get g1
          obtain ⟨t2, ht2, q2⟩ := r2.get g2
          obtain ⟨t0, h0, rfl⟩ := serL_get ht1
          rw [fmL_get h0] at ht2; cases ht2
          have := (szL_get h0).1
          exact eqAt_ser hI n (okL_get hok h0) (by lia) (by show A.units + 1 + _ < _; lia) q1 q2
        rw [all_tt] at this; exact this
theorem r_eqSer {I : Hp} {Q : VP} {E : VP} (hI : ∀ a o, I a = some o → s.heap.get? a = some o) {v w : Value} {t : Th} (hok : okT t = true) (hu : A.units + (fm t).dp < cLine) (r1 : RepT I v (serT t)) (r2 : Rep I w (fm t)) (h : Q (.bool true) s) :
    wpAny (model G.prog G.w) A (compareOp .Eq v w) Q E s := by
  cases t with
  | no => cases hok
  | n i => cases r1; cases r2; exact r_eqB (by simpa using h)
  | b x => cases r1; cases r2; exact r_eqB (by simpa using h)
  | o x => cases r1; cases r2; exact r_eqB (by simpa using h)
  | ba x =>
    cases r1 with | ba e =>
    cases r2 with | s _ u =>
    exact BA.eq (by lia) (hI _ _ e) (by simpa using h)
  | sq k ts =>
    rw [serT] at r1
    rw [fm] at r2
    rw [okT] at hok
    cases r1 with | @sq a _ vs nn _ e1 r1 =>
    cases r2 with | @l b ws n2 _ e2 r2 =>
    have l1 := r1.length
    have l2 := r2.length
    rw [serL_len] at l1
    rw [fmL_len] at l2
    rw [fm, It.dp] at hu
    refine PySem.SeqAt.eq_listAt (e := fun _ => true) (isL (hI _ _ e1)) (isL (hI _ _ e2)) (by simp [l1, l2]) (by lia) (fun j h1 h2 => ?_) (by rw [all_tt]; exact h)
    have g1 : vs[j]? = some vs.toArray[j] := by simp at h1; simp [h1]
    have g2 : ws[j]? = some ws.toArray[j] := by simp at h2; simp [h2]
    obtain ⟨t1, ht1, q1⟩ := r1.get g1
    obtain ⟨t2, ht2, q2⟩ := r2.get g2
    obtain ⟨t0, h0, rfl⟩ := serL_get ht1
    rw [fmL_get h0] at ht2; cases ht2
    have := (szL_get h0).1
    exact eqAt_ser hI _ (okL_get hok h0) (Nat.lt_succ_self _) (by show A.units + 1 + _ < _; lia) q1 q2
inductive LQ4 (G : Base) (c : Fm) (I : Hp) (v fo : Value) (P : Mp → Hp → Prop) (s : Shared) : Prop
  | mk (m' : Mp) (I' : Hp) (oT' : Obj) (h1 : Ok G c ⟨m', I', [(1702, oT')]⟩ s) (h2 : m' "thing" = some v) (h3 : m' "form" = some fo) (h4 : ∀ a o, I a = some o → I' a = some o) (h5 : TabOk G 1706 1702 oT') (h6 : P m' I') : LQ4 G c I v fo P s
noncomputable def LX4 (G : Base) (I : Hp) (v fo : Value) (P : Prop) (cl : Value) (z : Ex) (st' : St) : Prop :=
  P ∧ st'.m "thing" = some v ∧ st'.m "form" = some fo ∧ (∀ a o, I a = some o → st'.I a = some o) ∧ z.cls = cl ∧ z.cx = .none ∧ ∃ oT', st'.W = [(1702, oT')] ∧ TabOk G 1706 1702 oT'
set_option maxHeartbeats 0 in
theorem law_spec (hK : G.K = KK G.w.params) (hP : G.prog = pw) {bm : Addr} {ob : Obj} (hM : BMod G.B0 mainGlobals G.mg bm ob) {l : Addr} {vs : List Value} {nn : Nat} {ns : List Int} (hi : IntsAre vs ns) (hl : ns.length ≤ 63) {I : Hp} {oT : Obj} {Q : Value → Hp → Ws → Prop} {E : Ex → Hp → Ws → Prop}
    (e : I l = some (lst vs nn)) (hT : TabOk G 1706 1702 oT) (hq : ∀ I' oT', TabOk G 1706 1702 oT' → Q (.bool true) I' [(1702, oT')]) : ClN G (.ref 1820) [.ref l] none (110 + 1) (700 + 3) I [(1702, oT)] Q E := by
  refine enterKN (binds := [("script", .ref l)]) (kl hK) (kc hK) (by rfl) (by rfl) (by rfl) (by rfl) (by rfl) (by rfl) fun c A s hc O B => ?_
  have hvl := hi.length
  refine N.execs_cons ?_
  refine N.Assign_Name ?_
  refine N.Call ?_
  refine r_glob O (kd hc) (kn hK) ?_
  refine k_defN (kk hK (by k_is)) ?_
  refine e_more ?_
  refine e_sub ?_
  refine r_name O (kd hc) (by rfl) ?_
  refine e_slc ?_
  refine p_none ?_
  refine p_some ?_
  refine r_int O fun k2 s O => ?_
  refine p_none ?_
  refine r_sliceL O (O.im _ _ e) (by lia) .none (.int _ _) fun a0 s O => ?_
  refine spliced_none ⟨O.In, ?_⟩
  have n0 := O.wI _ (.head _)
  have O := O.fix
  refine r_pureN O B ((thing_spec hK (d := 0) (u := 0) (if_pos rfl) (sl16 hi) (by rw [List.length_take]; exact Nat.min_le_left _ _) fun I1 aR vsR nR ts hs1 eR rR hz hd hsm s O _ => ?_).le (by lia) (by lia))
  have hs1 := fun (a : Addr) (o : Obj) (h : I a = some o) => hs1 a o (sub_fix n0 _ _ h)
  have lenR := rR.length
  have hlz := szL_pos ts
  dsimp only [List.nil_append] at O
  refine r_store O.over (kd hc) fun s O => ?_
  refine N.any ?_
  refine k_asg ?_
  generalize hst : St.mk _ _ _ = st at O
  refine wpAny_mono (Q := fun v s' => (∃ t, RepT I1 v t ∧ (fm t).sz ≤ 6010 ∧ (fm t).dp ≤ 13 ∧ smT t) ∧ Ok G c st s') (E := EndX G c E) ?_ (fun v s' h => ?_) (fun _ _ h => h)
  · subst hst
    refine IfExp_ ?_
    refine e_icmp ?_
    refine e_call ?_
    refine r_blt O (kd hc) (kn hK) PyProof.Rows.Boot.«len» ?_
    refine c_b1 ?_
    refine k_arg O (kd hc) (by rfl) ?_
    refine spliced_none ?_
    refine r_lenL O (O.im _ _ eR) (by lia) fun k3 s O => ?_
    refine r_int O fun k4 s O => ?_
    refine r_eqi ?_
    refine wpAny_truthy_bool ?_
    refine ite_dec (fun g1 => ?_) (fun g1 => ?_)
    · skip
      obtain ⟨v, rfl⟩ : ∃ v, vsR = [v] := List.length_eq_one_iff.mp (by lia)
      cases rR with | @cons _ _ t _ rt rn =>
      cases rn
      rw [fmL, fmL, It.szL, It.szL] at hz
      rw [fmL, fmL, It.dpL, It.dpL] at hd
      refine e_sub ?_
      refine r_name O (kd hc) (by rfl) ?_
      refine r_int O fun k5 s O => ?_
      refine r_itemL (O.im _ _ eR) (by simp) (by decide) (by rfl) ?_
      exact ⟨⟨t, rt, by lia, by lia, hsm.1⟩, O⟩
    · skip
      refine r_name O (kd hc) (by rfl) ?_
      exact ⟨⟨.sq false ts, .sq (k := false) eR rR, by rw [fm, It.sz]; lia, by rw [fm, It.dp]; lia, hsm⟩, O⟩
  obtain ⟨⟨t, rt, hz1, hd1, hsm1⟩, O⟩ := h
  subst hst
  have henc := encT_len (t := fm t) (by lia)
  refine r_store O (kd hc) fun s O => ?_
  refine k_asg ?_
  refine k_def O (kd hc) (kn hK) (kk hK (by k_is)) ?_
  refine k_arg O (kd hc) (by rfl) ?_
  refine spliced_none ⟨O.In, ?_⟩
  refine r_pure O B ((form_spec hK 14 t (by lia) (by lia) hsm1 rt fun I2 fo hs2 hfo => ?_).le (by lia) (by lia))
  cases hfo with | @mk p fv _ ep rf =>
  intro s O _
  dsimp only [List.nil_append] at O
  refine r_store O (kd hc) fun s O => ?_
  have rt := rt.mono hs2
  clear hz hd hsm eR rR lenR hlz
  refine r_seq (LQ4 G c I2 v (.ref p) fun _ _ => True) ?_ fun s hL => ?_
  · refine wpAny_Try_except ?_
    refine wpAny_mono (E := ESt G c (LX4 G I2 v (.ref p) (plT t = false) (.ref 53))) ?_ (fun _ _ h => h) (fun e s' h => r_caught B.f h fun z st' s O T hz => ?_)
    · refine k_asg ?_
      refine k_def O (kd hc) (kn hK) (kk hK (by k_is)) ?_
      refine k_arg O (kd hc) (by rfl) ?_
      refine e_more ?_
      refine r_none ?_
      refine e_more ?_
      refine r_bool ?_
      refine spliced_none ⟨O.In, ?_⟩
      refine r_call (E' := fun x I' W' => plT t = false ∧ (∀ a o, I2 a = some o → I' a = some o) ∧ (x.cls = .ref 53 ∧ x.cx = .none) ∧ ∃ oT', W' = [(1702, oT')] ∧ TabOk G 1706 1702 oT') (Wc := [(1702, oT)]) (Wr := []) O B ((enc0_spec hK hP hM (n := 14) (by lia) (by lia) rt hT (fun hpl I3 oT3 u hs3 hT3 hb s O _ => ?_) fun hpl x I3 oT3 hs3 hT3 hcl => ⟨hpl, hs3, hcl, oT3, rfl, hT3⟩).le (by lia) (by lia)) ?_
      rotate_left
      · rintro x I3 W3 s3 O3 hs3 F3 hn3 ⟨hpl, hs3', hcl, oT3, rfl, hT3⟩
        exact ⟨x, ⟨_, I3, _⟩, rfl, O3, .inr (.inl (F3.tr (st' := ⟨_, I3, _⟩) O hn3)), fun tb => ⟨hpl, rfl, rfl, hs3', hcl.1, hcl.2, oT3, rfl, hT3⟩⟩
      refine r_store O (kd hc) fun s O => ?_
      refine e_cons ?_
      refine r_if O False ?_ (fun s O g0 => g0.elim) (fun s O g0 => ?_)
      · skip
        refine e_or ?_
        refine isTrue_not ?_
        refine e_plain ?_
        refine k_def O (kd hc) (kn hK) (kk hK (by k_is)) ?_
        refine k_arg O (kd hc) (by rfl) ?_
        refine spliced_none ⟨O.In, ?_⟩
        refine r_pure O B ((plain_spec hK 14 t (by lia) (by lia) (rt.mono hs3) (.inl rfl) fun s O _ => ?_).le (by lia) (by lia))
        rw [hpl]
        refine wpAny_truthy_bool ?_
        refine ite_f ?_
        refine e_or ?_
        refine e_icmp ?_
        refine r_name O (kd hc) (by rfl) ?_
        refine k_def O (kd hc) (kn hK) (kk hK (by k_is)) ?_
        refine e_more ?_
        refine e_sub ?_
        refine r_name O (kd hc) (by rfl) ?_
        refine r_int O fun k4 s O => ?_
        refine r_itemT (v := fv) (O.im _ _ (hs3 _ _ ep)) (by simp) (by decide) (by rfl) ?_
        refine spliced_none ⟨O.In, ?_⟩
        refine r_pure O B ((put_spec hK 14 (fm t) (by lia) (by lia) (rf.mono hs3) fun t' s O _ => ?_).le (by lia) (by lia))
        refine r_neV (O.im) (by have := B.u; lia) hb ?_
        refine wpAny_truthy_bool ?_
        refine ite_f ?_
        exact isTrue_or_nil ⟨O, iff_no id⟩
      refine wpAny_execs_nil ?_
      refine wpAny_execs_nil ?_
      refine wpAny_execs_nil ?_
      exact ⟨_, _, _, O, rfl, rfl, hs3, hT3, trivial⟩
    · obtain ⟨m, I', W'⟩ := st'
      obtain ⟨hpl, m1, m2, hs3, hcls, hcx, oT3, hW, hT3⟩ := hz
      dsimp only at m1 m2 hs3 hW
      subst hW
      have B' := B.mark (.ref z.a)
      refine handle1 true ?_
      refine r_glob O (kd hc) (kn hK) ?_
      refine r_matchS O T hcls (kl hK) (enc_obj _) ⟨rfl, ite_t ?_⟩
      refine r_land O T fun s O T => ?_
      obtain ⟨oe, vz, O, hv1, hv2, -, -⟩ := O.takeX T
      rw [hcx] at hv2
      have nI := O.wI (z.a, oe) (.head _)
      have O := O.fix
      have nI := sub_fix (o := oe) nI
      refine e_cons ?_
      refine r_if O False ?_ (fun s O g0 => g0.elim) (fun s O g0 => ?_)
      · skip
        refine e_plain ?_
        refine k_def O (kd hc) (kn hK) (kk hK (by k_is)) ?_
        refine k_arg O (kd hc) m1 ?_
        refine spliced_none ⟨O.In, ?_⟩
        refine r_pure O B' ((plain_spec hK 14 t (by lia) (by lia) ((rt.mono hs3).mono nI) (.inr ⟨z.a, oe, vz, rfl, if_pos rfl, hv1, hv2⟩) fun s O _ => ?_).le (by lia) (by lia))
        rw [hpl]
        refine wpAny_truthy_bool ?_
        exact ⟨O, iff_no id⟩
      refine wpAny_execs_nil ?_
      refine wpAny_execs_nil ?_
      exact ⟨_, _, _, O, m1, m2, fun a o e => nI _ _ (hs3 _ _ e), hT3, trivial⟩
  obtain ⟨m, I3, oT3, O, m1, m2, hs3, hT3, -⟩ := hL
  have O := O.over
  have rt := rt.mono hs3
  have ep := hs3 _ _ ep
  have rf := rf.mono hs3
  refine r_seq (LQ4 G c I3 v (.ref p) fun m' I' => okT t = true ∧ ∃ told, m' "told" = some told ∧ Bv I' told (enc (fm t))) ?_ fun s hL => ?_
  · refine wpAny_Try_except ?_
    refine wpAny_mono (E := ESt G c (LX4 G I3 v (.ref p) (okT t = false) (.type "TypeError"))) ?_ (fun _ _ h => h) (fun e s' h => r_caught B.f h fun z st' s O T hz => ?_)
    · refine k_asg ?_
      refine k_def O (kd hc) (kn hK) (kk hK (by k_is)) ?_
      refine k_arg O (kd hc) m1 ?_
      refine spliced_none ⟨O.In, ?_⟩
      refine r_call (E' := fun x I' W' => okT t = false ∧ (∀ a o, I3 a = some o → I' a = some o) ∧ x.cls = .type "TypeError" ∧ x.cx = .none ∧ W' = [(1702, oT3)]) (Wc := [(1702, oT3)]) (Wr := []) O B ((enc1_spec hK hP hM (n := 14) (by lia) (by lia) hsm1 (by lia) rt hT3 (fun hok I4 oT4 u hs4 hT4 hb s O _ => ?_) fun hok x I4 hs4 hcl hcx => ⟨hok, hs4, hcl, hcx, rfl⟩).le (by lia) (by lia)) ?_
      rotate_left
      · rintro x I4 W4 s4 O4 hs4 F4 hn4 ⟨hok, hs4', hcl, hcx, rfl⟩
        exact ⟨x, ⟨_, I4, _⟩, rfl, O4, .inr (.inl (F4.tr (st' := ⟨_, I4, _⟩) O hn4)), fun tb => ⟨hok, m1, m2, hs4', hcl, hcx, oT3, rfl, hT3⟩⟩
      refine r_store O (kd hc) fun s O => ?_
      refine wpAny_execs_nil ?_
      refine wpAny_execs_nil ?_
      exact ⟨_, _, _, O, m1, m2, hs4, hT4, hok, u, rfl, hb⟩
    · obtain ⟨m, I', W'⟩ := st'
      obtain ⟨hok, m1, m2, hs4, hcls, hcx, oT4, hW, hT4⟩ := hz
      dsimp only at m1 m2 hs4 hW
      subst hW
      have B' := B.mark (.ref z.a)
      refine handle1 true ?_
      refine r_blt O (kd hc) (kn hK) PyProof.Rows.Boot.«TypeError» ?_
      refine r_matchT T hcls te_exc te_nt te_self ⟨rfl, ite_t ?_⟩
      refine r_land O T fun s O T => ?_
      obtain ⟨oe, vz, O, hv1, hv2, -, -⟩ := O.takeX T
      rw [hcx] at hv2
      have nI := O.wI (z.a, oe) (.head _)
      have O := O.fix
      have nI := sub_fix (o := oe) nI
      have ep := nI _ _ (hs4 _ _ ep)
      have rt := (rt.mono hs4).mono nI
      have HH : HdH (some (.ref z.a)) (fun a => if a = z.a then some oe else I' a) := .inr ⟨z.a, oe, vz, rfl, if_pos rfl, hv1, hv2⟩
      refine e_cons ?_
      refine r_if O False ?_ (fun s O g0 => g0.elim) (fun s O g0 => ?_)
      · skip
        refine e_plain ?_
        refine e_sub ?_
        refine r_name O (kd hc) m2 ?_
        refine r_int O fun k4 s O => ?_
        refine r_itemT (v := .bool (okT t)) (O.im _ _ ep) (by simp) (by decide) (by rfl) ?_
        rw [hok]
        refine wpAny_truthy_bool ?_
        exact ⟨O, iff_no id⟩
      refine wpAny_execs_nil ?_
      refine e_cons ?_
      refine wpAny_Try_except ?_
      refine wpAny_mono (E := ESt G c (fun x st' => x.cls = .type "TypeError" ∧ st'.W = [(1702, oT4)])) ?_ (fun _ _ h => h) (fun e s' h => r_caught B'.f h fun z2 st2 s O T hz2 => ?_)
      · refine e_cons ?_
        refine r_expr O ?_
        refine k_def O (kd hc) (kn hK) (kk hK (by k_is)) ?_
        refine k_arg O (kd hc) m1 ?_
        refine spliced_none ⟨O.In, ?_⟩
        refine r_call (E' := fun x I' W' => x.cls = .type "TypeError" ∧ W' = []) (Wc := []) (Wr := [(1702, oT4)]) O B' ((is_spec hK 14 t (by lia) (by lia) rt HH (fun h => by rw [hok] at h; cases h) fun _ x I5 hs5 hcl _ => ⟨hcl, rfl⟩).le (by lia) (by lia)) ?_
        rintro x I5 W5 s5 O5 hs5 F5 hn5 ⟨hcl, rfl⟩
        exact ⟨x, ⟨_, I5, _⟩, rfl, O5, .inr (.inl (F5.tr (st' := ⟨_, I5, _⟩) O hn5)), fun tb => ⟨hcl, rfl⟩⟩
      · obtain ⟨m, I5, W5⟩ := st2
        obtain ⟨hcls2, hW⟩ := hz2
        dsimp only at hW
        subst hW
        refine handle1 true ?_
        refine r_blt O (kd hc) (kn hK) PyProof.Rows.Boot.«TypeError» ?_
        refine r_matchT T hcls2 te_exc te_nt te_self ⟨rfl, ite_t ?_⟩
        refine r_land O T fun s O T => ?_
        refine k_ret ?_
        refine r_bool ?_
        exact ⟨_, I5, _, O, hq _ _ hT4⟩
  obtain ⟨m, I4, oT4, O, m1, m2, hs4, hT4, hok, told, m3, hb⟩ := hL
  have O := O.over
  have rt := rt.mono hs4
  have ep := hs4 _ _ ep
  have rf := rf.mono hs4
  rw [hok] at ep
  have hbl : (enc (fm t)).length ≤ 10000 := by lia
  refine e_cons ?_
  refine wpAny_If ?_
  refine wpAny_mono (Q := fun b s' => b = false ∧ ∃ I5, (∀ a o, I4 a = some o → I5 a = some o) ∧ Ok G c ⟨ov [] m, I5, [(1702, oT4)]⟩ s') (E := EndX G c E) ?_ (fun b s' h => ?_) (fun _ _ h => h)
  · refine e_or ?_
    refine isTrue_not ?_
    refine e_plain ?_
    refine e_sub ?_
    refine r_name O (kd hc) m2 ?_
    refine r_int O fun k4 s O => ?_
    refine r_itemT (v := .bool true) (O.im _ _ ep) (by simp) (by decide) (by rfl) ?_
    refine wpAny_truthy_bool ?_
    refine ite_f ?_
    refine e_or ?_
    refine e_icmp ?_
    refine r_name O (kd hc) m3 ?_
    refine k_def O (kd hc) (kn hK) (kk hK (by k_is)) ?_
    refine e_more ?_
    refine e_sub ?_
    refine r_name O (kd hc) m2 ?_
    refine r_int O fun k4 s O => ?_
    refine r_itemT (v := fv) (O.im _ _ ep) (by simp) (by decide) (by rfl) ?_
    refine spliced_none ⟨O.In, ?_⟩
    refine r_pure O B ((put_spec hK 14 (fm t) (by lia) (by lia) rf fun t' s O _ => ?_).le (by lia) (by lia))
    refine r_neV (O.im) (by have := B.u; lia) hb ?_
    refine wpAny_truthy_bool ?_
    refine ite_f ?_
    refine e_or ?_
    refine e_icmp ?_
    refine k_def O (kd hc) (kn hK) (kk hK (by k_is)) ?_
    refine e_more ?_
    refine e_call ?_
    refine r_blt O (kd hc) (kn hK) PyProof.Rows.Boot.«bytes» ?_
    refine c_t1 ?_
    refine k_arg O (kd hc) m3 ?_
    refine spliced_none ?_
    refine BA.bytes_of (hb.mono O.im) (by lia) fun k1 k2 => ?_
    have O : Ok G c _ _ := O.toks (k := k2)
    refine spliced_none ⟨O.In, ?_⟩
    refine r_pure O B ((decode_ok hK (t := fm t) (n := 14) (by lia) (by lia) fun I5 dv hs5 hdv s O _ => ?_).le (by lia) (by lia))
    refine e_sub ?_
    refine r_name O (kd hc) m2 ?_
    refine r_int O fun k4 s O => ?_
    refine r_itemT (v := fv) (O.im _ _ (hs5 _ _ ep)) (by simp) (by decide) (by rfl) ?_
    refine r_neRep O.im (by have := B.u; lia) hdv (rf.mono hs5) ?_
    refine wpAny_truthy_bool ?_
    refine ite_f ?_
    exact isTrue_or_nil ⟨rfl, I5, hs5, O⟩
  obtain ⟨rfl, I5, hs5, O⟩ := h
  refine ite_f ?_
  refine wpAny_execs_nil ?_
  have rt := rt.mono hs5
  have rf := rf.mono hs5
  have ep := hs5 _ _ ep
  refine k_asg ?_
  refine k_def O (kd hc) (kn hK) (kk hK (by k_is)) ?_
  refine k_arg O (kd hc) m1 ?_
  refine spliced_none ⟨O.In, ?_⟩
  refine r_call (E' := fun _ _ _ => False) (Wc := []) (Wr := [(1702, oT4)]) O B ((is_spec hK 14 t (by lia) (by lia) rt (.inl rfl) (fun _ I6 sv hs6 hsv s O _ => ?_) fun h => by rw [hok] at h; cases h).le (by lia) (by lia)) fun _ _ _ _ _ _ _ _ h => h.elim
  dsimp only [List.nil_append] at O
  refine r_store O (kd hc) fun s O => ?_
  have rt := rt.mono hs6
  have rf := rf.mono hs6
  have ep := hs6 _ _ ep
  refine k_ret ?_
  refine BoolOp_and ?_
  refine e_cmp ?_
  refine e_meth ?_
  refine r_name O (kd hc) (by rfl) ?_
  refine (sed_ser0 hK (n := 14) (fun ts h1 h2 h3 => ls_spec hK 14 ts h1 h2 h3) (by lia) (by lia) hsm1 hsv rt).go O (B.le (by lia) (by lia)) (fun Q' h => r_name O (kd hc) m1 (h _ O)) fun I7 r s hs7 hr7 O => ?_
  refine e_sub ?_
  refine r_name O (kd hc) m2 ?_
  refine r_int O fun k4 s O => ?_
  refine r_itemT (v := fv) (O.im _ _ (hs7 _ _ ep)) (by simp) (by decide) (by rfl) ?_
  refine r_eqSer O.im hok (by have := B.u; lia) hr7 (rf.mono hs7) ?_
  refine wpAny_truthy_bool ?_
  refine ite_t ?_
  refine BoolOp_one ?_
  have rt := rt.mono hs7
  have rf := rf.mono hs7
  have ep := hs7 _ _ ep
  have hsv := hsv.mono hs7
  refine k_def O (kd hc) (kn hK) (kk hK (by k_is)) ?_
  refine e_more ?_
  refine e_meth ?_
  refine r_name O (kd hc) (by rfl) ?_
  refine (sed_des0 hK (n := 14) (fun ts h1 h2 h3 => ld_spec hK 14 ts h1 h2 h3) (by lia) (by lia) hsm1 hsv rf).go O (B.le (by lia) (by lia)) (fun Q' h => ?_) fun I8 r8 s hs8 hr8 O => ?_
  · refine e_sub ?_
    refine r_name O (kd hc) m2 ?_
    refine r_int O fun k4 s O => ?_
    refine r_itemT (v := fv) (O.im _ _ ep) (by simp) (by decide) (by rfl) ?_
    exact h _ O
  refine e_more ?_
  refine k_def O (kd hc) (kn hK) (kk hK (by k_is)) ?_
  refine k_arg O (kd hc) m1 ?_
  refine spliced_none ⟨O.In, ?_⟩
  refine r_pure O B ((value_spec hK 14 t (by lia) (by lia) (rt.mono hs8) fun I9 r9 hs9 hr9 s O _ => ?_).le (by lia) (by lia))
  refine spliced_none ⟨O.In, ?_⟩
  refine r_pure O B ((same_spec hK 14 t (by lia) (by lia) hok (hr8.mono hs9) hr9 fun s O _ => ?_).le (by lia) (by lia))
  exact ⟨_, I9, _, O, hq _ _ hT4⟩
end
section
theorem get_without (h : Heap) (a b : Addr) : (h.update a fun o => { o with data := .freed }).get? b = if b = a then none else h.get? b := by
  by_cases e : b = a
  · subst e
    rw [if_pos rfl]
    cases h with | mk objs life =>
    unfold Heap.update Heap.get?
    simp only [Array.getElem?_modify, if_true]
    cases objs[b]? <;> rfl
  · rw [if_neg e]; exact Heap.get?_update_other _ _ (Ne.symm e)
theorem kk_tab (P : Params) : (KK P).lookup 1702 = none := by kernel_rfl
theorem kk_1706 (P : Params) : ∃ o vs, (KK P).lookup 1706 = some o ∧ o.data = .fields vs ∧ vs.getD 11 .none = .ref 1702 := ⟨_, _, by k_is, rfl, rfl⟩
theorem kk_1707 (P : Params) : ∃ o fd, (KK P).lookup 1707 = some o ∧ o.data = .func fd ∧ fd.code = .ref 1706 := ⟨_, _, by k_is, rfl, rfl⟩
noncomputable def baseAt {q : Program} {lo : List PySem.Str} {mg mb : Mp} (w : World) (h : Heap) (X : (KK w.params).In h) (T : TopRead q lo mg mb h) : Base where
  B0 := h.update 1702 fun o => { o with data := .freed }
  prog := pw
  w := w
  K := KK w.params
  X := fun a o e => by
    rw [get_without, if_neg fun q => by rw [q, kk_tab] at e; cases e]
    exact X a o e
  q := q
  lo := lo
  mg := mg
  mb := mb
  T := by
    have keep : ∀ a : Addr, a ≠ 1702 → (h.update 1702 fun o => { o with data := .freed }).get? a = h.get? a := fun a ha => by rw [get_without, if_neg ha]
    have nsk : ∀ (a : Addr) (m : Mp), a ≠ 1702 → h.Ns a m → (h.update 1702 fun o => { o with data := .freed }).Ns a m := fun a m ha ⟨o, es, ep, h1, r⟩ => ⟨o, es, ep, (keep a ha).trans h1, r⟩
    obtain ⟨mc, h1, h2⟩ := T.nolimit
    exact ⟨nsk _ _ (by decide) T.g, nsk _ _ (by decide) T.b, ⟨mc, nsk _ _ (by decide) h1, h2⟩, T.builtins, T.free⟩
end
section
open Sem (wp)
namespace N
theorem ends {prog : Program} {w : World} {t : Sem Fin} {s : Shared} {R : Result → Shared → Prop} (hreg : s.asleep)
    (h : wpN (model prog w) callerA t (fun fin s' => ∃ f, fin = .done f ∧ (R (.ok f) s' ∧ leftWithCleanup s'.gens = false)) (fun e s' => R (.error e) s' ∧ leftWithCleanup s'.gens = false) s) :
    ∃ n r s' s'', runN (denote table) prog w n s ⟨t, .builtin "claim.caller" {}, default, []⟩ = .halted (outcomeOf r) s' ∧
      schedN (denote table) prog w n (.single s ⟨t, .builtin "claim.caller" {}, default, []⟩) = .halted (outcomeOf r) s' ∧ s'.forget = s''.forget ∧ R r s'' := by
  have hw := h ⟨.builtin "claim.caller" {}, none, none, [], none⟩ default (by rw [isDecB]; decide +kernel) (fun x hx => (nomatch hx)) caller_in
  obtain ⟨n, r, s₁, s₂, hs, hn, hfo, hR⟩ := wp_halts_full (M := model prog w) (R := R) hreg (Sem.wp_mono _ _ t (fun fin p' s' h' => by obtain ⟨f, rfl, hf⟩ := h'; exact hf) (fun _ _ _ h' => h') default s hw)
  exact ⟨n, r, s₂, s₁, hn, hs, hfo, hR⟩
theorem map7 {α : Type} {A A' B C D F F' H : α → Prop} (kA : ∀ v, A v → A' v) (k : ∀ v, F v → F' v) : (∃ v, A v ∧ B v ∧ C v ∧ D v ∧ F v ∧ H v) → ∃ v, A' v ∧ B v ∧ C v ∧ D v ∧ F' v ∧ H v :=
  fun ⟨v, a, b, c, d, f, h⟩ => ⟨v, kA v a, b, c, d, k v f, h⟩
theorem map9 {α β γ : Type} {A A' B C D F H H' : α → β → γ → Prop} (kA : ∀ x y z, A x y z → A' x y z) (k : ∀ x y z, H x y z → H' x y z) : (∃ x y z, A x y z ∧ B x y z ∧ C x y z ∧ D x y z ∧ F x y z ∧ H x y z) → ∃ x y z, A' x y z ∧ B x y z ∧ C x y z ∧ D x y z ∧ F x y z ∧ H' x y z :=
  fun ⟨x, y, z, a, b, c, d, f, h⟩ => ⟨x, y, z, kA x y z a, b, c, d, f, k x y z h⟩
noncomputable def EndsAs (r : OpenRow) (s : Shared) (args : List WData) (vs : List Value) (s₁ : Shared) (r' : Result) (s' : Shared) : Prop :=
  r.claim.Ends s args vs s₁ r' s' ∧ s'.os = s.os ∧ (r.writes = true → namesKept r.prog r.keeps s.heap s'.heap ∧ ∀ x ∈ r.records, ∀ a, classAt s.heap x.1 = some a → recordClass s'.heap a x.1 (x.2.map (·.1)) = true)
theorem holds {r : OpenRow} {q : Program} {loose : List Str} {Xt : Shared → Bool} {XP : (Str → Option Value) → Heap → Prop} {α : Type} {Yf : Shared → α} {Ya : World → α} {YP : World → Heap → Prop} {d : DefRec} {kwd : List (Str × PySem.Expr)} {N : Nat}
    (left : LeftO r.prog q loose Xt Yf Ya N) (hY : ∀ w s, Yf s = Ya w → YP w s.heap) (hYk : ∀ w h h', YP w h → (∀ b o, h.get? b = some o → h'.get? b = some o) → YP w h')
    (hX : ∀ s, Xt s = true → XP (s.heap.nsMap mainGlobals) s.heap) (hXk : ∀ mg h h', XP mg h → (∀ b o, h.get? b = some o → h'.get? b = some o) → XP mg h')
    (hdef : defOf q r.name = some (d, kwd)) (hp : r.prog.theDef r.name = some (d.params, d.body, d.scope)) (hk : kwWritten? d.params.kwonlyargs d.params.kw_defaults = some kwd) (hRf : ∀ s, Xt s = true → RecFacts r.records s.heap) (hwr : (!r.writes || r.records.isEmpty) = true)
    (k1 : r.wellSaid = true) (ok : (chainsOk q && opensWell r.prog && (frees r.toRowW && r.within.isEmpty)) = true) (hb : r.prog.bare) (hw : r.toRowW.promised)
    (walk : ∀ (w : World) (s₀ s₁ : Shared) (mg mb : Str → Option Value), Ground q loose r.records XP w s₀ mg mb s₁.heap → YP w s₁.heap → ∀ (a : Addr), mg d.name = some (.ref a) → s₁.gens = #[] →
      ∀ (args : List WData) (vals : List Value), r.claim.pre args = true → WellAll w.params s₁.heap vals args →
      wpN (model r.prog w) callerA (PySem.call (.ref a) vals) (fun v s' => GoodWG r.claim (classAt s₀.heap) (ExcName.means s₀.heap) args s₁ (.ok (.ret v)) s')
        (fun e s' => GoodWG r.claim (classAt s₀.heap) (ExcName.means s₀.heap) args s₁ (.error e) s') s₁) : r.Holds := by
  obtain ⟨ok, k5⟩ := Bool.and_eq_true_iff.mp ok
  obtain ⟨hch, o1⟩ := Bool.and_eq_true_iff.mp ok
  obtain ⟨k5, k6⟩ := Bool.and_eq_true_iff.mp k5
  obtain ⟨hsame, hu, ha, hap, hm⟩ := frees_parts k5
  refine ⟨k1, hw, ⟨hb, o1, by show r.makers.map _ = []; rw [hm]; rfl⟩, hw.witness, fun w => ⟨(left.behind hX hch w).1, fun s' hs' => ?_⟩⟩
  obtain ⟨s₀, hf, hg0, s, hT, hz, hgens, hg, G00, y⟩ := (left.behind (XP := fun mg h => XP mg h ∧ RecFacts r.records h) (fun s hs => ⟨hX s hs, hRf s hs⟩) hch w).2 s' hs'
  have G0 : Ground q loose [] XP w s (s.heap.nsMap mainGlobals) (s.heap.nsMap builtinsNs) s.heap := ⟨G00.T, G00.B, G00.D, G00.TE, G00.TD, G00.W, G00.X.1, G00.cls, G00.has, G00.apart, G00.once, G00.K⟩
  have RF := G00.X.2
  have hT' := hT
  have hgens : s.gens = #[] := Array.eq_empty_of_size_eq_zero (beq_iff_eq.mp hgens)
  have G : Ground q loose r.records XP w s _ _ s.heap := RF.ground G0
  refine ⟨s₀, hf, hg0, s, hT, fun n hn => ?_, RF.1, RF.2.1, fun args hpre hlay ord hord => ?_⟩
  · obtain rfl : n = r.name := by split at hn <;> simp_all
    exact pinned_of_view hg G0 hdef hp hk
  obtain ⟨⟨vs, s₁⟩, hlaid⟩ := Option.isSome_iff_exists.mp (layAllW_isSome (P := w.params) (ord := ord) G.has args r.args s (pre_splitW hpre).1)
  have keeps := layAllW_keeps _ _ _ hlaid
  have hal := layAllW_rest _ _ _ hlaid
  obtain ⟨as, hrd, hin, hold⟩ := reads_layAllW hord _ _ _ hlaid hlay s₁.heap (fun _ _ e => e)
  have L : Laid r.records w s s₁ args vs as := ⟨⟨ord, hord, hlaid⟩, hrd, hin, hold, keeps, hal.1.trans hgens, hal.2.2.1⟩
  have G₁ := G.keeps hXk keeps
  obtain ⟨a, o, pm, cd, doc, dV, kV, h1, h2, h3, h4, h5⟩ := G₁.fn hdef
  have hc := walk w s s₁ _ _ G₁ (hYk _ _ _ (hY w s y) keeps) a (defOf_name hdef ▸ h1) L.gens args vs hpre L.well
  have hi := ident_freeW hu ha hap
  have hwi : r.toRowW.claim.within = [] := List.isEmpty_iff.mp k6
  have good : ∀ (r' : Result) s', GoodWG r.claim (classAt s.heap) (ExcName.means s.heap) args s₁ r' s' → EndsAs r s args vs s₁ r' s' ∧ leftWithCleanup s'.gens = false := fun r' s' g => by
    have z := g.laid (c := r.claim) hsame hwi hi L
    exact ⟨⟨z.1, z.2.1, fun q => ⟨namesKept_of hT' hg r.keeps keeps g.2.1.old, noTable hwr q⟩⟩, leftWithCleanup_false_of_bare z.2.2⟩
  obtain ⟨k, r', s', s'', hrun, hsched, hfo, ⟨hcase, hos, hkp⟩⟩ := ends (R := EndsAs r s args vs s₁) (prog := r.prog) (w := w) (t := do match ← nsGet mainNs r.name with
      | some f => do ret (← PySem.call f vs)
      | none => unsupported "claim.caller:no-such-global") (s := s₁) (Shared.asleep_of_life hal.2.2.2 hz)
    (bind (any (wpAny_nsGet G₁.T.g (by
      rw [h1]
      exact bind (mono hc (fun v s' g => any (wpAny_pure ⟨_, rfl, good _ _ g⟩)) fun e s' g => good _ _ g)))))
  obtain ⟨eh, _, _, eo, _⟩ := Shared.forget_eq hfo
  have hcase := hcase.congr eh
  rw [← eh] at hkp
  rw [← eo] at hos
  have hlife : s'.heap.life = s.heap.life := (runN_life _ _ _ hrun).trans hal.2.2.2
  refine ⟨vs, s₁, hlaid, k, _, s', hsched, ?_, (fun _ i x hx => by rw [hgens] at hx; simp at hx), hkp, by rw [hlife], Shared.rest_eq hos⟩
  refine Or.imp (map7 ?_ ?_) (map9 ?_ ?_) hcase
  · rintro v rfl; rfl
  · exact fun v h b o y _ => h b o y
  · rintro x y z rfl; rfl
  · exact fun _ _ _ h b o y _ => h b o y
end N
end
section
theorem law_run {q : Program} {lo : List PySem.Str} {mg mb : Mp} {w : World} {s : Shared} (X : (KK w.params).In s.heap) (T : TopRead q lo mg mb s.heap)
    (hb : ∃ bm ob, mg "__builtins__" = some (.ref bm) ∧ bm ≠ builtinsNs ∧ s.heap.get? bm = some ob ∧ ob.cls = .type "module" ∧ ob.dict = some builtinsNs ∧ ob.data = .plain)
    (htab : ∃ a o fd c P, mg "encode_raw" = some (.ref a) ∧ s.heap.get? a = some o ∧ o.data = .func fd ∧ fd.code = .ref c ∧ s.heap.IsCode c P #[] ∧ s.heap.TableAt c P #[])
    (hg : s.gens = #[]) {a l : Addr} (ha : mg "law" = some (.ref a)) {vs : List Value} {nn : Nat} {ns : List Int} (hl : s.heap.get? l = some (lst vs nn)) (hi : IntsAre vs ns) (hn : ns.length ≤ 63) {Q : VP} {E : VP}
    (hQ : ∀ s', OldK s.heap s'.heap → s'.os = s.os → AllBare s'.gens → Q (.bool true) s') : wpN (model pw w) callerA (call (.ref a) [.ref l]) Q E s := by
  have tn : ∀ {x : PySem.Str} {v : Value}, nsIn (KK w.params) mainGlobals x = some (some v) → mg x = some v := fun e => mg_of X T.g e
  obtain rfl : a = 1820 := by
    have := tn (x := "law") (v := .ref 1820) (by k_is)
    rw [ha] at this; cases this; rfl
  obtain ⟨ga, go, fd, gc, P, t1, t2, t3, t4, t5, t6⟩ := htab
  obtain rfl : ga = 1707 := by
    have := tn (x := "encode_raw") (v := .ref 1707) (by k_is)
    rw [t1] at this; cases this; rfl
  obtain ⟨o7, fd7, e7, f7, g7⟩ := kk_1707 w.params
  have e7' := X _ _ e7
  rw [t2] at e7'; cases e7'
  rw [t3] at f7; cases f7
  rw [t4] at g7; cases g7
  obtain ⟨o6, vs6, e6, f6, g6⟩ := kk_1706 w.params
  have e6' := X _ _ e6
  obtain rfl : P = 1702 := by
    obtain ⟨o, vz, _, _, _, _, _, _, _, _, z1, z2, z3, _⟩ := t5
    rw [e6'] at z1; cases z1
    rw [f6] at z2; cases z2
    rw [g6] at z3; cases z3; rfl
  obtain ⟨bm, ob, b1, b2, b3, b4, b5, b6⟩ := hb
  have hne : bm ≠ 1702 := fun q => by
    rw [q, t6.2] at b3; cases b3; cases b4
  have hll : l ≠ 1702 := fun q => by rw [q, t6.2] at hl; cases hl
  let G := baseAt w s.heap X T
  have gB : ∀ a : Addr, a ≠ 1702 → G.B0.get? a = s.heap.get? a := fun a h => by
    show (s.heap.update 1702 _).get? a = _
    rw [get_without, if_neg h]
  have gN : G.B0.get? 1702 = none := by
    show (s.heap.update 1702 _).get? 1702 = _
    rw [get_without, if_pos rfl]
  have gS : ∀ a o, G.B0.get? a = some o → s.heap.get? a = some o := fun a o h => by
    by_cases q : a = 1702
    · rw [q, gN] at h; cases h
    · rwa [gB a q] at h
  have hM : BMod G.B0 mainGlobals G.mg bm ob := ⟨G.T.g, b1, b2, (gB bm hne).trans b3, b4, b5, b6⟩
  have hT : TabOk G 1706 1702 { cls := .none, data := .fields #[] } := TabOk.of (h := s.heap) ((gB 1706 (by decide)).trans e6') gS t6.2 t5 t6
  have B : Bud callerA none [] (110 + 1) (700 + 3) := ⟨rfl, rfl, by decide +kernel, by decide +kernel⟩
  have Pr : Pre G [] G.B0.get? [(1702, { cls := .none, data := .fields #[] })] s :=
    { b := fun _ _ h => h, im := gS, wr := fun p hp => by rw [List.mem_singleton.mp hp]; exact t6.2, wI := fun p hp => by rw [List.mem_singleton.mp hp]; exact gN, nd := by simp, fI := (fun a h => by cases h), ff := (fun _ h => by cases h), gb := by rw [hg]; exact .empty }
  refine N.mono (law_spec (G := G) rfl rfl hM hi hn ((gB l hll).trans hl) hT (Q := fun v _ W' => v = .bool true ∧ ∃ oT', W' = [(1702, oT')] ∧ TabOk G 1706 1702 oT') (E := fun _ _ _ => False) (fun I' oT' h => ⟨rfl, oT', rfl, h⟩) callerA [] s B Pr) (fun v s' h => ?_) (fun e s' h => ?_)
  · obtain ⟨I', W', R, rfl, oT', rfl, ps, rfl, _⟩ := h
    have hold := R.keep
    refine hQ s' ⟨fun b o h => ?_, fun b o h => ?_⟩ R.os R.gb
    · by_cases q : b = 1702
      · subst q
        rw [t6.2] at h; cases h
        exact .inr (.inl ⟨t6.isCodeTable, rfl, #[], ps, rfl, by rw [R.wr _ (.head _)]; simp⟩)
      · exact .inl (R.keep b o h (fun p hp e => by rw [List.mem_singleton.mp hp] at e; exact q e.symm) (fun h => by cases h))
    · by_cases q : b = 1702
      · subst q; exact ⟨_, R.wr _ (.head _)⟩
      · exact ⟨o, R.keep b o h (fun p hp e => by rw [List.mem_singleton.mp hp] at e; exact q e.symm) (fun h => by cases h)⟩
  · obtain ⟨_, _, _, _, _, _, _, h⟩ := h
    exact h.elim
theorem ints_of_well {P : Params} {h : Heap} : ∀ {ns : List Int} {vs : List Value}, WellAll P h vs (ns.map WData.int) → IntsAre vs ns
  | [], _, w => by cases w; exact .nil
  | n :: ns, _, w => by
    cases w with | cons a b =>
    cases a
    exact .cons _ _ (ints_of_well b)
theorem law_args {l : OpenLaw} {args : List WData} {n : Nat} (hm : l.most = some n) (hb : l.bound = none) (h : l.row.toRowW.claim.pre args = true) : ∃ ns : List Int, args = [.list (ns.map .int)] ∧ ns.length ≤ n := by
  obtain ⟨h1, h2⟩ := pre_splitW h
  obtain ⟨d, r, rfl, h3, h4⟩ := hasAllW_cons h1
  obtain rfl := hasAllW_nil h4
  obtain ⟨xs, rfl, h5⟩ := hasW_list h3
  obtain ⟨ns, rfl⟩ := items_int h5
  refine ⟨ns, rfl, ?_⟩
  have h2 : l.pre.holds l.row.toRowW.records { args := [.list (ns.map .int)] } = true := h2
  unfold OpenLaw.pre WTm.holds at h2
  rw [hm, hb] at h2
  simp [WTm.value] at h2
  split at h2
  · rename_i h6
    repeat' split at h6
    all_goals first | (cases h6; done) | skip
    all_goals simp_all
    rename_i h7
    have e : W.less? (WData.int (n : Int)) (WData.int (ns.length : Int)) = some (decide ((n : Int) < ns.length)) := by first | rfl | (simp [W.less?]; done)
    rw [e] at h7
    simp at h7
    lia
  · cases h2
theorem law_post {l : OpenLaw} {a b : List WData} : l.row.toRowW.claim.post a (.bool true) b = true := by
  show WTm.holds l.row.toRowW.records (.eq .res (.lit (.bool true))) _ = true
  simp [WTm.holds, WTm.value, W.same]
end
end Rl
section
open PySem PySem.W PyProof.Rows
namespace Hd
theorem enc_rec : (recsOf q01).any (fun d => d.name == Str.ofString "encode_raw") = true := by kernel_rfl
theorem holds02 (said : row1.wellSaid = true) : row1.Holds := by
  refine Rl.N.holds left02 hook01.of hook01.keeps (fun s e => xl_of s (Bool.and_eq_true_iff.mp e).1) XL.keeps def01 a1 a2 (fun s e => recFacts_of (Bool.and_eq_true_iff.mp e).2) a3 said a4 a5 a6 ?_
  intro w s₀ s₁ mg mb Gd Y a hmg hgens args vals hpre hwell
  obtain ⟨ns, rfl, hn⟩ := Rl.law_args (l := rw1) (n := 63) rfl rfl hpre
  cases hwell with | cons w1 w2 =>
  cases w2
  cases w1 with | list e wi =>
  obtain ⟨d, hd, hdn⟩ := List.any_eq_true.mp enc_rec
  have hdn := beq_iff_eq.mp hdn
  have tab := Gd.T.tab d hd
  rw [hdn] at tab
  refine Rl.law_run (kIn_of Y) (topRead_of Gd.T) Gd.T.bmain tab hgens hmg (nn := 0) e (Rl.ints_of_well wi) hn (fun s' hold hos hg => ?_)
  exact ⟨.inl ⟨_, .bool true, [], rfl, fun _ => rfl, .bool true, Rl.law_post (l := rw1), fun _ => ⟨.nil, fun _ h => by cases h⟩⟩, hold, hos, hg⟩
theorem holds01 : rw1.Holds := holds_law (l := rw1) said01 holds02
end Hd
end
theorem PySem.Challenge.cw_it0028_04_holds : PySem.Challenge.rw_it0028_04.Holds :=
  Hd.holds01
