import PyProof.Rows.All
import Wide.All
import OpenK.AllK
import Wide.FinOn
import Lean
import PySem.Challenge.RW_uk0015_01
open PySem PySem.W PyProof.Rows PySem.Calls
set_option Elab.async false
set_option maxRecDepth 100000
set_option maxHeartbeats 8000000
set_option pp.deepTerms false
set_option pp.maxSteps 1500
namespace Mine
section
noncomputable abbrev PW : Program := PySem.Challenge.pw_uk0015_01
noncomputable def fnD (i : Nat) (cd pm : Value) (glob : Nat) : FuncData := match PW.main.body[i + 1]? with
  | some (.FunctionDef n a b _ _ _ sc _ _ _) => { name := n, qualname := n, params := a, body := .stmts b, scope := sc, globals := glob, closure := [], defaults := .none, kwdefaults := .none, doc := .none, pyModule := pm, annotations := none, code := cd, closureTuple := .none, builtins := 0 }
  | _ => default
noncomputable def pairsOf : List (Option PySem.Expr) → List PySem.Expr → List (Int × Str)
  | some (.Constant (.int i) _ _) :: ks, .Constant (.str s) _ _ :: vs => (i, s) :: pairsOf ks vs
  | _, _ => []
noncomputable def b3Pairs : List (Int × Str) := match PW.main.body[(13 : Nat)]? with
  | some (.Assign _ (.Dict ks vs _) _) => pairsOf ks vs
  | _ => []
/-- entries of a display of ints to texts: k is the next token; each entry takes three -/
noncomputable def entsL : Nat → List (Int × Str) → List DictEntry
  | _, [] => []
  | k, (i, s) :: r => ⟨i, .int i k, .str s (k + 1)⟩ :: entsL (k + 3) r
/-- the last, short run: keys and values first -/
noncomputable def entsS : Nat → List (Int × Str) → List DictEntry
  | _, [] => []
  | k, (i, s) :: r => ⟨i, .int i k, .str s (k + 1)⟩ :: entsS (k + 2) r
noncomputable def b3Ents : List DictEntry := entsL 472 (b3Pairs.take 646) ++ entsS 2410 (b3Pairs.drop 646)
noncomputable def dictO (es : List DictEntry) (n : Nat) : Obj := ⟨.type "dict", none, .dict es.toArray n, #[]⟩

noncomputable def O_28 (_ : Params) : Obj := ⟨.type "tuple", none, .seq #[] 0, #[]⟩
noncomputable def O_29 (_ : Params) : Obj := ⟨.none, none, .fields #[.int 6 0, .int 0 0, .ref 47, .int 10 0, .int 0 0, .ref 55, .int 22 0, .int 0 0, .ref 62, .int 32 0, .int 0 0, .ref 80, .int 35 0, .int 0 0, .ref 126, .int 91 0, .int 0 0, .ref 136, .int 94 0, .int 0 0, .ref 143, .int 99 0, .int 0 0, .ref 148, .int 106 0, .int 0 0, .ref 155, .int 111 0, .int 0 0, .ref 162, .int 114 0, .int 0 0, .ref 169, .int 132 0, .int 0 0, .ref 176, .int 137 0, .int 0 0, .ref 183, .int 150 0, .int 0 0, .ref 188, .int 157 0, .int 0 0, .ref 193, .int 199 0, .int 0 0, .ref 198, .int 212 0, .int 0 0, .ref 203], #[]⟩
noncomputable def O_30 (_ : Params) : Obj := ⟨.type "code", none, .fields #[.str (Str.ofString "<module>") 277, .str (Str.ofString "<module>") 278, .str (Str.ofString "/claim/cut.py") 279, .int 1 0, .int 0 0, .int 0 0, .int 0 0, .int 0 0, .ref 28, .bool false, .int 276 0, .ref 29, .none, .none, .none, .none, .int 280 0, .int 1 0, .str (Str.ofString "/claim/cut.py") 281], #[]⟩
noncomputable def O_31 (_ : Params) : Obj := ⟨.type "frame", none, .plain, #[(some (.ref 30)), (some (.ref 3)), (some (.ref 3)), none, (some (.str (Str.ofString "__main__") 164)), none, (some (.ref 0))]⟩
noncomputable def O_32 (_ : Params) : Obj := ⟨.type "list", none, .seq #[.int 14 287, .int 4 288, .int 0 289, .int 1 290, .int 1 291, .int 6 292, .int 1 293, .int 16 294, .int 46 295, .int 1 296] 0, #[]⟩
noncomputable def O_33 (_ : Params) : Obj := ⟨.type "dict", none, .dict #[] 0, #[]⟩
noncomputable def O_34 (_ : Params) : Obj := ⟨.type "tuple", none, .seq #[.none] 0, #[]⟩
noncomputable def O_35 (_ : Params) : Obj := ⟨.type "tuple", none, .seq #[.int 14 0, .int 4 0, .int 0 0, .int 1 0, .int 1 0, .int 6 0, .int 1 0, .int 16 0, .int 46 0, .int 1 0] 0, #[]⟩
noncomputable def O_36 (_ : Params) : Obj := ⟨.type "re.Pattern", none, .fields #[.str (Str.ofString "(?m)^\\.") 285, .int 40 298, .int 0 0, .none, .none, .ref 35, .int 0 0], #[]⟩
noncomputable def O_37 (_ : Params) : Obj := ⟨.type "list", none, .seq #[.int 14 303, .int 9 304, .int 4 305, .int 1 306, .int 2 307, .int 16 308, .int 10 309, .int 16 310, .int 13 311, .int 0 312, .int 7 313, .int 7 314, .int 16 315, .int 13 316, .int 16 317, .int 10 318, .int 15 319, .int 18 320, .int 5 321, .int 16 322, .int 10 323, .int 15 324, .int 13 325, .int 11 326, .int 16 327, .int 13 328, .int 5 329, .int 5 330, .int 0 331, .int 16 332, .int 10 333, .int 1 334, .int 15 335, .int 2 336, .int 0 337, .int 1 338] 0, #[]⟩
noncomputable def O_38 (_ : Params) : Obj := ⟨.type "dict", none, .dict #[] 0, #[]⟩
noncomputable def O_39 (_ : Params) : Obj := ⟨.type "tuple", none, .seq #[.none] 0, #[]⟩
noncomputable def O_40 (_ : Params) : Obj := ⟨.type "tuple", none, .seq #[.int 14 0, .int 9 0, .int 4 0, .int 1 0, .int 2 0, .int 16 0, .int 10 0, .int 16 0, .int 13 0, .int 0 0, .int 7 0, .int 7 0, .int 16 0, .int 13 0, .int 16 0, .int 10 0, .int 15 0, .int 18 0, .int 5 0, .int 16 0, .int 10 0, .int 15 0, .int 13 0, .int 11 0, .int 16 0, .int 13 0, .int 5 0, .int 5 0, .int 0 0, .int 16 0, .int 10 0, .int 1 0, .int 15 0, .int 2 0, .int 0 0, .int 1 0] 0, #[]⟩
noncomputable def O_41 (_ : Params) : Obj := ⟨.type "re.Pattern", none, .fields #[.str (Str.ofString "(?:\\r\\n|\\n|\\r(?!\\n))") 301, .int 32 340, .int 0 0, .none, .none, .ref 40, .int 0 0], #[]⟩
noncomputable def O_42 (_ : Params) : Obj := ⟨.type "tuple", none, .seq #[] 0, #[]⟩
noncomputable def O_43 (_ : Params) : Obj := ⟨.none, none, .fields #[], #[]⟩
noncomputable def O_44 (_ : Params) : Obj := ⟨.type "tuple", none, .seq #[.str (Str.ofString "data") 347] 0, #[]⟩
noncomputable def O_45 (_ : Params) : Obj := ⟨.type "tuple", none, .seq #[] 0, #[]⟩
noncomputable def O_46 (_ : Params) : Obj := ⟨.none, none, .func (fnD 4 (.none) (.none) 0), #[]⟩
noncomputable def O_47 (_ : Params) : Obj := ⟨.type "code", none, .fields #[.str (Str.ofString "quotedata") 344, .str (Str.ofString "quotedata") 345, .str (Str.ofString "/claim/cut.py") 346, .int 6 0, .int 1 0, .int 0 0, .int 0 0, .int 3 0, .ref 42, .bool true, .int 276 0, .ref 43, .none, .ref 44, .ref 45, .ref 46, .int 348 0, .int 6 0, .str (Str.ofString "/claim/cut.py") 349], #[]⟩
noncomputable def O_48 (_ : Params) : Obj := ⟨.type "function", none, .func (fnD 4 (.ref 47) (.str (Str.ofString "cpy313.smtplib") 282) 3), #[]⟩
noncomputable def O_49 (_ : Params) : Obj := ⟨.type "dict", none, .dict #[⟨1, .int 1 353, .str (Str.ofString "OPTIMIZED") 354⟩, ⟨2, .int 2 355, .str (Str.ofString "NEWLOCALS") 356⟩, ⟨4, .int 4 357, .str (Str.ofString "VARARGS") 358⟩, ⟨8, .int 8 359, .str (Str.ofString "VARKEYWORDS") 360⟩, ⟨16, .int 16 361, .str (Str.ofString "NESTED") 362⟩, ⟨32, .int 32 363, .str (Str.ofString "GENERATOR") 364⟩, ⟨64, .int 64 365, .str (Str.ofString "NOFREE") 366⟩, ⟨128, .int 128 367, .str (Str.ofString "COROUTINE") 368⟩, ⟨256, .int 256 369, .str (Str.ofString "ITERABLE_COROUTINE") 370⟩, ⟨512, .int 512 371, .str (Str.ofString "ASYNC_GENERATOR") 372⟩] 10, #[]⟩
noncomputable def O_50 (_ : Params) : Obj := ⟨.type "tuple", none, .seq #[] 0, #[]⟩
noncomputable def O_51 (_ : Params) : Obj := ⟨.none, none, .fields #[], #[]⟩
noncomputable def O_52 (_ : Params) : Obj := ⟨.type "tuple", none, .seq #[.str (Str.ofString "flags") 387, .str (Str.ofString "names") 388, .str (Str.ofString "i") 389, .str (Str.ofString "flag") 390] 0, #[]⟩
noncomputable def O_53 (_ : Params) : Obj := ⟨.type "tuple", none, .seq #[] 0, #[]⟩
noncomputable def O_54 (_ : Params) : Obj := ⟨.none, none, .func (fnD 7 (.none) (.none) 0), #[]⟩
noncomputable def O_55 (_ : Params) : Obj := ⟨.type "code", none, .fields #[.str (Str.ofString "pretty_flags") 384, .str (Str.ofString "pretty_flags") 385, .str (Str.ofString "/claim/cut.py") 386, .int 10 0, .int 1 0, .int 0 0, .int 0 0, .int 3 0, .ref 50, .bool true, .int 276 0, .ref 51, .none, .ref 52, .ref 53, .ref 54, .int 391 0, .int 10 0, .str (Str.ofString "/claim/cut.py") 392], #[]⟩
noncomputable def O_56 (_ : Params) : Obj := ⟨.type "function", none, .func (fnD 7 (.ref 55) (.str (Str.ofString "cpy313.dis") 351) 3), #[]⟩
noncomputable def O_57 (_ : Params) : Obj := ⟨.type "tuple", none, .seq #[] 0, #[]⟩
noncomputable def O_58 (_ : Params) : Obj := ⟨.none, none, .fields #[], #[]⟩
noncomputable def O_59 (_ : Params) : Obj := ⟨.type "tuple", none, .seq #[.str (Str.ofString "iterator") 397, .str (Str.ofString "b") 398, .str (Str.ofString "val") 399] 0, #[]⟩
noncomputable def O_60 (_ : Params) : Obj := ⟨.type "tuple", none, .seq #[] 0, #[]⟩
noncomputable def O_61 (_ : Params) : Obj := ⟨.none, none, .func (fnD 8 (.none) (.none) 0), #[]⟩
noncomputable def O_62 (_ : Params) : Obj := ⟨.type "code", none, .fields #[.str (Str.ofString "_parse_varint") 394, .str (Str.ofString "_parse_varint") 395, .str (Str.ofString "/claim/cut.py") 396, .int 22 0, .int 1 0, .int 0 0, .int 0 0, .int 3 0, .ref 57, .bool true, .int 276 0, .ref 58, .none, .ref 59, .ref 60, .ref 61, .int 400 0, .int 22 0, .str (Str.ofString "/claim/cut.py") 401], #[]⟩
noncomputable def O_63 (_ : Params) : Obj := ⟨.type "function", none, .func (fnD 8 (.ref 62) (.str (Str.ofString "cpy313.dis") 351) 3), #[]⟩
noncomputable def O_64 (_ : Params) : Obj := ⟨.type "list", none, .seq #[.int 173 405, .int 847 406, .int 6150 407, .int 6155 408, .int 6156 409, .int 6157 410, .int 8203 411, .int 8204 412, .int 8205 413, .int 8288 414, .int 65279 415] 0, #[]⟩
noncomputable def O_65 (_ : Params) : Obj := ⟨.type "range", none, .fields #[.int 65024 416, .int 65040 417, .int 1 418], #[]⟩
noncomputable def O_66 (_ : Params) : Obj := ⟨.type "list", none, .seq #[.int 65024 421, .int 65025 422, .int 65026 423, .int 65027 424, .int 65028 425, .int 65029 426, .int 65030 427, .int 65031 428, .int 65032 429, .int 65033 430, .int 65034 431, .int 65035 432, .int 65036 433, .int 65037 434, .int 65038 435, .int 65039 436] 18, #[]⟩
noncomputable def O_67 (_ : Params) : Obj := ⟨.type "range_iterator", none, .fields #[.int 65040 0, .int 0 0, .int 1 0], #[]⟩
noncomputable def O_68 (_ : Params) : Obj := ⟨.type "tuple", none, .seq #[] 0, #[]⟩
noncomputable def O_69 (_ : Params) : Obj := ⟨.type "StopIteration", none, .fields #[.ref 68, .none, .none, .none, .bool false, .none], #[]⟩
noncomputable def O_70 (_ : Params) : Obj := ⟨.type "list", none, .seq #[.int 173 405, .int 847 406, .int 6150 407, .int 6155 408, .int 6156 409, .int 6157 410, .int 8203 411, .int 8204 412, .int 8205 413, .int 8288 414, .int 65279 415, .int 65024 421, .int 65025 422, .int 65026 423, .int 65027 424, .int 65028 425, .int 65029 426, .int 65030 427, .int 65031 428, .int 65032 429, .int 65033 430, .int 65034 431, .int 65035 432, .int 65036 433, .int 65037 434, .int 65038 435, .int 65039 436] 0, #[]⟩
noncomputable def O_71 (P : Params) : Obj := ⟨.type "set", none, .set #[(65024, .int 65024 421), (65025, .int 65025 422), (65026, .int 65026 423), (65027, .int 65027 424), (65028, .int 65028 425), (65029, .int 65029 426), (6150, .int 6150 407), (65030, .int 65030 427), (65031, .int 65031 428), (65032, .int 65032 429), (65033, .int 65033 430), (6155, .int 6155 408), (6156, .int 6156 409), (6157, .int 6157 410), (8203, .int 8203 411), (8204, .int 8204 412), (8205, .int 8205 413), (65034, .int 65034 431), (65035, .int 65035 432), (65036, .int 65036 433), (65037, .int 65037 434), (65038, .int 65038 435), (65039, .int 65039 436), (173, .int 173 405), (847, .int 847 406), (8288, .int 8288 414), (65279, .int 65279 415)] 29 ⟨127, #[0, 1, 2, 3, 4, 5, 6, 7, 8, 9, 10, 11, 12, 13, 14, 15, 16, 17, 18, 19, 20, 21, 22, 45, 79, 96, 127], #[], 0, !P.followText "set-order", 2, true⟩, #[]⟩
noncomputable def O_72 (_ : Params) : Obj := ⟨.type "list_iterator", none, .fields #[.none, .int 27 0], #[]⟩
noncomputable def O_73 (_ : Params) : Obj := ⟨.type "tuple", none, .seq #[] 0, #[]⟩
noncomputable def O_74 (_ : Params) : Obj := ⟨.type "StopIteration", none, .fields #[.ref 73, .none, .none, .none, .bool false, .none], #[]⟩
noncomputable def O_75 (_ : Params) : Obj := ⟨.type "tuple", none, .seq #[] 0, #[]⟩
noncomputable def O_76 (_ : Params) : Obj := ⟨.none, none, .fields #[], #[]⟩
noncomputable def O_77 (_ : Params) : Obj := ⟨.type "tuple", none, .seq #[.str (Str.ofString "code") 468] 0, #[]⟩
noncomputable def O_78 (_ : Params) : Obj := ⟨.type "tuple", none, .seq #[] 0, #[]⟩
noncomputable def O_79 (_ : Params) : Obj := ⟨.none, none, .func (fnD 11 (.none) (.none) 0), #[]⟩
noncomputable def O_80 (_ : Params) : Obj := ⟨.type "code", none, .fields #[.str (Str.ofString "in_table_b1") 465, .str (Str.ofString "in_table_b1") 466, .str (Str.ofString "/claim/cut.py") 467, .int 32 0, .int 1 0, .int 0 0, .int 0 0, .int 3 0, .ref 75, .bool true, .int 276 0, .ref 76, .none, .ref 77, .ref 78, .ref 79, .int 469 0, .int 32 0, .str (Str.ofString "/claim/cut.py") 470], #[]⟩
noncomputable def O_81 (_ : Params) : Obj := ⟨.type "function", none, .func (fnD 11 (.ref 80) (.str (Str.ofString "cpy313.stringprep") 403) 3), #[]⟩
noncomputable def O_82 (_ : Params) : Obj := dictO b3Ents 650
noncomputable def O_83 (_ : Params) : Obj := dictO (entsL 523 ((b3Pairs.drop 17).take 17)) 17
noncomputable def O_84 (_ : Params) : Obj := dictO (entsL 574 ((b3Pairs.drop 34).take 17)) 17
noncomputable def O_85 (_ : Params) : Obj := dictO (entsL 625 ((b3Pairs.drop 51).take 17)) 17
noncomputable def O_86 (_ : Params) : Obj := dictO (entsL 676 ((b3Pairs.drop 68).take 17)) 17
noncomputable def O_87 (_ : Params) : Obj := dictO (entsL 727 ((b3Pairs.drop 85).take 17)) 17
noncomputable def O_88 (_ : Params) : Obj := dictO (entsL 778 ((b3Pairs.drop 102).take 17)) 17
noncomputable def O_89 (_ : Params) : Obj := dictO (entsL 829 ((b3Pairs.drop 119).take 17)) 17
noncomputable def O_90 (_ : Params) : Obj := dictO (entsL 880 ((b3Pairs.drop 136).take 17)) 17
noncomputable def O_91 (_ : Params) : Obj := dictO (entsL 931 ((b3Pairs.drop 153).take 17)) 17
noncomputable def O_92 (_ : Params) : Obj := dictO (entsL 982 ((b3Pairs.drop 170).take 17)) 17
noncomputable def O_93 (_ : Params) : Obj := dictO (entsL 1033 ((b3Pairs.drop 187).take 17)) 17
noncomputable def O_94 (_ : Params) : Obj := dictO (entsL 1084 ((b3Pairs.drop 204).take 17)) 17
noncomputable def O_95 (_ : Params) : Obj := dictO (entsL 1135 ((b3Pairs.drop 221).take 17)) 17
noncomputable def O_96 (_ : Params) : Obj := dictO (entsL 1186 ((b3Pairs.drop 238).take 17)) 17
noncomputable def O_97 (_ : Params) : Obj := dictO (entsL 1237 ((b3Pairs.drop 255).take 17)) 17
noncomputable def O_98 (_ : Params) : Obj := dictO (entsL 1288 ((b3Pairs.drop 272).take 17)) 17
noncomputable def O_99 (_ : Params) : Obj := dictO (entsL 1339 ((b3Pairs.drop 289).take 17)) 17
noncomputable def O_100 (_ : Params) : Obj := dictO (entsL 1390 ((b3Pairs.drop 306).take 17)) 17
noncomputable def O_101 (_ : Params) : Obj := dictO (entsL 1441 ((b3Pairs.drop 323).take 17)) 17
noncomputable def O_102 (_ : Params) : Obj := dictO (entsL 1492 ((b3Pairs.drop 340).take 17)) 17
noncomputable def O_103 (_ : Params) : Obj := dictO (entsL 1543 ((b3Pairs.drop 357).take 17)) 17
noncomputable def O_104 (_ : Params) : Obj := dictO (entsL 1594 ((b3Pairs.drop 374).take 17)) 17
noncomputable def O_105 (_ : Params) : Obj := dictO (entsL 1645 ((b3Pairs.drop 391).take 17)) 17
noncomputable def O_106 (_ : Params) : Obj := dictO (entsL 1696 ((b3Pairs.drop 408).take 17)) 17
noncomputable def O_107 (_ : Params) : Obj := dictO (entsL 1747 ((b3Pairs.drop 425).take 17)) 17
noncomputable def O_108 (_ : Params) : Obj := dictO (entsL 1798 ((b3Pairs.drop 442).take 17)) 17
noncomputable def O_109 (_ : Params) : Obj := dictO (entsL 1849 ((b3Pairs.drop 459).take 17)) 17
noncomputable def O_110 (_ : Params) : Obj := dictO (entsL 1900 ((b3Pairs.drop 476).take 17)) 17
noncomputable def O_111 (_ : Params) : Obj := dictO (entsL 1951 ((b3Pairs.drop 493).take 17)) 17
noncomputable def O_112 (_ : Params) : Obj := dictO (entsL 2002 ((b3Pairs.drop 510).take 17)) 17
noncomputable def O_113 (_ : Params) : Obj := dictO (entsL 2053 ((b3Pairs.drop 527).take 17)) 17
noncomputable def O_114 (_ : Params) : Obj := dictO (entsL 2104 ((b3Pairs.drop 544).take 17)) 17
noncomputable def O_115 (_ : Params) : Obj := dictO (entsL 2155 ((b3Pairs.drop 561).take 17)) 17
noncomputable def O_116 (_ : Params) : Obj := dictO (entsL 2206 ((b3Pairs.drop 578).take 17)) 17
noncomputable def O_117 (_ : Params) : Obj := dictO (entsL 2257 ((b3Pairs.drop 595).take 17)) 17
noncomputable def O_118 (_ : Params) : Obj := dictO (entsL 2308 ((b3Pairs.drop 612).take 17)) 17
noncomputable def O_119 (_ : Params) : Obj := dictO (entsL 2359 ((b3Pairs.drop 629).take 17)) 17
noncomputable def O_120 (_ : Params) : Obj := dictO (entsS 2410 (b3Pairs.drop 646)) 4
noncomputable def O_121 (_ : Params) : Obj := ⟨.type "tuple", none, .seq #[] 0, #[]⟩
noncomputable def O_122 (_ : Params) : Obj := ⟨.none, none, .fields #[], #[]⟩
noncomputable def O_123 (_ : Params) : Obj := ⟨.type "tuple", none, .seq #[.str (Str.ofString "code") 2426, .str (Str.ofString "r") 2427] 0, #[]⟩
noncomputable def O_124 (_ : Params) : Obj := ⟨.type "tuple", none, .seq #[] 0, #[]⟩
noncomputable def O_125 (_ : Params) : Obj := ⟨.none, none, .func (fnD 13 (.none) (.none) 0), #[]⟩
noncomputable def O_126 (_ : Params) : Obj := ⟨.type "code", none, .fields #[.str (Str.ofString "map_table_b3") 2423, .str (Str.ofString "map_table_b3") 2424, .str (Str.ofString "/claim/cut.py") 2425, .int 35 0, .int 1 0, .int 0 0, .int 0 0, .int 3 0, .ref 121, .bool true, .int 276 0, .ref 122, .none, .ref 123, .ref 124, .ref 125, .int 2428 0, .int 35 0, .str (Str.ofString "/claim/cut.py") 2429], #[]⟩
noncomputable def O_127 (_ : Params) : Obj := ⟨.type "function", none, .func (fnD 13 (.ref 126) (.str (Str.ofString "cpy313.stringprep") 403) 3), #[]⟩
noncomputable def O_128 (P : Params) : Obj := ⟨.type "dict", none, .dict #[⟨PyData.keyHash P (Str.ofString "!"), .str (Str.ofString "!") 2531, .int 54 2529⟩, ⟨PyData.keyHash P (Str.ofString "!="), .str (Str.ofString "!=") 2533, .int 28 2477⟩, ⟨PyData.keyHash P (Str.ofString "%"), .str (Str.ofString "%") 2535, .int 24 2469⟩, ⟨PyData.keyHash P (Str.ofString "%="), .str (Str.ofString "%=") 2537, .int 40 2501⟩, ⟨PyData.keyHash P (Str.ofString "&"), .str (Str.ofString "&") 2539, .int 19 2459⟩, ⟨PyData.keyHash P (Str.ofString "&="), .str (Str.ofString "&=") 2541, .int 41 2503⟩, ⟨PyData.keyHash P (Str.ofString "("), .str (Str.ofString "(") 2543, .int 7 2435⟩, ⟨PyData.keyHash P (Str.ofString ")"), .str (Str.ofString ")") 2545, .int 8 2437⟩, ⟨PyData.keyHash P (Str.ofString "*"), .str (Str.ofString "*") 2547, .int 16 2453⟩, ⟨PyData.keyHash P (Str.ofString "**"), .str (Str.ofString "**") 2549, .int 35 2491⟩, ⟨PyData.keyHash P (Str.ofString "**="), .str (Str.ofString "**=") 2551, .int 46 2513⟩, ⟨PyData.keyHash P (Str.ofString "*="), .str (Str.ofString "*=") 2553, .int 38 2497⟩, ⟨PyData.keyHash P (Str.ofString "+"), .str (Str.ofString "+") 2555, .int 14 2449⟩, ⟨PyData.keyHash P (Str.ofString "+="), .str (Str.ofString "+=") 2557, .int 36 2493⟩, ⟨PyData.keyHash P (Str.ofString ","), .str (Str.ofString ",") 2559, .int 12 2445⟩, ⟨PyData.keyHash P (Str.ofString "-"), .str (Str.ofString "-") 2561, .int 15 2451⟩, ⟨PyData.keyHash P (Str.ofString "-="), .str (Str.ofString "-=") 2563, .int 37 2495⟩, ⟨PyData.keyHash P (Str.ofString "->"), .str (Str.ofString "->") 2565, .int 51 2523⟩, ⟨PyData.keyHash P (Str.ofString "."), .str (Str.ofString ".") 2567, .int 23 2467⟩, ⟨PyData.keyHash P (Str.ofString "..."), .str (Str.ofString "...") 2569, .int 52 2525⟩, ⟨PyData.keyHash P (Str.ofString "/"), .str (Str.ofString "/") 2571, .int 17 2455⟩, ⟨PyData.keyHash P (Str.ofString "//"), .str (Str.ofString "//") 2573, .int 47 2515⟩, ⟨PyData.keyHash P (Str.ofString "//="), .str (Str.ofString "//=") 2575, .int 48 2517⟩, ⟨PyData.keyHash P (Str.ofString "/="), .str (Str.ofString "/=") 2577, .int 39 2499⟩, ⟨PyData.keyHash P (Str.ofString ":"), .str (Str.ofString ":") 2579, .int 11 2443⟩, ⟨PyData.keyHash P (Str.ofString ":="), .str (Str.ofString ":=") 2581, .int 53 2527⟩, ⟨PyData.keyHash P (Str.ofString ";"), .str (Str.ofString ";") 2583, .int 13 2447⟩, ⟨PyData.keyHash P (Str.ofString "<"), .str (Str.ofString "<") 2585, .int 20 2461⟩, ⟨PyData.keyHash P (Str.ofString "<<"), .str (Str.ofString "<<") 2587, .int 33 2487⟩, ⟨PyData.keyHash P (Str.ofString "<<="), .str (Str.ofString "<<=") 2589, .int 44 2509⟩, ⟨PyData.keyHash P (Str.ofString "<="), .str (Str.ofString "<=") 2591, .int 29 2479⟩, ⟨PyData.keyHash P (Str.ofString "="), .str (Str.ofString "=") 2593, .int 22 2465⟩, ⟨PyData.keyHash P (Str.ofString "=="), .str (Str.ofString "==") 2595, .int 27 2475⟩, ⟨PyData.keyHash P (Str.ofString ">"), .str (Str.ofString ">") 2597, .int 21 2463⟩, ⟨PyData.keyHash P (Str.ofString ">="), .str (Str.ofString ">=") 2599, .int 30 2481⟩, ⟨PyData.keyHash P (Str.ofString ">>"), .str (Str.ofString ">>") 2600, .int 34 2489⟩, ⟨PyData.keyHash P (Str.ofString ">>="), .str (Str.ofString ">>=") 2601, .int 45 2511⟩, ⟨PyData.keyHash P (Str.ofString "@"), .str (Str.ofString "@") 2602, .int 49 2519⟩, ⟨PyData.keyHash P (Str.ofString "@="), .str (Str.ofString "@=") 2603, .int 50 2521⟩, ⟨PyData.keyHash P (Str.ofString "["), .str (Str.ofString "[") 2604, .int 9 2439⟩, ⟨PyData.keyHash P (Str.ofString "]"), .str (Str.ofString "]") 2605, .int 10 2441⟩, ⟨PyData.keyHash P (Str.ofString "^"), .str (Str.ofString "^") 2606, .int 32 2485⟩, ⟨PyData.keyHash P (Str.ofString "^="), .str (Str.ofString "^=") 2607, .int 43 2507⟩, ⟨PyData.keyHash P (Str.ofString "{"), .str (Str.ofString "{") 2608, .int 25 2471⟩, ⟨PyData.keyHash P (Str.ofString "|"), .str (Str.ofString "|") 2609, .int 18 2457⟩, ⟨PyData.keyHash P (Str.ofString "|="), .str (Str.ofString "|=") 2610, .int 42 2505⟩, ⟨PyData.keyHash P (Str.ofString "}"), .str (Str.ofString "}") 2611, .int 26 2473⟩, ⟨PyData.keyHash P (Str.ofString "~"), .str (Str.ofString "~") 2612, .int 31 2483⟩] 48, #[]⟩
noncomputable def O_129 (P : Params) : Obj := ⟨.type "dict", none, .dict #[⟨PyData.keyHash P (Str.ofString "->"), .str (Str.ofString "->") 2565, .int 51 2523⟩, ⟨PyData.keyHash P (Str.ofString "."), .str (Str.ofString ".") 2567, .int 23 2467⟩, ⟨PyData.keyHash P (Str.ofString "..."), .str (Str.ofString "...") 2569, .int 52 2525⟩, ⟨PyData.keyHash P (Str.ofString "/"), .str (Str.ofString "/") 2571, .int 17 2455⟩, ⟨PyData.keyHash P (Str.ofString "//"), .str (Str.ofString "//") 2573, .int 47 2515⟩, ⟨PyData.keyHash P (Str.ofString "//="), .str (Str.ofString "//=") 2575, .int 48 2517⟩, ⟨PyData.keyHash P (Str.ofString "/="), .str (Str.ofString "/=") 2577, .int 39 2499⟩, ⟨PyData.keyHash P (Str.ofString ":"), .str (Str.ofString ":") 2579, .int 11 2443⟩, ⟨PyData.keyHash P (Str.ofString ":="), .str (Str.ofString ":=") 2581, .int 53 2527⟩, ⟨PyData.keyHash P (Str.ofString ";"), .str (Str.ofString ";") 2583, .int 13 2447⟩, ⟨PyData.keyHash P (Str.ofString "<"), .str (Str.ofString "<") 2585, .int 20 2461⟩, ⟨PyData.keyHash P (Str.ofString "<<"), .str (Str.ofString "<<") 2587, .int 33 2487⟩, ⟨PyData.keyHash P (Str.ofString "<<="), .str (Str.ofString "<<=") 2589, .int 44 2509⟩, ⟨PyData.keyHash P (Str.ofString "<="), .str (Str.ofString "<=") 2591, .int 29 2479⟩, ⟨PyData.keyHash P (Str.ofString "="), .str (Str.ofString "=") 2593, .int 22 2465⟩, ⟨PyData.keyHash P (Str.ofString "=="), .str (Str.ofString "==") 2595, .int 27 2475⟩, ⟨PyData.keyHash P (Str.ofString ">"), .str (Str.ofString ">") 2597, .int 21 2463⟩] 17, #[]⟩
noncomputable def O_130 (P : Params) : Obj := ⟨.type "dict", none, .dict #[⟨PyData.keyHash P (Str.ofString ">="), .str (Str.ofString ">=") 2599, .int 30 2481⟩, ⟨PyData.keyHash P (Str.ofString ">>"), .str (Str.ofString ">>") 2600, .int 34 2489⟩, ⟨PyData.keyHash P (Str.ofString ">>="), .str (Str.ofString ">>=") 2601, .int 45 2511⟩, ⟨PyData.keyHash P (Str.ofString "@"), .str (Str.ofString "@") 2602, .int 49 2519⟩, ⟨PyData.keyHash P (Str.ofString "@="), .str (Str.ofString "@=") 2603, .int 50 2521⟩, ⟨PyData.keyHash P (Str.ofString "["), .str (Str.ofString "[") 2604, .int 9 2439⟩, ⟨PyData.keyHash P (Str.ofString "]"), .str (Str.ofString "]") 2605, .int 10 2441⟩, ⟨PyData.keyHash P (Str.ofString "^"), .str (Str.ofString "^") 2606, .int 32 2485⟩, ⟨PyData.keyHash P (Str.ofString "^="), .str (Str.ofString "^=") 2607, .int 43 2507⟩, ⟨PyData.keyHash P (Str.ofString "{"), .str (Str.ofString "{") 2608, .int 25 2471⟩, ⟨PyData.keyHash P (Str.ofString "|"), .str (Str.ofString "|") 2609, .int 18 2457⟩, ⟨PyData.keyHash P (Str.ofString "|="), .str (Str.ofString "|=") 2610, .int 42 2505⟩, ⟨PyData.keyHash P (Str.ofString "}"), .str (Str.ofString "}") 2611, .int 26 2473⟩, ⟨PyData.keyHash P (Str.ofString "~"), .str (Str.ofString "~") 2612, .int 31 2483⟩] 14, #[]⟩
noncomputable def O_131 (_ : Params) : Obj := ⟨.type "tuple", none, .seq #[] 0, #[]⟩
noncomputable def O_132 (_ : Params) : Obj := ⟨.none, none, .fields #[], #[]⟩
noncomputable def O_133 (_ : Params) : Obj := ⟨.type "tuple", none, .seq #[.str (Str.ofString "x") 2631] 0, #[]⟩
noncomputable def O_134 (_ : Params) : Obj := ⟨.type "tuple", none, .seq #[] 0, #[]⟩
noncomputable def O_135 (_ : Params) : Obj := ⟨.none, none, .func (fnD 65 (.none) (.none) 0), #[]⟩
noncomputable def O_136 (_ : Params) : Obj := ⟨.type "code", none, .fields #[.str (Str.ofString "ISEOF") 2628, .str (Str.ofString "ISEOF") 2629, .str (Str.ofString "/claim/cut.py") 2630, .int 91 0, .int 1 0, .int 0 0, .int 0 0, .int 3 0, .ref 131, .bool true, .int 276 0, .ref 132, .none, .ref 133, .ref 134, .ref 135, .int 2632 0, .int 91 0, .str (Str.ofString "/claim/cut.py") 2633], #[]⟩
noncomputable def O_137 (_ : Params) : Obj := ⟨.type "function", none, .func (fnD 65 (.ref 136) (.str (Str.ofString "cpy313.token") 2431) 3), #[]⟩
noncomputable def O_138 (_ : Params) : Obj := ⟨.type "tuple", none, .seq #[] 0, #[]⟩
noncomputable def O_139 (_ : Params) : Obj := ⟨.none, none, .fields #[], #[]⟩
noncomputable def O_140 (_ : Params) : Obj := ⟨.type "tuple", none, .seq #[.str (Str.ofString "script") 2640, .str (Str.ofString "cells") 2641, .str (Str.ofString "place") 2642] 0, #[]⟩
noncomputable def O_141 (_ : Params) : Obj := ⟨.type "tuple", none, .seq #[] 0, #[]⟩
noncomputable def O_142 (_ : Params) : Obj := ⟨.none, none, .func (fnD 67 (.none) (.none) 0), #[]⟩
noncomputable def O_143 (_ : Params) : Obj := ⟨.type "code", none, .fields #[.str (Str.ofString "_law_cells") 2637, .str (Str.ofString "_law_cells") 2638, .str (Str.ofString "/claim/cut.py") 2639, .int 94 0, .int 1 0, .int 0 0, .int 0 0, .int 3 0, .ref 138, .bool true, .int 276 0, .ref 139, .none, .ref 140, .ref 141, .ref 142, .int 2643 0, .int 94 0, .str (Str.ofString "/claim/cut.py") 2644], #[]⟩
noncomputable def O_144 (_ : Params) : Obj := ⟨.type "function", none, .func (fnD 67 (.ref 143) (.str (Str.ofString "law_uk0015_01") 2635) 3), #[]⟩
noncomputable def O_145 (_ : Params) : Obj := ⟨.type "tuple", none, .seq #[] 0, #[]⟩
noncomputable def O_146 (_ : Params) : Obj := ⟨.none, none, .fields #[], #[]⟩
noncomputable def O_147 (_ : Params) : Obj := ⟨.none, none, .func (fnD 68 (.none) (.none) 0), #[]⟩
noncomputable def O_148 (_ : Params) : Obj := ⟨.type "code", none, .fields #[.str (Str.ofString "_law_net") 2646, .str (Str.ofString "_law_net") 2647, .str (Str.ofString "/claim/cut.py") 2648, .int 99 0, .int 1 0, .int 0 0, .int 0 0, .int 3 0, .ref 145, .bool true, .int 276 0, .ref 146, .none, .none, .none, .ref 147, .int 2649 0, .int 99 0, .str (Str.ofString "/claim/cut.py") 2650], #[]⟩
noncomputable def O_149 (_ : Params) : Obj := ⟨.type "function", none, .func (fnD 68 (.ref 148) (.str (Str.ofString "law_uk0015_01") 2635) 3), #[]⟩
noncomputable def O_150 (_ : Params) : Obj := ⟨.type "tuple", none, .seq #[] 0, #[]⟩
noncomputable def O_151 (_ : Params) : Obj := ⟨.none, none, .fields #[], #[]⟩
noncomputable def O_152 (_ : Params) : Obj := ⟨.type "tuple", none, .seq #[.str (Str.ofString "number") 2655, .str (Str.ofString "lone") 2656] 0, #[]⟩
noncomputable def O_153 (_ : Params) : Obj := ⟨.type "tuple", none, .seq #[] 0, #[]⟩
noncomputable def O_154 (_ : Params) : Obj := ⟨.none, none, .func (fnD 69 (.none) (.none) 0), #[]⟩
noncomputable def O_155 (_ : Params) : Obj := ⟨.type "code", none, .fields #[.str (Str.ofString "_law_veil") 2652, .str (Str.ofString "_law_veil") 2653, .str (Str.ofString "/claim/cut.py") 2654, .int 106 0, .int 1 0, .int 0 0, .int 0 0, .int 3 0, .ref 150, .bool true, .int 276 0, .ref 151, .none, .ref 152, .ref 153, .ref 154, .int 2657 0, .int 106 0, .str (Str.ofString "/claim/cut.py") 2658], #[]⟩
noncomputable def O_156 (_ : Params) : Obj := ⟨.type "function", none, .func (fnD 69 (.ref 155) (.str (Str.ofString "law_uk0015_01") 2635) 3), #[]⟩
noncomputable def O_157 (_ : Params) : Obj := ⟨.type "tuple", none, .seq #[] 0, #[]⟩
noncomputable def O_158 (_ : Params) : Obj := ⟨.none, none, .fields #[], #[]⟩
noncomputable def O_159 (_ : Params) : Obj := ⟨.type "tuple", none, .seq #[.str (Str.ofString "number") 2663, .str (Str.ofString "beside") 2664] 0, #[]⟩
noncomputable def O_160 (_ : Params) : Obj := ⟨.type "tuple", none, .seq #[] 0, #[]⟩
noncomputable def O_161 (_ : Params) : Obj := ⟨.none, none, .func (fnD 70 (.none) (.none) 0), #[]⟩
noncomputable def O_162 (_ : Params) : Obj := ⟨.type "code", none, .fields #[.str (Str.ofString "_law_stay") 2660, .str (Str.ofString "_law_stay") 2661, .str (Str.ofString "/claim/cut.py") 2662, .int 111 0, .int 1 0, .int 0 0, .int 0 0, .int 3 0, .ref 157, .bool true, .int 276 0, .ref 158, .none, .ref 159, .ref 160, .ref 161, .int 2665 0, .int 111 0, .str (Str.ofString "/claim/cut.py") 2666], #[]⟩
noncomputable def O_163 (_ : Params) : Obj := ⟨.type "function", none, .func (fnD 70 (.ref 162) (.str (Str.ofString "law_uk0015_01") 2635) 3), #[]⟩
noncomputable def O_164 (_ : Params) : Obj := ⟨.type "tuple", none, .seq #[] 0, #[]⟩
noncomputable def O_165 (_ : Params) : Obj := ⟨.none, none, .fields #[], #[]⟩
noncomputable def O_166 (_ : Params) : Obj := ⟨.type "tuple", none, .seq #[.str (Str.ofString "word") 2671, .str (Str.ofString "way") 2672, .str (Str.ofString "pairs") 2673, .str (Str.ofString "fonts") 2674, .str (Str.ofString "typed") 2675, .str (Str.ofString "size") 2676] 0, #[]⟩
noncomputable def O_167 (_ : Params) : Obj := ⟨.type "tuple", none, .seq #[] 0, #[]⟩
noncomputable def O_168 (_ : Params) : Obj := ⟨.none, none, .func (fnD 71 (.none) (.none) 0), #[]⟩
noncomputable def O_169 (_ : Params) : Obj := ⟨.type "code", none, .fields #[.str (Str.ofString "_law_typed") 2668, .str (Str.ofString "_law_typed") 2669, .str (Str.ofString "/claim/cut.py") 2670, .int 114 0, .int 2 0, .int 0 0, .int 0 0, .int 3 0, .ref 164, .bool true, .int 276 0, .ref 165, .none, .ref 166, .ref 167, .ref 168, .int 2677 0, .int 114 0, .str (Str.ofString "/claim/cut.py") 2678], #[]⟩
noncomputable def O_170 (_ : Params) : Obj := ⟨.type "function", none, .func (fnD 71 (.ref 169) (.str (Str.ofString "law_uk0015_01") 2635) 3), #[]⟩
noncomputable def O_171 (_ : Params) : Obj := ⟨.type "tuple", none, .seq #[] 0, #[]⟩
noncomputable def O_172 (_ : Params) : Obj := ⟨.none, none, .fields #[], #[]⟩
noncomputable def O_173 (_ : Params) : Obj := ⟨.type "tuple", none, .seq #[.str (Str.ofString "place") 2683, .str (Str.ofString "named") 2684] 0, #[]⟩
noncomputable def O_174 (_ : Params) : Obj := ⟨.type "tuple", none, .seq #[] 0, #[]⟩
noncomputable def O_175 (_ : Params) : Obj := ⟨.none, none, .func (fnD 72 (.none) (.none) 0), #[]⟩
noncomputable def O_176 (_ : Params) : Obj := ⟨.type "code", none, .fields #[.str (Str.ofString "_law_flag_word") 2680, .str (Str.ofString "_law_flag_word") 2681, .str (Str.ofString "/claim/cut.py") 2682, .int 132 0, .int 1 0, .int 0 0, .int 0 0, .int 3 0, .ref 171, .bool true, .int 276 0, .ref 172, .none, .ref 173, .ref 174, .ref 175, .int 2685 0, .int 132 0, .str (Str.ofString "/claim/cut.py") 2686], #[]⟩
noncomputable def O_177 (_ : Params) : Obj := ⟨.type "function", none, .func (fnD 72 (.ref 176) (.str (Str.ofString "law_uk0015_01") 2635) 3), #[]⟩
noncomputable def O_178 (_ : Params) : Obj := ⟨.type "tuple", none, .seq #[] 0, #[]⟩
noncomputable def O_179 (_ : Params) : Obj := ⟨.none, none, .fields #[], #[]⟩
noncomputable def O_180 (_ : Params) : Obj := ⟨.type "tuple", none, .seq #[.str (Str.ofString "rows") 2691, .str (Str.ofString "turn") 2692, .str (Str.ofString "ends") 2693, .str (Str.ofString "mail") 2694, .str (Str.ofString "place") 2695, .str (Str.ofString "seen") 2696, .str (Str.ofString "sign") 2697, .str (Str.ofString "hidden") 2698] 0, #[]⟩
noncomputable def O_181 (_ : Params) : Obj := ⟨.type "tuple", none, .seq #[] 0, #[]⟩
noncomputable def O_182 (_ : Params) : Obj := ⟨.none, none, .func (fnD 73 (.none) (.none) 0), #[]⟩
noncomputable def O_183 (_ : Params) : Obj := ⟨.type "code", none, .fields #[.str (Str.ofString "_law_sent") 2688, .str (Str.ofString "_law_sent") 2689, .str (Str.ofString "/claim/cut.py") 2690, .int 137 0, .int 2 0, .int 0 0, .int 0 0, .int 3 0, .ref 178, .bool true, .int 276 0, .ref 179, .none, .ref 180, .ref 181, .ref 182, .int 2699 0, .int 137 0, .str (Str.ofString "/claim/cut.py") 2700], #[]⟩
noncomputable def O_184 (_ : Params) : Obj := ⟨.type "function", none, .func (fnD 73 (.ref 183) (.str (Str.ofString "law_uk0015_01") 2635) 3), #[]⟩
noncomputable def O_185 (_ : Params) : Obj := ⟨.type "tuple", none, .seq #[] 0, #[]⟩
noncomputable def O_186 (_ : Params) : Obj := ⟨.none, none, .fields #[], #[]⟩
noncomputable def O_187 (_ : Params) : Obj := ⟨.none, none, .func (fnD 74 (.none) (.none) 0), #[]⟩
noncomputable def O_188 (_ : Params) : Obj := ⟨.type "code", none, .fields #[.str (Str.ofString "_law_letters") 2702, .str (Str.ofString "_law_letters") 2703, .str (Str.ofString "/claim/cut.py") 2704, .int 150 0, .int 1 0, .int 0 0, .int 0 0, .int 3 0, .ref 185, .bool true, .int 276 0, .ref 186, .none, .none, .none, .ref 187, .int 2705 0, .int 150 0, .str (Str.ofString "/claim/cut.py") 2706], #[]⟩
noncomputable def O_189 (_ : Params) : Obj := ⟨.type "function", none, .func (fnD 74 (.ref 188) (.str (Str.ofString "law_uk0015_01") 2635) 3), #[]⟩
noncomputable def O_190 (_ : Params) : Obj := ⟨.type "tuple", none, .seq #[] 0, #[]⟩
noncomputable def O_191 (_ : Params) : Obj := ⟨.none, none, .fields #[], #[]⟩
noncomputable def O_192 (_ : Params) : Obj := ⟨.none, none, .func (fnD 75 (.none) (.none) 0), #[]⟩
noncomputable def O_193 (_ : Params) : Obj := ⟨.type "code", none, .fields #[.str (Str.ofString "_law_play") 2708, .str (Str.ofString "_law_play") 2709, .str (Str.ofString "/claim/cut.py") 2710, .int 157 0, .int 5 0, .int 0 0, .int 0 0, .int 3 0, .ref 190, .bool true, .int 276 0, .ref 191, .none, .none, .none, .ref 192, .int 2711 0, .int 157 0, .str (Str.ofString "/claim/cut.py") 2712], #[]⟩
noncomputable def O_194 (_ : Params) : Obj := ⟨.type "function", none, .func (fnD 75 (.ref 193) (.str (Str.ofString "law_uk0015_01") 2635) 3), #[]⟩
noncomputable def O_195 (_ : Params) : Obj := ⟨.type "tuple", none, .seq #[] 0, #[]⟩
noncomputable def O_196 (_ : Params) : Obj := ⟨.none, none, .fields #[], #[]⟩
noncomputable def O_197 (_ : Params) : Obj := ⟨.none, none, .func (fnD 76 (.none) (.none) 0), #[]⟩
noncomputable def O_198 (_ : Params) : Obj := ⟨.type "code", none, .fields #[.str (Str.ofString "_law_told") 2714, .str (Str.ofString "_law_told") 2715, .str (Str.ofString "/claim/cut.py") 2716, .int 199 0, .int 2 0, .int 0 0, .int 0 0, .int 3 0, .ref 195, .bool true, .int 276 0, .ref 196, .none, .none, .none, .ref 197, .int 2717 0, .int 199 0, .str (Str.ofString "/claim/cut.py") 2718], #[]⟩
noncomputable def O_199 (_ : Params) : Obj := ⟨.type "function", none, .func (fnD 76 (.ref 198) (.str (Str.ofString "law_uk0015_01") 2635) 3), #[]⟩
noncomputable def O_200 (_ : Params) : Obj := ⟨.type "tuple", none, .seq #[] 0, #[]⟩
noncomputable def O_201 (_ : Params) : Obj := ⟨.none, none, .fields #[], #[]⟩
noncomputable def O_202 (_ : Params) : Obj := ⟨.none, none, .func (fnD 77 (.none) (.none) 0), #[]⟩
noncomputable def O_203 (_ : Params) : Obj := ⟨.type "code", none, .fields #[.str (Str.ofString "law") 2720, .str (Str.ofString "law") 2721, .str (Str.ofString "/claim/cut.py") 2722, .int 212 0, .int 1 0, .int 0 0, .int 0 0, .int 3 0, .ref 200, .bool true, .int 276 0, .ref 201, .none, .none, .none, .ref 202, .int 2723 0, .int 212 0, .str (Str.ofString "/claim/cut.py") 2724], #[]⟩
noncomputable def O_204 (_ : Params) : Obj := ⟨.type "function", none, .func (fnD 77 (.ref 203) (.str (Str.ofString "law_uk0015_01") 2635) 3), #[]⟩
noncomputable def O_2 (P : Params) : Obj := ⟨.none, none, .dict #[⟨PyData.keyHash P (Str.ofString "\x69mport.loaded._sre"), .str (Str.ofString "\x69mport.loaded._sre") 183, .bool true⟩, ⟨PyData.keyHash P (Str.ofString "class._frozen_importlib.BuiltinImporter"), .str (Str.ofString "class._frozen_importlib.BuiltinImporter") 185, .ref 14⟩, ⟨PyData.keyHash P (Str.ofString "watched.\x69mport"), .str (Str.ofString "watched.\x69mport") 206, .ref 18⟩, ⟨PyData.keyHash P (Str.ofString "class._frozen_importlib.ModuleSpec"), .str (Str.ofString "class._frozen_importlib.ModuleSpec") 216, .ref 22⟩, ⟨PyData.keyHash P (Str.ofString "sys.modules.booked-epoch"), .str (Str.ofString "sys.modules.booked-epoch") 245, .int 3 0⟩, ⟨PyData.keyHash P (Str.ofString "\x69mport.later-laid._sre"), .str (Str.ofString "\x69mport.later-laid._sre") 270, .bool true⟩, ⟨PyData.keyHash P (Str.ofString "watched.library"), .str (Str.ofString "watched.library") 272, .ref 27⟩, ⟨PyData.keyHash P (Str.ofString "watched.library-objects"), .str (Str.ofString "watched.library-objects") 0, .str ⟨#[12]⟩ 0⟩, ⟨PyData.keyHash P (Str.ofString "watched.library-deep._sre"), .str (Str.ofString "watched.library-deep._sre") 273, .str ⟨#[4, 0, 0, 11, 4, 0, 0, 11, 4, 0, 0, 3, 4, 0, 0, 11, 8, 4, 100, 105, 99, 116, 2]⟩ 0⟩] 9, #[]⟩
noncomputable def O_3 (P : Params) : Obj := ⟨.type "dict", none, .dict #[⟨PyData.keyHash P (Str.ofString "__name__"), .str (Str.ofString "__name__") 165, .str (Str.ofString "law_uk0015_01") 2635⟩, ⟨PyData.keyHash P (Str.ofString "__doc__"), .str (Str.ofString "__doc__") 166, .none⟩, ⟨PyData.keyHash P (Str.ofString "__package__"), .str (Str.ofString "__package__") 167, .none⟩, ⟨PyData.keyHash P (Str.ofString "__loader__"), .str (Str.ofString "__loader__") 168, .builtin "__main__.__loader__#opaque"⟩, ⟨PyData.keyHash P (Str.ofString "__spec__"), .str (Str.ofString "__spec__") 169, .none⟩, ⟨PyData.keyHash P (Str.ofString "__annotations__"), .str (Str.ofString "__annotations__") 170, .ref 6⟩, ⟨PyData.keyHash P (Str.ofString "__builtins__"), .str (Str.ofString "__builtins__") 171, .ref 4⟩, ⟨PyData.keyHash P (Str.ofString "__file__"), .str (Str.ofString "__file__") 173, .str (Str.ofString "/claim/cut.py") 172⟩, ⟨PyData.keyHash P (Str.ofString "__cached__"), .str (Str.ofString "__cached__") 174, .none⟩, ⟨PyData.keyHash P (Str.ofString "_sre"), .str (Str.ofString "_sre") 275, .ref 12⟩, ⟨PyData.keyHash P (Str.ofString "_twin_re_1"), .str (Str.ofString "_twin_re_1") 299, .ref 36⟩, ⟨PyData.keyHash P (Str.ofString "_twin_re_2"), .str (Str.ofString "_twin_re_2") 341, .ref 41⟩, ⟨PyData.keyHash P (Str.ofString "CRLF"), .str (Str.ofString "CRLF") 343, .str (Str.ofString "\x0d\n") 342⟩, ⟨PyData.keyHash P (Str.ofString "quotedata"), .str (Str.ofString "quotedata") 350, .ref 48⟩, ⟨PyData.keyHash P (Str.ofString "COMPILER_FLAG_NAMES"), .str (Str.ofString "COMPILER_FLAG_NAMES") 383, .ref 49⟩, ⟨PyData.keyHash P (Str.ofString "pretty_flags"), .str (Str.ofString "pretty_flags") 393, .ref 56⟩, ⟨PyData.keyHash P (Str.ofString "_parse_varint"), .str (Str.ofString "_parse_varint") 402, .ref 63⟩, ⟨PyData.keyHash P (Str.ofString "b1_set"), .str (Str.ofString "b1_set") 464, .ref 71⟩, ⟨PyData.keyHash P (Str.ofString "in_table_b1"), .str (Str.ofString "in_table_b1") 471, .ref 81⟩, ⟨PyData.keyHash P (Str.ofString "b3_exceptions"), .str (Str.ofString "b3_exceptions") 2422, .ref 82⟩, ⟨PyData.keyHash P (Str.ofString "map_table_b3"), .str (Str.ofString "map_table_b3") 2430, .ref 127⟩, ⟨PyData.keyHash P (Str.ofString "ENDMARKER"), .str (Str.ofString "ENDMARKER") 2434, .int 0 2433⟩, ⟨PyData.keyHash P (Str.ofString "LPAR"), .str (Str.ofString "LPAR") 2436, .int 7 2435⟩, ⟨PyData.keyHash P (Str.ofString "RPAR"), .str (Str.ofString "RPAR") 2438, .int 8 2437⟩, ⟨PyData.keyHash P (Str.ofString "LSQB"), .str (Str.ofString "LSQB") 2440, .int 9 2439⟩, ⟨PyData.keyHash P (Str.ofString "RSQB"), .str (Str.ofString "RSQB") 2442, .int 10 2441⟩, ⟨PyData.keyHash P (Str.ofString "COLON"), .str (Str.ofString "COLON") 2444, .int 11 2443⟩, ⟨PyData.keyHash P (Str.ofString "COMMA"), .str (Str.ofString "COMMA") 2446, .int 12 2445⟩, ⟨PyData.keyHash P (Str.ofString "SEMI"), .str (Str.ofString "SEMI") 2448, .int 13 2447⟩, ⟨PyData.keyHash P (Str.ofString "PLUS"), .str (Str.ofString "PLUS") 2450, .int 14 2449⟩, ⟨PyData.keyHash P (Str.ofString "MINUS"), .str (Str.ofString "MINUS") 2452, .int 15 2451⟩, ⟨PyData.keyHash P (Str.ofString "STAR"), .str (Str.ofString "STAR") 2454, .int 16 2453⟩, ⟨PyData.keyHash P (Str.ofString "SLASH"), .str (Str.ofString "SLASH") 2456, .int 17 2455⟩, ⟨PyData.keyHash P (Str.ofString "VBAR"), .str (Str.ofString "VBAR") 2458, .int 18 2457⟩, ⟨PyData.keyHash P (Str.ofString "AMPER"), .str (Str.ofString "AMPER") 2460, .int 19 2459⟩, ⟨PyData.keyHash P (Str.ofString "LESS"), .str (Str.ofString "LESS") 2462, .int 20 2461⟩, ⟨PyData.keyHash P (Str.ofString "GREATER"), .str (Str.ofString "GREATER") 2464, .int 21 2463⟩, ⟨PyData.keyHash P (Str.ofString "EQUAL"), .str (Str.ofString "EQUAL") 2466, .int 22 2465⟩, ⟨PyData.keyHash P (Str.ofString "DOT"), .str (Str.ofString "DOT") 2468, .int 23 2467⟩, ⟨PyData.keyHash P (Str.ofString "PERCENT"), .str (Str.ofString "PERCENT") 2470, .int 24 2469⟩, ⟨PyData.keyHash P (Str.ofString "LBRACE"), .str (Str.ofString "LBRACE") 2472, .int 25 2471⟩, ⟨PyData.keyHash P (Str.ofString "RBRACE"), .str (Str.ofString "RBRACE") 2474, .int 26 2473⟩, ⟨PyData.keyHash P (Str.ofString "EQEQUAL"), .str (Str.ofString "EQEQUAL") 2476, .int 27 2475⟩, ⟨PyData.keyHash P (Str.ofString "NOTEQUAL"), .str (Str.ofString "NOTEQUAL") 2478, .int 28 2477⟩, ⟨PyData.keyHash P (Str.ofString "LESSEQUAL"), .str (Str.ofString "LESSEQUAL") 2480, .int 29 2479⟩, ⟨PyData.keyHash P (Str.ofString "GREATEREQUAL"), .str (Str.ofString "GREATEREQUAL") 2482, .int 30 2481⟩, ⟨PyData.keyHash P (Str.ofString "TILDE"), .str (Str.ofString "TILDE") 2484, .int 31 2483⟩, ⟨PyData.keyHash P (Str.ofString "CIRCUMFLEX"), .str (Str.ofString "CIRCUMFLEX") 2486, .int 32 2485⟩, ⟨PyData.keyHash P (Str.ofString "LEFTSHIFT"), .str (Str.ofString "LEFTSHIFT") 2488, .int 33 2487⟩, ⟨PyData.keyHash P (Str.ofString "RIGHTSHIFT"), .str (Str.ofString "RIGHTSHIFT") 2490, .int 34 2489⟩, ⟨PyData.keyHash P (Str.ofString "DOUBLESTAR"), .str (Str.ofString "DOUBLESTAR") 2492, .int 35 2491⟩, ⟨PyData.keyHash P (Str.ofString "PLUSEQUAL"), .str (Str.ofString "PLUSEQUAL") 2494, .int 36 2493⟩, ⟨PyData.keyHash P (Str.ofString "MINEQUAL"), .str (Str.ofString "MINEQUAL") 2496, .int 37 2495⟩, ⟨PyData.keyHash P (Str.ofString "STAREQUAL"), .str (Str.ofString "STAREQUAL") 2498, .int 38 2497⟩, ⟨PyData.keyHash P (Str.ofString "SLASHEQUAL"), .str (Str.ofString "SLASHEQUAL") 2500, .int 39 2499⟩, ⟨PyData.keyHash P (Str.ofString "PERCENTEQUAL"), .str (Str.ofString "PERCENTEQUAL") 2502, .int 40 2501⟩, ⟨PyData.keyHash P (Str.ofString "AMPEREQUAL"), .str (Str.ofString "AMPEREQUAL") 2504, .int 41 2503⟩, ⟨PyData.keyHash P (Str.ofString "VBAREQUAL"), .str (Str.ofString "VBAREQUAL") 2506, .int 42 2505⟩, ⟨PyData.keyHash P (Str.ofString "CIRCUMFLEXEQUAL"), .str (Str.ofString "CIRCUMFLEXEQUAL") 2508, .int 43 2507⟩, ⟨PyData.keyHash P (Str.ofString "LEFTSHIFTEQUAL"), .str (Str.ofString "LEFTSHIFTEQUAL") 2510, .int 44 2509⟩, ⟨PyData.keyHash P (Str.ofString "RIGHTSHIFTEQUAL"), .str (Str.ofString "RIGHTSHIFTEQUAL") 2512, .int 45 2511⟩, ⟨PyData.keyHash P (Str.ofString "DOUBLESTAREQUAL"), .str (Str.ofString "DOUBLESTAREQUAL") 2514, .int 46 2513⟩, ⟨PyData.keyHash P (Str.ofString "DOUBLESLASH"), .str (Str.ofString "DOUBLESLASH") 2516, .int 47 2515⟩, ⟨PyData.keyHash P (Str.ofString "DOUBLESLASHEQUAL"), .str (Str.ofString "DOUBLESLASHEQUAL") 2518, .int 48 2517⟩, ⟨PyData.keyHash P (Str.ofString "AT"), .str (Str.ofString "AT") 2520, .int 49 2519⟩, ⟨PyData.keyHash P (Str.ofString "ATEQUAL"), .str (Str.ofString "ATEQUAL") 2522, .int 50 2521⟩, ⟨PyData.keyHash P (Str.ofString "RARROW"), .str (Str.ofString "RARROW") 2524, .int 51 2523⟩, ⟨PyData.keyHash P (Str.ofString "ELLIPSIS"), .str (Str.ofString "ELLIPSIS") 2526, .int 52 2525⟩, ⟨PyData.keyHash P (Str.ofString "COLONEQUAL"), .str (Str.ofString "COLONEQUAL") 2528, .int 53 2527⟩, ⟨PyData.keyHash P (Str.ofString "EXCLAMATION"), .str (Str.ofString "EXCLAMATION") 2530, .int 54 2529⟩, ⟨PyData.keyHash P (Str.ofString "EXACT_TOKEN_TYPES"), .str (Str.ofString "EXACT_TOKEN_TYPES") 2627, .ref 128⟩, ⟨PyData.keyHash P (Str.ofString "ISEOF"), .str (Str.ofString "ISEOF") 2634, .ref 137⟩, ⟨PyData.keyHash P (Str.ofString "_law_cells"), .str (Str.ofString "_law_cells") 2645, .ref 144⟩, ⟨PyData.keyHash P (Str.ofString "_law_net"), .str (Str.ofString "_law_net") 2651, .ref 149⟩, ⟨PyData.keyHash P (Str.ofString "_law_veil"), .str (Str.ofString "_law_veil") 2659, .ref 156⟩, ⟨PyData.keyHash P (Str.ofString "_law_stay"), .str (Str.ofString "_law_stay") 2667, .ref 163⟩, ⟨PyData.keyHash P (Str.ofString "_law_typed"), .str (Str.ofString "_law_typed") 2679, .ref 170⟩, ⟨PyData.keyHash P (Str.ofString "_law_flag_word"), .str (Str.ofString "_law_flag_word") 2687, .ref 177⟩, ⟨PyData.keyHash P (Str.ofString "_law_sent"), .str (Str.ofString "_law_sent") 2701, .ref 184⟩, ⟨PyData.keyHash P (Str.ofString "_law_letters"), .str (Str.ofString "_law_letters") 2707, .ref 189⟩, ⟨PyData.keyHash P (Str.ofString "_law_play"), .str (Str.ofString "_law_play") 2713, .ref 194⟩, ⟨PyData.keyHash P (Str.ofString "_law_told"), .str (Str.ofString "_law_told") 2719, .ref 199⟩, ⟨PyData.keyHash P (Str.ofString "law"), .str (Str.ofString "law") 2725, .ref 204⟩] 83, #[]⟩
noncomputable def KK (P : Params) : Frag := (nat_lit 2, O_2 P) :: (nat_lit 3, O_3 P) :: (nat_lit 35, O_35 P) :: (nat_lit 36, O_36 P) :: (nat_lit 40, O_40 P) :: (nat_lit 41, O_41 P) :: (nat_lit 42, O_42 P) :: (nat_lit 44, O_44 P) :: (nat_lit 45, O_45 P) :: (nat_lit 47, O_47 P) :: (nat_lit 48, O_48 P) :: (nat_lit 49, O_49 P) :: (nat_lit 50, O_50 P) :: (nat_lit 52, O_52 P) :: (nat_lit 53, O_53 P) :: (nat_lit 55, O_55 P) :: (nat_lit 56, O_56 P) :: (nat_lit 57, O_57 P) :: (nat_lit 59, O_59 P) :: (nat_lit 60, O_60 P) :: (nat_lit 62, O_62 P) :: (nat_lit 63, O_63 P) :: (nat_lit 71, O_71 P) :: (nat_lit 75, O_75 P) :: (nat_lit 77, O_77 P) :: (nat_lit 78, O_78 P) :: (nat_lit 80, O_80 P) :: (nat_lit 81, O_81 P) :: (nat_lit 82, O_82 P) :: (nat_lit 121, O_121 P) :: (nat_lit 123, O_123 P) :: (nat_lit 124, O_124 P) :: (nat_lit 126, O_126 P) :: (nat_lit 127, O_127 P) :: (nat_lit 128, O_128 P) :: (nat_lit 131, O_131 P) :: (nat_lit 133, O_133 P) :: (nat_lit 134, O_134 P) :: (nat_lit 136, O_136 P) :: (nat_lit 137, O_137 P) :: (nat_lit 138, O_138 P) :: (nat_lit 140, O_140 P) :: (nat_lit 141, O_141 P) :: (nat_lit 143, O_143 P) :: (nat_lit 144, O_144 P) :: (nat_lit 145, O_145 P) :: (nat_lit 148, O_148 P) :: (nat_lit 149, O_149 P) :: (nat_lit 150, O_150 P) :: (nat_lit 152, O_152 P) :: (nat_lit 153, O_153 P) :: (nat_lit 155, O_155 P) :: (nat_lit 156, O_156 P) :: (nat_lit 157, O_157 P) :: (nat_lit 159, O_159 P) :: (nat_lit 160, O_160 P) :: (nat_lit 162, O_162 P) :: (nat_lit 163, O_163 P) :: (nat_lit 164, O_164 P) :: (nat_lit 166, O_166 P) :: (nat_lit 167, O_167 P) :: (nat_lit 169, O_169 P) :: (nat_lit 170, O_170 P) :: (nat_lit 171, O_171 P) :: (nat_lit 173, O_173 P) :: (nat_lit 174, O_174 P) :: (nat_lit 176, O_176 P) :: (nat_lit 177, O_177 P) :: (nat_lit 178, O_178 P) :: (nat_lit 180, O_180 P) :: (nat_lit 181, O_181 P) :: (nat_lit 183, O_183 P) :: (nat_lit 184, O_184 P) :: (nat_lit 185, O_185 P) :: (nat_lit 188, O_188 P) :: (nat_lit 189, O_189 P) :: (nat_lit 190, O_190 P) :: (nat_lit 193, O_193 P) :: (nat_lit 194, O_194 P) :: (nat_lit 195, O_195 P) :: (nat_lit 198, O_198 P) :: (nat_lit 199, O_199 P) :: (nat_lit 200, O_200 P) :: (nat_lit 203, O_203 P) :: (nat_lit 204, O_204 P) :: []
noncomputable def KA : List Addr := [2, 3, 35, 36, 40, 41, 42, 44, 45, 47, 48, 49, 50, 52, 53, 55, 56, 57, 59, 60, 62, 63, 71, 75, 77, 78, 80, 81, 82, 121, 123, 124, 126, 127, 128, 131, 133, 134, 136, 137, 138, 140, 141, 143, 144, 145, 148, 149, 150, 152, 153, 155, 156, 157, 159, 160, 162, 163, 164, 166, 167, 169, 170, 171, 173, 174, 176, 177, 178, 180, 181, 183, 184, 185, 188, 189, 190, 193, 194, 195, 198, 199, 200, 203, 204]
noncomputable def qq : Program := view PW [78]
noncomputable def LOOSE : List Str := [Str.ofString "_sre", Str.ofString "_twin_re_1", Str.ofString "_twin_re_2", Str.ofString "CRLF", Str.ofString "quotedata", Str.ofString "COMPILER_FLAG_NAMES", Str.ofString "pretty_flags", Str.ofString "_parse_varint", Str.ofString "b1_set", Str.ofString "in_table_b1", Str.ofString "b3_exceptions", Str.ofString "map_table_b3", Str.ofString "ENDMARKER", Str.ofString "LPAR", Str.ofString "RPAR", Str.ofString "LSQB", Str.ofString "RSQB", Str.ofString "COLON", Str.ofString "COMMA", Str.ofString "SEMI", Str.ofString "PLUS", Str.ofString "MINUS", Str.ofString "STAR", Str.ofString "SLASH", Str.ofString "VBAR", Str.ofString "AMPER", Str.ofString "LESS", Str.ofString "GREATER", Str.ofString "EQUAL", Str.ofString "DOT", Str.ofString "PERCENT", Str.ofString "LBRACE", Str.ofString "RBRACE", Str.ofString "EQEQUAL", Str.ofString "NOTEQUAL", Str.ofString "LESSEQUAL", Str.ofString "GREATEREQUAL", Str.ofString "TILDE", Str.ofString "CIRCUMFLEX", Str.ofString "LEFTSHIFT", Str.ofString "RIGHTSHIFT", Str.ofString "DOUBLESTAR", Str.ofString "PLUSEQUAL", Str.ofString "MINEQUAL", Str.ofString "STAREQUAL", Str.ofString "SLASHEQUAL", Str.ofString "PERCENTEQUAL", Str.ofString "AMPEREQUAL", Str.ofString "VBAREQUAL", Str.ofString "CIRCUMFLEXEQUAL", Str.ofString "LEFTSHIFTEQUAL", Str.ofString "RIGHTSHIFTEQUAL", Str.ofString "DOUBLESTAREQUAL", Str.ofString "DOUBLESLASH", Str.ofString "DOUBLESLASHEQUAL", Str.ofString "AT", Str.ofString "ATEQUAL", Str.ofString "RARROW", Str.ofString "ELLIPSIS", Str.ofString "COLONEQUAL", Str.ofString "EXCLAMATION", Str.ofString "EXACT_TOKEN_TYPES", Str.ofString "ISEOF", Str.ofString "_law_cells", Str.ofString "_law_net", Str.ofString "_law_veil", Str.ofString "_law_stay", Str.ofString "_law_typed", Str.ofString "_law_flag_word", Str.ofString "_law_sent", Str.ofString "_law_letters", Str.ofString "_law_play", Str.ofString "_law_told"]
theorem cells_five {cm : Str → Option Value} {n₁ n₂ n₃ n₄ n₅ : Str} {c₁ c₂ c₃ c₄ c₅ : Addr} {cells : List (Addr × Obj)} (x : CellsAre cm [(n₁, c₁), (n₂, c₂), (n₃, c₃), (n₄, c₄), (n₅, c₅)] cells) :
    ∃ o₁ o₂ o₃ o₄ o₅, cells = [(c₁, o₁), (c₂, o₂), (c₃, o₃), (c₄, o₄), (c₅, o₅)] ∧ o₁.data = .cell (cm n₁) ∧ o₂.data = .cell (cm n₂) ∧ o₃.data = .cell (cm n₃) ∧ o₄.data = .cell (cm n₄) ∧ o₅.data = .cell (cm n₅) := by
  cases x with | cons h r => obtain ⟨o₂, o₃, o₄, o₅, rfl, h'⟩ := r.four; exact ⟨_, o₂, o₃, o₄, o₅, rfl, h, h'⟩
end
set_option linter.all false
example : (fun (_ : OpenLaw) (_ : Params → Frag) => True) PySem.Challenge.rw_uk0015_01 KK := by
  k_fill
  trivial
local macro_rules | `(tactic| walk_at $s:str) => `(tactic| k_extra $(Lean.Syntax.mkStrLit ("!" ++ s.getString)))
local macro_rules | `(tactic| k_ne) => `(tactic| k_extra "!MY NE")
local macro_rules | `(tactic| k_all) => `(tactic| k_extra "!MY ALL")
local macro_rules | `(tactic| omega) => `(tactic| ((fail_if_success with_reducible show False); lia))
local macro_rules | `(tactic| k_qdec) => `(tactic| decide +kernel)
theorem ZL.onL : True := trivial
theorem ZC.onC : True := trivial
theorem ZS1.onS1 : True := trivial
theorem ZS2m.onS2m : True := trivial
theorem ZS3.onS3 : True := trivial
theorem ZS4.onS4 : True := trivial
theorem ZS5.onS5 : True := trivial
theorem ZS5b.onS5b : True := trivial
theorem ZQuote.onQuote : True := trivial
theorem ZSent.onSent : True := trivial
theorem ZVarint.onVarint : True := trivial
theorem ZLett.onLett : True := trivial
theorem ZLetu.onLetu : True := trivial
theorem ZPre2.onPre2 : True := trivial
theorem ZTolda.onTolda : True := trivial
theorem ZToldc.onToldc : True := trivial
theorem ZToldb.onToldb : True := trivial
theorem ZTold.onTold : True := trivial
theorem ZElte.onElte : True := trivial
theorem ZPlayi.onPlayi : True := trivial
theorem ZPlayj.onPlayj : True := trivial
theorem ZPlayk.onPlayk : True := trivial
theorem ZPlayf.onPlayf : True := trivial
theorem ZTurnd.onTurnd : True := trivial
theorem ZTurn.onTurn : True := trivial
theorem ZTurn0.onTurn0 : True := trivial
theorem ZTurnb.onTurnb : True := trivial
theorem ZTurne.onTurne : True := trivial
theorem ZSpot.onSpot : True := trivial
theorem ZSpotl.onSpotl : True := trivial
theorem ZSpotf.onSpotf : True := trivial
theorem ZTurnc.onTurnc : True := trivial
theorem ZPlayfo.onPlayfo : True := trivial
theorem ZPlays.onPlays : True := trivial
theorem ZTypl.onTypl : True := trivial
theorem ZTypf.onTypf : True := trivial
theorem ZLaw3.onLaw3 : True := trivial
theorem ZLaw4.onLaw4 : True := trivial
theorem ZLaw5.onLaw5 : True := trivial
theorem ZLaw6.onLaw6 : True := trivial
theorem ZLaw7.onLaw7 : True := trivial
theorem ZLaw8.onLaw8 : True := trivial
example : True := by
  k_with "!PICK" => first | exact List.mem_of_getElem? (i := 0) rfl | exact List.mem_of_getElem? (i := 1) rfl | exact List.mem_of_getElem? (i := 2) rfl | exact List.mem_of_getElem? (i := 3) rfl | exact List.mem_of_getElem? (i := 4) rfl | exact List.mem_of_getElem? (i := 5) rfl | exact List.mem_of_getElem? (i := 6) rfl | exact List.mem_of_getElem? (i := 7) rfl | exact List.mem_of_getElem? (i := 8) rfl | exact List.mem_of_getElem? (i := 9) rfl | exact List.mem_of_getElem? (i := 10) rfl | exact List.mem_of_getElem? (i := 11) rfl | exact List.mem_of_getElem? (i := 12) rfl | exact List.mem_of_getElem? (i := 13) rfl | exact List.mem_of_getElem? (i := 14) rfl | exact List.mem_of_getElem? (i := 15) rfl | exact List.mem_of_getElem? (i := 16) rfl | exact List.mem_of_getElem? (i := 17) rfl | exact List.mem_of_getElem? (i := 18) rfl | exact List.mem_of_getElem? (i := 19) rfl | exact List.mem_of_getElem? (i := 20) rfl | exact List.mem_of_getElem? (i := 21) rfl | exact List.mem_of_getElem? (i := 22) rfl | exact List.mem_of_getElem? (i := 23) rfl
  k_with "!SUB" => first | exact fun _ h => absurd h List.not_mem_nil | (refine' sub_cons ?su1 ?su2; (case su1 => walk_at "PICK"); (case su2 => walk_at "SUB")) | exact sub_drop 0 rfl | exact sub_drop 1 rfl | exact sub_drop 2 rfl | exact sub_drop 3 rfl | exact sub_drop 4 rfl | exact sub_drop 5 rfl | exact sub_drop 6 rfl | exact sub_drop 7 rfl | exact sub_drop 8 rfl | exact sub_drop 9 rfl | exact sub_drop 10 rfl | exact sub_drop 11 rfl | exact sub_drop 12 rfl | exact sub_drop 13 rfl | exact sub_drop 14 rfl | exact sub_drop 15 rfl | exact sub_drop 16 rfl | exact sub_drop 17 rfl | exact sub_drop 18 rfl | exact sub_drop 19 rfl | exact sub_drop 20 rfl | exact sub_drop 21 rfl | exact sub_drop 22 rfl | exact sub_drop 23 rfl
  k_with "!ST" => (refine' Tag.get (p := _) ?mTag; rotate_left; refine' (?rTag : _ → @Tag2 _ ?oTag _) ?oTag trivial)
  k_with "!EN" => (intro _ hTag; (try delta id at hTag); exact hTag)
  k_with "!spliced" => dsimp only
  k_with "!eval Name" => dsimp only
  k_with "!eval Constant int" => dsimp only
  k_with "!storeName" => (k_here; k_dflt (refine' storeX_U ?FU ?NU ?_ ?aU ?bU; (case FU => k_asm); (case NU => k_asm); (case aU => rfl); (case bU => rfl); k_whole); intro h'u F'u N'u; (try k_sweep))
  k_with "!storeName" => dsimp only
  k_with "!execs cons" => first | ((with_reducible refine st_norm ?_); intro T'n; try dsimp only) | (with_reducible refine ec_last ?_) | ((with_reducible refine ec_abs ?_); intro Q'n; intro hQ'n)
  k_with "!Post" => ((first | with_reducible refine' post_next ?hpn ?_ | with_reducible refine' post_ret ?hpn ?_ | with_reducible refine' post_brk ?hpn ?_ | with_reducible refine' post_cont ?hpn ?_); (case hpn => assumption); try dsimp only)
  k_with "!MY ENTER" => (refine wpAny_call ?_; refine' code_def ?k1_1 ?k2_1 ?k3_1 ?k4_1 ?k5_1 ?kA_1 ?kF_1 ?kK_1 ?k6_1 ?k7_1 ?k8_1 ?k9_1 ?kB_1 ?_ ?c2_1 ?c3_1 ?c4_1 ?c5_1; (case kA_1 => exact rfl); (case kF_1 => assumption); (case kK_1 => assumption); (case k1_1 => k_asm); (case k2_1 => k_asm); (case k3_1 => k_asm); (case k4_1 => k_asm); (case k5_1 => k_asm); (case k6_1 => k_is); (case k7_1 => k_is); (case k8_1 => (show _ < recursionLimit; dsimp only; omega)); (case k9_1 => exact BindsTo.of_eq rfl); (case c5_1 => decide); (case kB_1 => exact locs rfl); (case c2_1 => exact rfl); (case c3_1 => exact rfl); (case c4_1 => exact rfl); k_whole; intro g''k L''k h''k FG''k F''k N''k B''k X''k T''k; (try dsimp only); (try k_lift B''k); (try (with_reducible refine st_gen ?_; intro T'g'k)); (try k_fold))
  k_with "!MY CELLS" => (rename CellsAre _ _ _ => hYc'k; first | (have hY'k := CellsAre.one hYc'k; obtain ⟨o''k, hE''k, d1''k⟩ := hY'k; subst hE''k; clear hYc'k) | (have hY'k := CellsAre.two hYc'k; obtain ⟨o''k, o2''k, hE''k, d1''k, d2''k⟩ := hY'k; subst hE''k; clear hYc'k) | (have hY'k := CellsAre.three hYc'k; obtain ⟨o''k, o2''k, o3''k, hE''k, d1''k, d2''k, d3''k⟩ := hY'k; subst hE''k; clear hYc'k) | (have hY'k := CellsAre.four hYc'k; obtain ⟨o''k, o2''k, o3''k, o4''k, hE''k, d1''k, d2''k, d3''k, d4''k⟩ := hY'k; subst hE''k; clear hYc'k) | (have hY'k := cells_five hYc'k; obtain ⟨o''k, o2''k, o3''k, o4''k, o5''k, hE''k, d1''k, d2''k, d3''k, d4''k, d5''k⟩ := hY'k; subst hE''k; clear hYc'k))
  k_with "!MY ENTERC" => (refine wpAny_call ?_; refine' code_defC ?k1_3 ?k2_3 ?k3_3 ?k4_3 ?k5_3 ?kA_3 ?kF_3 ?kK_3 ?k6_3 ?k7_3 ?k8_3 ?k9_3 ?kB_3 ?kD_3 ?_ ?c2_3 ?c3_3 ?c4_3; (case kA_3 => exact rfl); (case kF_3 => assumption); (case kK_3 => assumption); (case k1_3 => k_asm); (case k2_3 => k_asm); (case k3_3 => k_asm); (case k4_3 => k_asm); (case k5_3 => k_asm); (case k6_3 => k_is); (case k7_3 => k_is); (case k8_3 => (show _ < recursionLimit; dsimp only; omega)); (case k9_3 => exact BindsTo.of_eq rfl); (case kB_3 => exact rfl); (case kD_3 => decide +kernel); (case c2_3 => exact rfl); (case c3_3 => exact rfl); (case c4_3 => exact rfl); k_whole; intro g''k L''k h''k tk''k cells''k FG''k F''k N''k Y''k B''k X''k T''k l1'k; (try k_lt l1'k); walk_at "MY CELLS"; (try dsimp only [List.cons_append, List.nil_append] at N''k); (try dsimp only); (try k_lift B''k); (try (with_reducible refine st_gen ?_; intro T'g'k)); (try k_fold))
  k_with "!MY LEDGER" => first | k_asm | (refine' cb_drop ?cbN_4 ?cbS_4; (case cbN_4 => k_asm); (case cbS_4 => kcj_all))
  trivial
example : True := by
  k_with "!MY DEL" => (guard_expr onL =~ onL; first | (refine' DelF.head ?a_201; (case a_201 => k_all)) | (refine' DelF.tail ?a_201 ?b_201; (case a_201 => k_ne); (case b_201 => walk_at "MY DEL")))
  k_with "!LoopK" => (guard_expr onL =~ onL; (k_here; k_dflt (first | (refine' loop_itemW ?k1_202 ?k2_202 ?k3_202 ?k4_202 ?k5_202 ?k6_202 ?_; (case k4_202 => decide); (case k1_202 => k_asm); (case k2_202 => k_asm); (case k3_202 => k_updF); (case k5_202 => passes_own); (case k6_202 => exact fun _ => rfl); k_whole; intro h''k t''k tk''k W''k hW''k F''k N''k; (try dsimp only [Int.reduceAdd, Int.reduceSub] at hW''k N''k ⊢); (try dsimp only)) | (refine' loop_done ?k0_202 ?k1_202 ?k2_202 ?k3_202 ?k4_202 ?_; (case k4_202 => decide); (case k0_202 => exact rfl); (case k1_202 => k_asm); (case k2_202 => k_asm); (case k3_202 => walk_at "MY DEL"); k_whole; intro h''k F''k N''k; (try dsimp only)))))
  k_with "!PeelPost" => (guard_expr onL =~ onL; (dsimp only [PeelPost]))
  k_with "!MY ITER" => (guard_expr onL =~ onL; (k_here; k_dflt (refine' iter_range ?k1_204 ?k2_204 ?k3_204 ?k4_204 ?k5_204 ?k6_204 ?_; (case k1_204 => k_asm); (case k2_204 => k_asm); (case k3_204 => first | assumption | (exact News.get (by k_asm) (by k_mem))); (case k4_204 => exact rfl); (case k5_204 => decide +kernel); (case k6_204 => first | decide | omega); k_whole; intro I''k h''k F''k N''k l1'k; (try k_lt l1'k); (try dsimp only [Int.reduceAdd, Int.reduceSub] at hW' N''k ⊢); (try dsimp only))))
  k_with "!MY ALL" => (guard_expr onL =~ onL; (refine' all_ne ?h_205 ?e_205; (case h_205 => assumption); (case e_205 => omega)))
  trivial
example : True := by
  k_with "!eval ListComp" => (guard_expr onC =~ onC; (k_here; k_dflt (refine' comp_go ?k1_206 ?k2_206 ?k3_206 ?k4_206 ?k5_206 ?_ ?k7_206; (case k1_206 => exact rfl); (case k2_206 => decide); (case k3_206 => exact rfl); (case k4_206 => decide); (case k5_206 => exact rfl); (case k7_206 => exact fun _ => rfl))))
  k_with "!exec Assign cons ListComp" => (guard_expr onC =~ onC; (k_here; first | k_dflt (refine' comp_go_assign ?k0_207 ?k1_207 ?k2_207 ?k3_207 ?k4_207 ?k5_207 ?k6_207 ?k8_207 ?_ ?k7_207; (case k0_207 => exact rfl); (case k1_207 => exact rfl); (case k2_207 => decide); (case k3_207 => exact rfl); (case k4_207 => decide); (case k5_207 => exact rfl); (case k6_207 => exact rfl); (case k8_207 => exact rfl); (case k7_207 => exact fun _ => rfl)) | (with_reducible refine plainObj_wpAny_Assign_Name ?_)))
  trivial
section
noncomputable abbrev AT (dp un : Nat) (gd : Option (List Code)) (env0 : Env) (outer : List Env) : Around := { handled := none, depth := dp, frames := some (env0 :: outer), guards := gd, units := un }
noncomputable abbrev Call1 (w : World) (f : Addr) (vs : List Value) (news : List (Addr × Obj)) (R : Value → List (Addr × Obj) → Prop) : Prop :=
  ∀ (mean : ExcName → Option Value) (mg mb : Str → Option Value) (dp un : Nat) (gd : Option (List Code)) (env0 : Env) (outer : List Env) (A₀ : Around) (base h₀ : Heap) (L : Addr) (m : Str → Option Value) (s : Shared) (Q E : Value → Shared → Prop),
    Below A₀ base outer h₀ → Fr h₀ L s.heap m → (KK w.params).In h₀ → News h₀ L s.heap news → Top qq LOOSE mean mg mb h₀ → env0.frame = some L → env0.scope.kind = .function →
    dp + 10 < recursionLimit → un + 60 < cLine →
    (∀ (v : Value) (h' : Heap) (tk' : Nat) (news' : List (Addr × Obj)), R v news' → Fr h₀ L h' m → News h₀ L h' news' → Q v { s with heap := h', toks := tk' }) →
    wpAny (model PW w) (AT dp un gd env0 outer) (call (.ref f) vs) Q E s
theorem getD_in (l : List Int) (h : (l.all fun x => decide (0 ≤ x ∧ x ≤ 1114111)) = true) (n : Nat) : 0 ≤ l.getD n 0 ∧ l.getD n 0 ≤ 1114111 := by
  by_cases hn : n < l.length
  · have : l.getD n 0 = l[n] := by simp [List.getD, hn]
    rw [this]
    exact of_decide_eq_true (List.all_eq_true.mp h _ (List.getElem_mem hn))
  · have : l.getD n 0 = 0 := by simp [List.getD, hn]
    rw [this]; omega
noncomputable def besideL : List Int := [172, 174, 846, 848, 6149, 6151, 6154, 6158, 8202, 8206, 8287, 8289, 65278, 65280, 65023, 65040]
noncomputable def loneL : List Int := [173, 847, 6150, 6155, 6156, 6157, 8203, 8204, 8205, 8288, 65279]
noncomputable def stayC (i : Int) : Nat := (besideL.getD (i.fmod 16).toNat 0).toNat
noncomputable def veilC (i : Int) : Nat := if i.fmod 27 < 11 then (loneL.getD (i.fmod 27).toNat 0).toNat else (65013 + i.fmod 27).toNat
theorem st_norm {w : World} {α : Type} {A : Around} {x : Sem α} {Q : α → Shared → Prop} {E : Value → Shared → Prop} {h : Heap} {g d t o} (H : ∀ T, wpAny (model PW w) A x Q E ⟨h, g, d, T, o⟩) : wpAny (model PW w) A x Q E ⟨h, g, d, t + 1, o⟩ := H _
theorem st_gen {w : World} {α : Type} {A : Around} {x : Sem α} {Q : α → Shared → Prop} {E : Value → Shared → Prop} {h : Heap} {g d t o} (H : ∀ T, wpAny (model PW w) A x Q E ⟨h, g, d, T, o⟩) : wpAny (model PW w) A x Q E ⟨h, g, d, t, o⟩ := H _
theorem sub_cons {α : Type} {a : α} {l B : List α} (h1 : a ∈ B) (h2 : ∀ q ∈ l, q ∈ B) : ∀ q ∈ a :: l, q ∈ B := List.forall_mem_cons.mpr ⟨h1, h2⟩
theorem sub_drop {α : Type} {l B : List α} (i : Nat) (e : B.drop i = l) : ∀ q ∈ l, q ∈ B := fun _ h => List.mem_of_mem_drop (e ▸ h)
noncomputable def Tag {T : Prop} (_ : T) : Prop := True
theorem Tag.get {T : Prop} {p : T} (_ : Tag p) : T := p
noncomputable abbrev Tag2 (T : Prop) (p q : T) : Prop := Tag p → Tag q
noncomputable abbrev upd (m : Str → Option Value) (x : Str) (v : Value) : Str → Option Value := fun y => if y = x then some v else m y
theorem upd_no {m : Str → Option Value} {x y : Str} {v : Value} (h : ¬ y = x) (k : m y = none) : upd m x v y = none := by simp only [upd, h, k, if_false]
theorem storeX_U {M : Model} {A : Around} {E : Value → Shared → Prop} {s : Shared} {h₀ : Heap} {L a : Addr} {m : Str → Option Value} {cn : Str} {cs : Scope} {ccd : Value} {cl : List (Str × Addr)} {x : Str} {v : Value} {Q : Unit → Shared → Prop} {news : List (Addr × Obj)}
    (F : Fr h₀ L s.heap m) (N : News h₀ L s.heap news) (h : ∀ h', Fr h₀ L h' (upd m x v) → News h₀ L h' news → Q () { s with heap := h', toks := s.toks + 1 })
    (hk : cs.kind = .function := by rfl) (hx : (envX cn cs L a ccd cl).kindOf x = some .local := by rfl) : wpAny M A (storeName (envX cn cs L a ccd cl) x v) Q E s := storeX_L F N h hk hx
noncomputable def Post (Q : Flow → Shared → Prop) : Flow → Shared → Prop := Q
noncomputable def Behind (w : World) (A : Around) (env : Env) (rest : List Stmt) (Q : Flow → Shared → Prop) (E : Value → Shared → Prop) (R : Flow → Shared → Prop) : Prop :=
  ∀ f s, (match f with | .next => wpAny (model PW w) A (execs rest env) Q E s | f => Q f s) → R f s
theorem ec_abs {w : World} {A : Around} {E : Value → Shared → Prop} {s : Shared} {env : Env} {st : Stmt} {rest : List Stmt} {Q : Flow → Shared → Prop}
    (H : ∀ R, Behind w A env rest Q E R → wpAny (model PW w) A (exec st env) (Post R) E s) : wpAny (model PW w) A (execs (st :: rest) env) Q E s :=
  wpAny_execs_cons (H _ fun _ _ h => h)
theorem ec_last {w : World} {A : Around} {E : Value → Shared → Prop} {s : Shared} {env : Env} {st : Stmt} {R : Flow → Shared → Prop}
    (H : wpAny (model PW w) A (exec st env) (Post R) E s) : wpAny (model PW w) A (execs [st] env) (Post R) E s :=
  wpAny_execs_cons (wpAny_mono H (fun f s h => by cases f <;> first | exact wpAny_execs_nil h | exact h) (fun _ _ h => h))
theorem post_next {w : World} {A : Around} {E : Value → Shared → Prop} {s : Shared} {env : Env} {rest : List Stmt} {Q R : Flow → Shared → Prop} (b : Behind w A env rest Q E R) (h : wpAny (model PW w) A (execs rest env) Q E s) : Post R .next s := b _ _ h
theorem post_ret {w : World} {A : Around} {E : Value → Shared → Prop} {s : Shared} {env : Env} {rest : List Stmt} {Q R : Flow → Shared → Prop} {v : Value} (b : Behind w A env rest Q E R) (h : Q (.ret v) s) : Post R (.ret v) s := b _ _ h
theorem post_brk {w : World} {A : Around} {E : Value → Shared → Prop} {s : Shared} {env : Env} {rest : List Stmt} {Q R : Flow → Shared → Prop} (b : Behind w A env rest Q E R) (h : Q .brk s) : Post R .brk s := b _ _ h
theorem post_cont {w : World} {A : Around} {E : Value → Shared → Prop} {s : Shared} {env : Env} {rest : List Stmt} {Q R : Flow → Shared → Prop} (b : Behind w A env rest Q E R) (h : Q .cont s) : Post R .cont s := b _ _ h
end
section
open PySem.Sre in
theorem runFor_done {m : M} (h : m.outcome.isSome = true) : ∀ n, M.runFor n m = m
  | 0 => rfl
  | n + 1 => by unfold M.runFor; rw [if_pos h]
open PySem.Sre in
theorem runFor_succ (n : Nat) (m : M) : M.runFor (n + 1) m = if m.outcome.isSome = true then m else M.runFor n m.step := rfl
open PySem.Sre in
theorem runFor_add (a b : Nat) (m : M) : M.runFor (a + b) m = M.runFor b (M.runFor a m) := by
  induction a generalizing m with
  | zero => rw [Nat.zero_add]; rfl
  | succ a ih =>
    rw [show a + 1 + b = (a + b) + 1 by omega, runFor_succ, runFor_succ]
    by_cases h : m.outcome.isSome = true
    · rw [if_pos h, if_pos h, runFor_done h]
    · rw [if_neg h, if_neg h, ih]
open PySem.Sre PySem.Builtin.Re in
theorem drive_ok {M₀ : Model} {A : Around} {E : Value → Shared → Prop} {s : Shared} {Q : M → Shared → Prop} : ∀ (n K : Nat) (m : M), (M.runFor K m).outcome.isSome = true → K ≤ 4 * n → 1 ≤ n → Q (M.runFor K m) s → wpAny M₀ A (reDrive n m) Q E s
  | 0, _, _, _, _, h, _ => absurd h (by decide)
  | n + 1, K, m, ho, hk, _, hQ => by
    show wpAny M₀ A (if (M.runFor 4 m).outcome.isSome = true then pure (M.runFor 4 m) else do rule "sre.turn"; reDrive n (M.runFor 4 m)) Q E s
    by_cases h4 : K ≤ 4
    · have e : M.runFor 4 m = M.runFor K m := by
        rw [show 4 = K + (4 - K) by omega, runFor_add, runFor_done ho]
      rw [if_pos (e ▸ ho)]
      exact wpAny_pure (e ▸ hQ)
    · have e : M.runFor K m = M.runFor (K - 4) (M.runFor 4 m) := by rw [← runFor_add]; congr 1; omega
      by_cases h1 : (M.runFor 4 m).outcome.isSome = true
      · rw [if_pos h1]
        rw [e, runFor_done h1] at hQ
        exact wpAny_pure hQ
      · rw [if_neg h1]
        refine wpAny_bind (wpAny_rule ?_)
        rw [e] at ho hQ
        exact drive_ok n (K - 4) _ ho (by omega) (by omega) hQ
open PySem.Sre in
theorem go_step {m m' : M} {k : Nat} {P : M → Prop} (h : m.outcome = none) (e : m.step = m') (hP : P (M.runFor k m')) : P (M.runFor (k + 1) m) := by
  rw [runFor_succ, h, e]
  exact hP
open PySem.Sre in
noncomputable def SM (code text : Array Nat) (lim start lastStart : Nat) (must : Bool) (pc pos handed : Nat) (outermost : Bool) (frames : List Sre.Frame) (weight : Nat) (answer : Option Bool) (seen : Sre.Seen) (outcome : Option Sre.Outcome) : M :=
  { code, text, lim, start, lastStart, mustAdvance := must, pc, pos, handed, outermost, marks := #[], frames, weight, answer, seen, outcome }
section
open PySem.Sre
variable {code text : Array Nat} {lim start lastStart : Nat} {must : Bool} {pc pos handed : Nat} {outermost : Bool} {frames : List Sre.Frame} {weight : Nat} {seen : Sre.Seen} {c : Nat}
theorem sm_lit (hz : pc < code.size) (h : code.getD pc 0 = 16) (hp : pos < lim) (ht : text.getD pos 0 = code.getD (pc + 1) 0) :
    ∃ sn, (SM code text lim start lastStart must pc pos handed outermost frames weight none seen none).step = SM code text lim start lastStart must (pc + 2) (pos + 1) handed outermost frames weight none sn none := by
 walk_at "ST"
 case oTag =>
  refine ⟨seen.add 16, ?_⟩
  have e : ops[16]? = some .LITERAL := rfl
  simp only [SM, M.step, M.exec, M.word, Nat.add_zero, Option.isSome_none, Bool.false_eq_true, if_false, hz, if_true, e, Nat.not_le.mpr hp, ge_iff_le, accepts, ht, itemWidth, beq_self_eq_true, h]
 walk_at "EN"
theorem sm_lit_no (hz : pc < code.size) (h : code.getD pc 0 = 16) (hp : lim ≤ pos ∨ ¬ text.getD pos 0 = code.getD (pc + 1) 0) :
    ∃ sn, (SM code text lim start lastStart must pc pos handed outermost frames weight none seen none).step = SM code text lim start lastStart must pc pos handed outermost frames weight (some false) sn none := by
 walk_at "ST"
 case oTag =>
  refine ⟨seen.add 16, ?_⟩
  have e : ops[16]? = some .LITERAL := rfl
  by_cases h1 : lim ≤ pos
  · simp only [SM, M.step, M.exec, M.word, Nat.add_zero, Option.isSome_none, Bool.false_eq_true, if_false, hz, if_true, e, ge_iff_le, h1, h, M.say]
  · have h2 : (text.getD pos 0 == code.getD (pc + 1) 0) = false := by
      rcases hp with hp | hp
      · exact absurd hp h1
      · simpa using hp
    simp only [SM, M.step, M.exec, M.word, Nat.add_zero, Option.isSome_none, Bool.false_eq_true, if_false, hz, if_true, e, ge_iff_le, h1, accepts, h2, h, M.say]
 walk_at "EN"
theorem sm_jump (hz : pc < code.size) (h : code.getD pc 0 = 15) :
    ∃ sn, (SM code text lim start lastStart must pc pos handed outermost frames weight none seen none).step = SM code text lim start lastStart must (pc + 1 + code.getD (pc + 1) 0) pos handed outermost frames weight none sn none := by
 walk_at "ST"
 case oTag =>
  refine ⟨seen.add 15, ?_⟩
  have e : ops[15]? = some .JUMP := rfl
  simp only [SM, M.step, M.exec, M.word, Nat.add_zero, Option.isSome_none, Bool.false_eq_true, if_false, hz, if_true, e, h]
 walk_at "EN"
theorem sm_success (hz : pc < code.size) (h : code.getD pc 0 = 1) (hm : must = false) :
    ∃ sn, (SM code text lim start lastStart must pc pos handed outermost frames weight none seen none).step = SM code text lim start lastStart must pc pos pos outermost frames weight (some true) sn none := by
 walk_at "ST"
 case oTag =>
  refine ⟨seen.add 1, ?_⟩
  have e : ops[1]? = some .SUCCESS := rfl
  subst hm
  simp [SM, M.step, M.exec, M.word, hz, e, h, M.say]
 walk_at "EN"
theorem isAt_1 (m : M) : m.isAt 1 = .ok (m.pos == 0 || m.text.getD (m.pos - 1) 0 == 10) := rfl
theorem sm_at1 (hz : pc < code.size) (h : code.getD pc 0 = 6) (h1 : code.getD (pc + 1) 0 = 1) (hb : pos = 0 ∨ text.getD (pos - 1) 0 = 10) :
    ∃ sn, (SM code text lim start lastStart must pc pos handed outermost frames weight none seen none).step = SM code text lim start lastStart must (pc + 2) pos handed outermost frames weight none sn none := by
 walk_at "ST"
 case oTag =>
  refine ⟨(seen.add 6).add 44, ?_⟩
  have e : ops[6]? = some .AT := rfl
  have hb' : (pos == 0 || text.getD (pos - 1) 0 == 10) = true := by simpa using hb
  simp only [SM, M.step, M.exec, M.word, Nat.add_zero, Option.isSome_none, Bool.false_eq_true, if_false, hz, if_true, e, h, h1, isAt_1, hb']
 walk_at "EN"
theorem sm_at1_no (hz : pc < code.size) (h : code.getD pc 0 = 6) (h1 : code.getD (pc + 1) 0 = 1) (hb : ¬ (pos = 0 ∨ text.getD (pos - 1) 0 = 10)) :
    ∃ sn, (SM code text lim start lastStart must pc pos handed outermost frames weight none seen none).step = SM code text lim start lastStart must pc pos handed outermost frames weight (some false) sn none := by
 walk_at "ST"
 case oTag =>
  refine ⟨(seen.add 6).add 44, ?_⟩
  have e : ops[6]? = some .AT := rfl
  have hb' : (pos == 0 || text.getD (pos - 1) 0 == 10) = false := by
    rw [Bool.eq_false_iff]; simpa using hb
  simp only [SM, M.step, M.exec, M.word, Nat.add_zero, Option.isSome_none, Bool.false_eq_true, if_false, hz, if_true, e, h, h1, isAt_1, hb', M.say]
 walk_at "EN"
noncomputable def keptN : Sre.Kept := { lastmark := -1, lastindex := -1, whole := false, marks := #[] }
theorem sm_branch (hz : pc < code.size) (h : code.getD pc 0 = 7) (h1 : ¬ code.getD (pc + 1) 0 = 0) (hw : weight + 1 ≤ 16777216) :
    ∃ sn, (SM code text lim start lastStart must pc pos handed outermost frames weight none seen none).step = SM code text lim start lastStart must (pc + 2) pos pos outermost ({ wait := .nextBranch, pc := pc + 1, pos, outermost, kept := keptN } :: frames) (weight + 1) none sn none := by
 walk_at "ST"
 case oTag =>
  refine ⟨seen.add 7, ?_⟩
  have e : ops[7]? = some .BRANCH := rfl
  have h1' : (code.getD (pc + 1) 0 == 0) = false := by simpa using h1
  have hw' : ¬ weight + 1 + (#[] : Array (Option Nat)).size > 16777216 := by simp; omega
  simp only [SM, M.step, M.exec, M.word, Nat.add_zero, Option.isSome_none, Bool.false_eq_true, if_false, hz, if_true, e, h, M.alternative, h1', M.keep, M.attempt, hw', M.frame, keptN]
  rfl
 walk_at "EN"
theorem sm_assertNot (hz : pc < code.size) (h : code.getD pc 0 = 5) (h2 : code.getD (pc + 2) 0 = 0) (hw : weight + 1 ≤ 16777216) :
    ∃ sn, (SM code text lim start lastStart must pc pos handed outermost frames weight none seen none).step = SM code text lim start lastStart must (pc + 3) pos pos false ({ wait := .lookNot, pc := pc, pos, outermost, kept := keptN } :: frames) (weight + 1) none sn none := by
 walk_at "ST"
 case oTag =>
  refine ⟨seen.add 5, ?_⟩
  have e : ops[5]? = some .ASSERT_NOT := rfl
  have hw' : ¬ weight + 1 + (#[] : Array (Option Nat)).size > 16777216 := by simp; omega
  simp only [SM, M.step, M.exec, M.word, Nat.add_zero, Option.isSome_none, Bool.false_eq_true, if_false, hz, if_true, e, h, h2, Nat.not_lt_zero, M.keep, Bool.true_and, M.attempt, hw', M.frame, Nat.sub_zero, keptN]
  rfl
 walk_at "EN"
variable {p q : Nat} {o : Bool} {pc' pos' : Nat} {o' : Bool}
theorem sm_branch_yes :
    (SM code text lim start lastStart must pc' pos' handed o' ({ wait := .nextBranch, pc := p, pos := q, outermost := o, kept := keptN } :: frames) (weight + 1) (some true) seen none).step = SM code text lim start lastStart must p q handed o frames weight (some true) seen none := by
  simp only [SM, M.step, Option.isSome_none, Bool.false_eq_true, if_false, M.resume, M.putBack, keptN, M.say, if_true]
  rfl
theorem sm_branch_no (h : ¬ code.getD (p + code.getD p 0) 0 = 0) (hw : weight + 1 ≤ 16777216) :
    (SM code text lim start lastStart must pc' pos' handed o' ({ wait := .nextBranch, pc := p, pos := q, outermost := o, kept := keptN } :: frames) (weight + 1) (some false) seen none).step =
      SM code text lim start lastStart must (p + code.getD p 0 + 1) q q o ({ wait := .nextBranch, pc := p + code.getD p 0, pos := q, outermost := o, kept := keptN } :: frames) (weight + 1) none seen none := by
 walk_at "ST"
 case oTag =>
  have h1 : (code.getD (p + code.getD p 0) 0 == 0) = false := by simpa using h
  have hw' : ¬ weight + 1 - (1 + 0) + 1 + (#[] : Array (Option Nat)).size > 16777216 := by simp; omega
  have hw2 : ¬ weight + 1 - (1 + 0) + 1 + 0 > 16777216 := by omega
  have hq : weight + 1 - (1 + 0) + 1 + 0 = weight + 1 := by omega
  simp only [SM, M.step, Option.isSome_none, Bool.false_eq_true, if_false, M.resume, M.putBack, keptN, M.alternative, h1, M.attempt, List.size_toArray, List.length_nil, M.frame]
  rw [if_neg (by omega), hq]
 walk_at "EN"
theorem sm_lookNot_no :
    (SM code text lim start lastStart must pc' pos' handed o' ({ wait := .lookNot, pc := p, pos := q, outermost := o, kept := keptN } :: frames) (weight + 1) (some false) seen none).step = SM code text lim start lastStart must (p + 1 + code.getD (p + 1) 0) q handed o frames weight none seen none := by
 walk_at "ST"
 case oTag =>
  simp only [SM, M.step, Option.isSome_none, Bool.false_eq_true, if_false, M.resume, M.putBack, keptN, M.word]
  rfl
 walk_at "EN"
theorem sm_start_yes :
    (SM code text lim start lastStart must pc' pos' handed o' [{ wait := .nextStart, pc := p, pos := q, outermost := o }] (weight + 1) (some true) seen none).step = SM code text lim start lastStart must p q handed o [] weight (some true) seen none := by
  simp only [SM, M.step, Option.isSome_none, Bool.false_eq_true, if_false, M.resume, if_true, M.say]
  rfl
theorem sm_start_no (h : q < lastStart) (hs : (SM code text lim start lastStart must p q handed o [] weight none seen none).hasFirstSet = false) (hw : weight + 1 ≤ 16777216) :
    (SM code text lim start lastStart must pc' pos' handed o' [{ wait := .nextStart, pc := p, pos := q, outermost := o }] (weight + 1) (some false) seen none).step =
      SM code text lim (q + 1) lastStart false p (q + 1) (q + 1) false [{ wait := .nextStart, pc := p, pos := q + 1, outermost := false }] (weight + 1) none seen none := by
 walk_at "ST"
 case oTag =>
  have hs' : ({ (SM code text lim start lastStart must p q handed o [] weight none seen none) with mustAdvance := false } : M).hasFirstSet = false := hs
  simp only [SM] at hs'
  have hw2 : ¬ weight + 1 - (1 + 0) + 1 + 0 > 16777216 := by omega
  have hq : weight + 1 - (1 + 0) + 1 + 0 = weight + 1 := by omega
  have hq2 : weight + 1 - (1 + 0) = weight := by omega
  simp only [SM, M.step, Option.isSome_none, Bool.false_eq_true, if_false, M.resume, h, if_true, M.attemptFrom, hq2, hs', Bool.not_false, M.attemptAt, M.attempt, List.size_toArray, List.length_nil]
  rw [if_neg (by omega)]
 walk_at "EN"
theorem sm_start_over (h : ¬ q < lastStart) :
    (SM code text lim start lastStart must pc' pos' handed o' [{ wait := .nextStart, pc := p, pos := q, outermost := o }] (weight + 1) (some false) seen none).step = SM code text lim start lastStart must p q handed o [] weight (some false) seen none := by
  simp only [SM, M.step, Option.isSome_none, Bool.false_eq_true, if_false, M.resume, h, M.say]
  rfl
theorem sm_end (b : Bool) :
    (SM code text lim start lastStart must pc pos handed outermost [] weight (some b) seen none).step = SM code text lim start lastStart must pc pos handed outermost [] weight (some b) seen (some (if b then .matched else .failed)) := by
  simp only [SM, M.step, Option.isSome_none, Bool.false_eq_true, if_false]
end
section
open PySem.Sre
noncomputable def code1 : Array Nat := #[14, 4, 0, 1, 1, 6, 1, 16, 46, 1]
noncomputable def code2 : Array Nat := #[14, 9, 4, 1, 2, 16, 10, 16, 13, 0, 7, 7, 16, 13, 16, 10, 15, 18, 5, 16, 10, 15, 13, 11, 16, 13, 5, 5, 0, 16, 10, 1, 15, 2, 0, 1]
variable {text : Array Nat} {lim start lastStart handed : Nat} {seen : Sre.Seen}
noncomputable def dotAt (text : Array Nat) (s : Nat) : Bool := decide (s < text.size) && text.getD s 0 == 46 && (s == 0 || text.getD (s - 1) 0 == 10)
noncomputable def findDot (text : Array Nat) : Nat → Nat → Option Nat
  | 0, _ => none
  | n + 1, s => if dotAt text s then some s else findDot text n (s + 1)
noncomputable def Ans (len : Nat → Nat) (r : Option Nat) (m : M) : Prop := match r with
  | some t => m.outcome = some .matched ∧ m.start = t ∧ m.handed = t + len t
  | none => m.outcome = some .failed
theorem ans_isSome {len : Nat → Nat} {r : Option Nat} {m : M} (h : Ans len r m) : m.outcome.isSome = true := by
  cases r with
  | none => rw [show m.outcome = _ from h]; rfl
  | some t => rw [show m.outcome = _ from h.1]; rfl
theorem code1_yes {s : Nat} {o : Bool} {seen : Sre.Seen} (h : dotAt text s = true) :
    Ans (fun _ => 1) (some s) (M.runFor 5 (SM code1 text text.size s text.size false 5 s s o [{ wait := .nextStart, pc := 5, pos := s, outermost := o }] 1 none seen none)) := by
 walk_at "ST"
 case oTag =>
  simp only [dotAt, Bool.and_eq_true, decide_eq_true_eq, beq_iff_eq, Bool.or_eq_true] at h
  have z (k : Nat) (h : k < 10) : k < code1.size := h
  obtain ⟨sn, e1⟩ := sm_at1 (code := code1) (text := text) (lim := text.size) (start := s) (lastStart := text.size) (must := false) (handed := s) (outermost := o) (frames := [{ wait := .nextStart, pc := 5, pos := s, outermost := o }]) (weight := 1) (seen := seen) (z 5 (by decide)) rfl rfl h.2
  refine go_step rfl e1 ?_
  obtain ⟨sn2, e2⟩ := sm_lit (code := code1) (text := text) (lim := text.size) (start := s) (lastStart := text.size) (must := false) (handed := s) (outermost := o) (frames := [{ wait := .nextStart, pc := 5, pos := s, outermost := o }]) (weight := 1) (seen := sn) (z 7 (by decide)) rfl h.1.1 h.1.2
  refine go_step rfl e2 ?_
  obtain ⟨sn3, e3⟩ := sm_success (code := code1) (text := text) (lim := text.size) (start := s) (lastStart := text.size) (must := false) (pos := s + 1) (handed := s) (outermost := o) (frames := [{ wait := .nextStart, pc := 5, pos := s, outermost := o }]) (weight := 1) (seen := sn2) (z 9 (by decide)) rfl rfl
  exact go_step rfl e3 (go_step rfl sm_start_yes (go_step rfl (sm_end true) ⟨rfl, rfl, rfl⟩))
 walk_at "EN"
theorem code1_no {s : Nat} {o : Bool} {seen : Sre.Seen} (h : dotAt text s = false) {P : M → Prop} {k : Nat}
    (hP : ∀ pc' pos' sn, P (M.runFor k (SM code1 text text.size s text.size false pc' pos' s o [{ wait := .nextStart, pc := 5, pos := s, outermost := o }] 1 (some false) sn none))) :
    ∃ k', k' ≤ k + 2 ∧ P (M.runFor k' (SM code1 text text.size s text.size false 5 s s o [{ wait := .nextStart, pc := 5, pos := s, outermost := o }] 1 none seen none)) := by
 walk_at "ST"
 case oTag =>
  have z (k : Nat) (h : k < 10) : k < code1.size := h
  by_cases hb : s = 0 ∨ text.getD (s - 1) 0 = 10
  · obtain ⟨sn, e1⟩ := sm_at1 (code := code1) (text := text) (lim := text.size) (start := s) (lastStart := text.size) (must := false) (handed := s) (outermost := o) (frames := [{ wait := .nextStart, pc := 5, pos := s, outermost := o }]) (weight := 1) (seen := seen) (z 5 (by decide)) rfl rfl hb
    obtain ⟨sn2, e2⟩ := sm_lit_no (code := code1) (text := text) (lim := text.size) (start := s) (lastStart := text.size) (must := false) (handed := s) (outermost := o) (frames := [{ wait := .nextStart, pc := 5, pos := s, outermost := o }]) (weight := 1) (seen := sn) (pos := s) (pc := 7) (z 7 (by decide)) rfl
      (by by_cases h1 : s < text.size
          · refine .inr fun h2 => ?_
            have : dotAt text s = true := by
              simp only [dotAt, Bool.and_eq_true, decide_eq_true_eq, beq_iff_eq, Bool.or_eq_true]
              exact ⟨⟨h1, h2⟩, hb⟩
            rw [h] at this; cases this
          · exact .inl (by omega))
    exact ⟨k + 1 + 1, by omega, go_step rfl e1 (go_step rfl e2 (hP _ _ _))⟩
  · obtain ⟨sn, e1⟩ := sm_at1_no (code := code1) (text := text) (lim := text.size) (start := s) (lastStart := text.size) (must := false) (handed := s) (outermost := o) (frames := [{ wait := .nextStart, pc := 5, pos := s, outermost := o }]) (weight := 1) (seen := seen) (z 5 (by decide)) rfl rfl hb
    exact ⟨k + 1, by omega, go_step rfl e1 (hP _ _ _)⟩
 walk_at "EN"
theorem dot_last {s : Nat} (h : text.size ≤ s) : dotAt text s = false := by
  simp [dotAt, Nat.not_lt.mpr h]
theorem ans_le {len : Nat → Nat} {r : Option Nat} {m : M} {K B : Nat} (hK : K ≤ B) (h : Ans len r (M.runFor K m)) : Ans len r (M.runFor B m) := by
  have : M.runFor B m = M.runFor K m := by
    rw [show B = K + (B - K) by omega, runFor_add, runFor_done (ans_isSome h)]
  rw [this]; exact h
theorem code1_from : ∀ (d s : Nat) (o : Bool) (seen : Sre.Seen), s + d = text.size →
    Ans (fun _ => 1) (findDot text (d + 1) s) (M.runFor (5 * (d + 1)) (SM code1 text text.size s text.size false 5 s s o [{ wait := .nextStart, pc := 5, pos := s, outermost := o }] 1 none seen none))
  | 0, s, o, seen, hd => by
    have hdot : dotAt text s = false := dot_last (by omega)
    have ef : findDot text (0 + 1) s = none := by show (if _ then _ else _) = _; rw [hdot]; rfl
    rw [ef]
    obtain ⟨k', h1, h2⟩ := code1_no (seen := seen) (o := o) (P := Ans (fun _ => 1) none) (k := 2) hdot fun pc' pos' sn => go_step rfl (sm_start_over (by omega)) (go_step rfl (sm_end false) rfl)
    exact ans_le (by omega) h2
  | d + 1, s, o, seen, hd => by
    cases hdot : dotAt text s with
    | true =>
      have ef : findDot text (d + 1 + 1) s = some s := by show (if _ then _ else _) = _; rw [hdot]; rfl
      rw [ef]
      exact ans_le (by omega) (code1_yes hdot)
    | false =>
      have ef : findDot text (d + 1 + 1) s = findDot text (d + 1) (s + 1) := by show (if _ then _ else _) = _; rw [hdot]; rfl
      rw [ef]
      obtain ⟨k', h1, h2⟩ := code1_no (seen := seen) (o := o) (P := Ans (fun _ => 1) (findDot text (d + 1) (s + 1))) (k := 5 * (d + 1) + 1) hdot fun pc' pos' sn =>
        go_step rfl (sm_start_no (by omega) rfl (by decide)) (code1_from d (s + 1) false sn (by omega))
      exact ans_le (by omega) h2
theorem code1_search {s : Nat} (h : s ≤ text.size) : Ans (fun _ => 1) (findDot text (text.size - s + 1) s) (M.runFor (5 * (text.size - s + 1) + 1) (forSearch code1 text 0 s text.size false)) := by
 walk_at "ST"
 case oTag =>
  by_cases h1 : text.size - s < 1
  · have hs : dotAt text s = false := dot_last (by omega)
    have ef : findDot text (text.size - s + 1) s = none := by
      rw [show text.size - s = 0 by omega]; show (if _ then _ else _) = _; rw [hs]; rfl
    rw [ef]
    refine ans_le (K := 1) (by omega) ?_
    unfold forSearch
    rw [if_pos (by simp [code1, header, ops]; omega)]
    exact go_step rfl (sm_end false) rfl
  · have e : forSearch code1 text 0 s text.size false = SM code1 text text.size s text.size false 5 s s true [{ wait := .nextStart, pc := 5, pos := s, outermost := true }] 1 none (({} : Sre.Seen).add 14) none := by
      unfold forSearch
      rw [if_neg (by simp [code1, header, ops]; omega)]
      rfl
    rw [e]
    exact ans_le (by omega) (code1_from (text.size - s) s true _ (by omega))
 walk_at "EN"
end
end
section
section
open PySem.Sre
variable {text : Array Nat} {lim start lastStart handed : Nat} {seen : Sre.Seen}
noncomputable def nlAt (text : Array Nat) (s : Nat) : Bool := text.getD s 0 == 10 || text.getD s 0 == 13
noncomputable def findNl (text : Array Nat) : Nat → Nat → Option Nat
  | 0, _ => none
  | n + 1, s => if s < text.size then if nlAt text s then some s else findNl text n (s + 1) else none
noncomputable def len2 (text : Array Nat) (t : Nat) : Nat := if text.getD t 0 = 13 ∧ t + 1 < text.size ∧ text.getD (t + 1) 0 = 10 then 2 else 1
theorem inSet2 (c : Nat) (seen : Sre.Seen) : ∃ sn, inSet code2 c code2.size 5 true seen = .ok (c == 10 || c == 13, sn) := by
  have e16 : ops[16]? = some .LITERAL := rfl
  have e0 : ops[0]? = some .FAILURE := rfl
  by_cases h1 : c = 10
  · subst h1; exact ⟨_, rfl⟩
  · by_cases h2 : c = 13
    · subst h2; exact ⟨_, rfl⟩
    · have b1 : (c == 10) = false := by simpa using h1
      have b2 : (c == 13) = false := by simpa using h2
      refine ⟨((seen.add 16).add 16).add 0, ?_⟩
      rw [b1, b2]
      show (if (c == 10) = true then (Except.ok (true, seen.add 16) : Except String (Bool × Sre.Seen)) else inSet code2 c (33 + 1 + 1) 7 true (seen.add 16)) = _
      rw [b1]
      show (if (c == 13) = true then (Except.ok (true, (seen.add 16).add 16) : Except String (Bool × Sre.Seen)) else inSet code2 c (33 + 1) 9 true ((seen.add 16).add 16)) = _
      rw [b2]
      rfl
theorem admitted2 (m : M) (hc : m.code = code2) (ht : m.text = text) (hl : m.lim = text.size) : ∀ (n s : Nat) (seen : Sre.Seen), ∃ sn, m.admitted n s seen = .ok (findNl text n s, sn)
  | 0, _, seen => ⟨seen, rfl⟩
  | n + 1, s, seen => by
    unfold M.admitted findNl
    rw [hl, ht, hc]
    by_cases hs : s ≥ text.size
    · rw [if_pos hs, if_neg (by omega)]; exact ⟨_, rfl⟩
    · rw [if_neg hs, if_pos (by omega)]
      obtain ⟨sn, e⟩ := inSet2 (text.getD s 0) seen
      rw [e]
      have en : nlAt text s = (text.getD s 0 == 10 || text.getD s 0 == 13) := rfl
      rw [← en]
      cases hn : nlAt text s with
      | true => exact ⟨sn, rfl⟩
      | false =>
        obtain ⟨sn2, e2⟩ := admitted2 m hc ht hl n (s + 1) sn
        exact ⟨sn2, e2⟩
noncomputable def f0 (s : Nat) (o : Bool) : Sre.Frame := { wait := .nextStart, pc := 10, pos := s, outermost := o }
theorem code2_at {s : Nat} {o : Bool} {seen : Sre.Seen} (hs : s < text.size) (hn : nlAt text s = true) :
    Ans (len2 text) (some s) (M.runFor 20 (SM code2 text text.size s text.size false 10 s s o [{ wait := .nextStart, pc := 10, pos := s, outermost := o }] 1 none seen none)) := by
 walk_at "ST"
 case oTag =>
  have z (k : Nat) (h : k < 36) : k < code2.size := h
  obtain ⟨sn, e1⟩ := sm_branch (code := code2) (text := text) (lim := text.size) (start := s) (lastStart := text.size) (must := false) (pos := s) (handed := s) (outermost := o) (frames := [{ wait := .nextStart, pc := 10, pos := s, outermost := o }]) (weight := 1) (seen := seen) (z 10 (by decide)) rfl (by decide) (by decide)
  have hcase : text.getD s 0 = 10 ∨ text.getD s 0 = 13 := by simpa [nlAt] using hn
  -- the end: SUCCESS, the branch's frame, the start's frame, over
  have fin (p q p' hd : Nat) (sn : Sre.Seen) (hp : code2.getD p' 0 = 1) (hz : p' < 36) (hq : q = s + len2 text s) :
      Ans (len2 text) (some s) (M.runFor 4 (SM code2 text text.size s text.size false p' q hd o [{ wait := .nextBranch, pc := p, pos := s, outermost := o, kept := keptN }, { wait := .nextStart, pc := 10, pos := s, outermost := o }] 2 none sn none)) := by
    obtain ⟨sn3, e3⟩ := sm_success (code := code2) (text := text) (lim := text.size) (start := s) (lastStart := text.size) (must := false) (pc := p') (pos := q) (handed := hd) (outermost := o) (frames := [{ wait := .nextBranch, pc := p, pos := s, outermost := o, kept := keptN }, { wait := .nextStart, pc := 10, pos := s, outermost := o }]) (weight := 2) (seen := sn) (z p' hz) hp rfl
    refine go_step rfl e3 (go_step rfl sm_branch_yes (go_step rfl sm_start_yes (go_step rfl (sm_end true) ⟨rfl, rfl, hq⟩)))
  have jmp (p q p' hd : Nat) (sn : Sre.Seen) (hp : code2.getD p' 0 = 15) (hz : p' < 36) (hj : p' + 1 + code2.getD (p' + 1) 0 = 35) (hq : q = s + len2 text s) :
      Ans (len2 text) (some s) (M.runFor 5 (SM code2 text text.size s text.size false p' q hd o [{ wait := .nextBranch, pc := p, pos := s, outermost := o, kept := keptN }, { wait := .nextStart, pc := 10, pos := s, outermost := o }] 2 none sn none)) := by
    obtain ⟨sn3, e3⟩ := sm_jump (code := code2) (text := text) (lim := text.size) (start := s) (lastStart := text.size) (must := false) (pc := p') (pos := q) (handed := hd) (outermost := o) (frames := [{ wait := .nextBranch, pc := p, pos := s, outermost := o, kept := keptN }, { wait := .nextStart, pc := 10, pos := s, outermost := o }]) (weight := 2) (seen := sn) (z p' hz) hp
    rw [hj] at e3
    exact go_step rfl e3 (fin p q 35 hd sn3 rfl (by decide) hq)
  let FB (p : Nat) : List Sre.Frame := [{ wait := .nextBranch, pc := p, pos := s, outermost := o, kept := keptN }, { wait := .nextStart, pc := 10, pos := s, outermost := o }]
  have lit (p pc q hd : Nat) (sn : Sre.Seen) (hz : pc < 36) (h : code2.getD pc 0 = 16) (hq : q < text.size) (hc : text.getD q 0 = code2.getD (pc + 1) 0) :=
    sm_lit (code := code2) (text := text) (lim := text.size) (start := s) (lastStart := text.size) (must := false) (pc := pc) (pos := q) (handed := hd) (outermost := o) (frames := FB p) (weight := 2) (seen := sn) (z pc hz) h hq hc
  have litno (p pc q hd : Nat) (sn : Sre.Seen) (hz : pc < 36) (h : code2.getD pc 0 = 16) (hc : text.size ≤ q ∨ ¬ text.getD q 0 = code2.getD (pc + 1) 0) :=
    sm_lit_no (code := code2) (text := text) (lim := text.size) (start := s) (lastStart := text.size) (must := false) (pc := pc) (pos := q) (handed := hd) (outermost := o) (frames := FB p) (weight := 2) (seen := sn) (z pc hz) h hc
  have brno (p pc' pos' hd : Nat) (sn : Sre.Seen) (h : ¬ code2.getD (p + code2.getD p 0) 0 = 0) :=
    sm_branch_no (code := code2) (text := text) (lim := text.size) (start := s) (lastStart := text.size) (must := false) (handed := hd) (frames := [{ wait := .nextStart, pc := 10, pos := s, outermost := o }]) (weight := 1) (seen := sn) (p := p) (q := s) (o := o) (pc' := pc') (pos' := pos') (o' := o) h (by decide)
  have c11 : code2.getD 11 0 = 7 := rfl
  have c18 : code2.getD 18 0 = 5 := rfl
  have c23 : code2.getD 23 0 = 11 := rfl
  rcases hcase with h10 | h13
  · have hl : s + 1 = s + len2 text s := by unfold len2; rw [if_neg (by rw [h10]; omega)]
    obtain ⟨s2, e2⟩ := litno 11 12 s s sn (by decide) rfl (.inr (by rw [h10]; decide))
    have e3 := brno 11 12 s s s2 (by decide)
    rw [c11] at e3
    obtain ⟨s4, e4⟩ := lit 18 19 s s s2 (by decide) rfl hs h10
    exact ans_le (K := 5 + 1 + 1 + 1 + 1) (by decide) (go_step rfl e1 (go_step rfl e2 (go_step rfl e3 (go_step rfl e4 (jmp 18 (s + 1) 21 s s4 rfl (by decide) rfl hl)))))
  · obtain ⟨s2, e2⟩ := lit 11 12 s s sn (by decide) rfl hs h13
    by_cases hB : s + 1 < text.size ∧ text.getD (s + 1) 0 = 10
    · have hl : s + 1 + 1 = s + len2 text s := by unfold len2; rw [if_pos ⟨h13, hB.1, hB.2⟩]
      obtain ⟨s3, e3⟩ := lit 11 14 (s + 1) s s2 (by decide) rfl hB.1 hB.2
      exact ans_le (K := 5 + 1 + 1 + 1) (by decide) (go_step rfl e1 (go_step rfl e2 (go_step rfl e3 (jmp 11 (s + 1 + 1) 16 s s3 rfl (by decide) rfl hl))))
    · have hl : s + 1 = s + len2 text s := by unfold len2; rw [if_neg (fun h => hB h.2)]
      have hno : text.size ≤ s + 1 ∨ ¬ text.getD (s + 1) 0 = 10 := by
        by_cases h1 : s + 1 < text.size
        · exact .inr fun h2 => hB ⟨h1, h2⟩
        · exact .inl (by omega)
      obtain ⟨s3, e3⟩ := litno 11 14 (s + 1) s s2 (by decide) rfl hno
      have e4 := brno 11 14 (s + 1) s s3 (by decide)
      rw [c11] at e4
      obtain ⟨s5, e5⟩ := litno 18 19 s s s3 (by decide) rfl (.inr (by rw [h13]; decide))
      have e6 := brno 18 19 s s s5 (by decide)
      rw [c18] at e6
      obtain ⟨s7, e7⟩ := lit 23 24 s s s5 (by decide) rfl hs h13
      obtain ⟨s8, e8⟩ := sm_assertNot (code := code2) (text := text) (lim := text.size) (start := s) (lastStart := text.size) (must := false) (pc := 26) (pos := s + 1) (handed := s) (outermost := o) (frames := FB 23) (weight := 2) (seen := s7) (z 26 (by decide)) rfl rfl (by decide)
      obtain ⟨s9, e9⟩ := sm_lit_no (code := code2) (text := text) (lim := text.size) (start := s) (lastStart := text.size) (must := false) (pc := 29) (pos := s + 1) (handed := s + 1) (outermost := false) (frames := { wait := .lookNot, pc := 26, pos := s + 1, outermost := o, kept := keptN } :: FB 23) (weight := 3) (seen := s8) (z 29 (by decide)) rfl hno
      have e10 := sm_lookNot_no (code := code2) (text := text) (lim := text.size) (start := s) (lastStart := text.size) (must := false) (handed := s + 1) (frames := FB 23) (weight := 2) (seen := s9) (p := 26) (q := s + 1) (o := o) (pc' := 29) (pos' := s + 1) (o' := false)
      exact ans_le (K := 5 + 1 + 1 + 1 + 1 + 1 + 1 + 1 + 1 + 1 + 1) (by decide) (go_step rfl e1 (go_step rfl e2 (go_step rfl e3 (go_step rfl e4 (go_step rfl e5 (go_step rfl e6 (go_step rfl e7 (go_step rfl e8 (go_step rfl e9 (go_step rfl e10
        (jmp 23 (s + 1) 32 (s + 1) s9 rfl (by decide) rfl hl)))))))))))
 walk_at "EN"
theorem findNl_some : ∀ (n s t : Nat), findNl text n s = some t → s ≤ t ∧ t < text.size ∧ nlAt text t = true
  | 0, _, _, h => by cases h
  | n + 1, s, t, h => by
    unfold findNl at h
    by_cases hs : s < text.size
    · rw [if_pos hs] at h
      cases hn : nlAt text s with
      | true => rw [hn] at h; cases h; exact ⟨Nat.le_refl _, hs, hn⟩
      | false =>
        rw [hn] at h
        have := findNl_some n (s + 1) t h
        exact ⟨by omega, this.2⟩
    · rw [if_neg hs] at h; cases h
theorem code2_search {s : Nat} (h : s ≤ text.size) : Ans (len2 text) (findNl text (text.size + 1 - s) s) (M.runFor 20 (forSearch code2 text 0 s text.size false)) := by
 walk_at "ST"
 case oTag =>
  by_cases h1 : text.size - s < 1
  · have hs : ¬ s < text.size := by omega
    have ef : findNl text (text.size + 1 - s) s = none := by
      rw [show text.size + 1 - s = 0 + 1 by omega]; unfold findNl; rw [if_neg hs]
    rw [ef]
    refine ans_le (K := 1) (by omega) ?_
    unfold forSearch
    rw [if_pos (by simp [code2, header, ops]; omega)]
    exact go_step rfl (sm_end false) rfl
  · have e : forSearch code2 text 0 s text.size false = (SM code2 text text.size s text.size false 10 s s true [] 0 none (({} : Sre.Seen).add 14) none).attemptFrom s true := by
      unfold forSearch
      rw [if_neg (by simp [code2, header, ops]; omega)]
      rfl
    rw [e]
    obtain ⟨sn, ea⟩ := admitted2 (text := text) (SM code2 text text.size s text.size false 10 s s true [] 0 none (({} : Sre.Seen).add 14) none) rfl rfl rfl (text.size + 1 - s) s (({} : Sre.Seen).add 14)
    have ef : (SM code2 text text.size s text.size false 10 s s true [] 0 none (({} : Sre.Seen).add 14) none).attemptFrom s true =
        match findNl text (text.size + 1 - s) s with
        | some t => SM code2 text text.size t text.size false 10 t t true [{ wait := .nextStart, pc := 10, pos := t, outermost := true }] 1 none sn none
        | none => SM code2 text text.size s text.size false 10 s s true [] 0 (some false) sn none := by
      unfold M.attemptFrom
      have hfs : (SM code2 text text.size s text.size false 10 s s true [] 0 none (({} : Sre.Seen).add 14) none).hasFirstSet = true := rfl
      rw [if_neg (by rw [hfs]; decide)]
      show (match M.admitted _ (text.size + 1 - s) s (({} : Sre.Seen).add 14) with | .ok (some s, seen) => _ | .ok (none, seen) => _ | .error why => _) = _
      rw [ea]
      cases findNl text (text.size + 1 - s) s <;> rfl
    rw [ef]
    cases hf : findNl text (text.size + 1 - s) s with
    | none => exact ans_le (K := 1) (by decide) (go_step rfl (sm_end false) rfl)
    | some t =>
      obtain ⟨_, h2, h3⟩ := findNl_some _ _ _ hf
      exact code2_at h2 h3
 walk_at "EN"
end
end
section
open ZS1
example : True := by
  k_with "!call builtin:chr" => (guard_expr onS1 =~ onS1; first | (refine chr_of_range (getD_in _ (by decide +kernel) _).1 (getD_in _ (by decide +kernel) _).2 ?_) | (refine chr_of_range (by l_fact) (by l_fact) ?_))
  trivial
theorem stay_spec (w : World) (i : Int) (t : Tok) (news : List (Addr × Obj)) : Call1 w 163 [.int i t] news (fun v n' => n' = news ∧ ∃ t, v = .str ⟨#[stayC i]⟩ t) := by
 walk_at "ST"
 case oTag =>
  unfold Call1
  intros; rename_i hret
  walk_at "MY ENTER"
  k_steps
  exact hret _ _ _ _ ⟨rfl, _, rfl⟩ (by k_asm) (by walk_at "MY LEDGER")
 walk_at "EN"
theorem veil_spec (w : World) (i : Int) (t : Tok) (news : List (Addr × Obj)) : Call1 w 156 [.int i t] news (fun v n' => n' = news ∧ ∃ t, v = .str ⟨#[veilC i]⟩ t) := by
 walk_at "ST"
 case oTag =>
  unfold Call1
  intros; rename_i hret
  walk_at "MY ENTER"
  k_steps
  · exact hret _ _ _ _ ⟨rfl, _, by unfold veilC; rw [if_pos ‹_›]; rfl⟩ (by k_asm) (by walk_at "MY LEDGER")
  · exact hret _ _ _ _ ⟨rfl, _, by unfold veilC; rw [if_neg ‹_›]⟩ (by k_asm) (by walk_at "MY LEDGER")
 walk_at "EN"
end
section
noncomputable def b1L : List Int := [173, 847, 6150, 6155, 6156, 6157, 8203, 8204, 8205, 8288, 65279, 65024, 65025, 65026, 65027, 65028, 65029, 65030, 65031, 65032, 65033, 65034, 65035, 65036, 65037, 65038, 65039]
noncomputable def b1S (k : Int) : Bool := b1L.contains k
noncomputable def b1Es (P : Params) : List (Int × Value) := match (O_71 P).data with
  | .set es _ _ => es.toList
  | _ => []
noncomputable def b1Looks (es : List (Int × Value)) : Bool := es.all fun e => match e.2 with
  | .int i _ => e.1 == hashInt i && b1S i
  | _ => false
theorem b1_looks (P : Params) : b1Looks (b1Es P) = true ∧ (b1L.all fun k => (b1Es P).any fun e => Value.isInt k e.2) = true := ⟨by rfl, by rfl⟩
theorem b1_set (w : World) {h : Heap} (X : (KK w.params).In h) : h.SetOf (PySem.intKind PW w) 71 b1S 27 := by
 walk_at "ST"
 case oTag =>
  have ho : h.get? 71 = some (O_71 w.params) := X 71 _ (by rfl)
  obtain ⟨l1, l2⟩ := b1_looks w.params
  refine Obj.SetObjOf.setOf (o := O_71 w.params) ?_ ho (by decide)
  refine ⟨⟨rfl, rfl, rfl⟩, _, _, _, rfl, ?_, ?_, rfl, by rfl⟩
  · intro e he
    have := List.all_eq_true.mp l1 e he
    revert this
    rcases e with ⟨hsh, v⟩
    cases v <;> simp only [Bool.false_eq_true, false_implies]
    rename_i i t
    intro h1
    simp only [Bool.and_eq_true, beq_iff_eq] at h1
    exact ⟨⟨i, by simp [intKind, Value.isInt], by simpa [intKind] using h1.1⟩, rfl⟩
  · intro k
    constructor
    · intro hk
      have hm : k ∈ b1L := by simpa [b1S] using hk
      have := List.all_eq_true.mp l2 k hm
      obtain ⟨e, he, h1⟩ := List.any_eq_true.mp this
      exact ⟨e, he, h1⟩
    · rintro ⟨e, he, h1⟩
      have := List.all_eq_true.mp l1 e he
      revert this h1
      rcases e with ⟨hsh, v⟩
      cases v <;> simp only [Bool.false_eq_true, false_implies, intKind, Value.isInt]
      rename_i i t
      intro h1 h2
      simp only [Bool.and_eq_true, beq_iff_eq] at h1 h2
      rw [h1] at h2
      exact h2.2
 walk_at "EN"
theorem b1_in {w : World} {A : Around} {E : Value → Shared → Prop} {s : Shared} {Q : Value → Shared → Prop} {h₀ : Heap} {L : Addr} {m : Str → Option Value} {k : Int} {t : Tok}
    (F : Fr h₀ L s.heap m) (X : (KK w.params).In h₀) (h : Q (.bool (b1S k)) { s with toks := s.toks + 1 }) : wpAny (model PW w) A (compareOp .In (.int k t) (.ref 71)) Q E s :=
  wpAny_inSet_of (knd := PySem.intKind PW w) (intKind_is _ _ _ _) rfl (b1_set w (X.keeps F.keep)) h
noncomputable def b3D : List (Int × PyData) := b3Pairs.map fun p => (p.1, .str p.2)
noncomputable def rising : List Int → Bool
  | a :: b :: r => decide (a < b) && rising (b :: r)
  | _ => true
theorem rising_pw : ∀ {l : List Int}, rising l = true → l.Pairwise (· < ·)
  | [], _ => .nil
  | [_], _ => .cons (fun _ h => nomatch h) .nil
  | a :: b :: r, h => by
    simp only [rising, Bool.and_eq_true, decide_eq_true_eq] at h
    have ih := rising_pw h.2
    refine .cons (fun c hc => ?_) ih
    rcases List.mem_cons.mp hc with rfl | hc
    · exact h.1
    · exact Int.lt_trans h.1 ((List.pairwise_cons.mp ih).1 c hc)
theorem b3_rising : rising (b3Pairs.map (·.1)) = true := by decide +kernel
theorem b3_hash : (b3Pairs.all fun p => hashInt p.1 == p.1) = true := by decide +kernel
theorem looks_str (s : Str) (t : Tok) : KTD.flatLooks (.str s) (.str s t) = true := by
  show (s == s) = true
  simp
theorem look_one {e : DictEntry} {es : List DictEntry} {i : Int} {d : PyData} {D : List (Int × PyData)} {t : Tok} (h1 : e.key = .int i t) (h2 : e.hash = hashInt i) (h3 : KTD.flatLooks d e.val = true) (h4 : KTD.numsLook es D = true) : KTD.numsLook (e :: es) ((i, d) :: D) = true := by
  show ((match e.key with | .int j _ => j == i | _ => false) && e.hash == hashInt i && KTD.flatLooks d e.val && KTD.numsLook es D) = true
  rw [h1, h2, h3, h4]
  show ((i == i) && (hashInt i == hashInt i) && true && true) = true
  simp
theorem look_L (ps : List (Int × Str)) : ∀ (k : Nat), (ps.all fun p => hashInt p.1 == p.1) = true → KTD.numsLook (entsL k ps) (ps.map fun p => (p.1, .str p.2)) = true := by
  induction ps with
  | nil => intro _ _; rfl
  | cons p ps ih =>
    intro k h
    rw [List.all_cons, Bool.and_eq_true] at h
    exact look_one rfl (beq_iff_eq.mp h.1).symm (looks_str _ _) (ih _ h.2)
theorem look_S (ps : List (Int × Str)) : ∀ (k : Nat), (ps.all fun p => hashInt p.1 == p.1) = true → KTD.numsLook (entsS k ps) (ps.map fun p => (p.1, .str p.2)) = true := by
  induction ps with
  | nil => intro _ _; rfl
  | cons p ps ih =>
    intro k h
    rw [List.all_cons, Bool.and_eq_true] at h
    exact look_one rfl (beq_iff_eq.mp h.1).symm (looks_str _ _) (ih _ h.2)
theorem look_app : ∀ {es es' : List DictEntry} {D D' : List (Int × PyData)}, KTD.numsLook es D = true → KTD.numsLook es' D' = true → KTD.numsLook (es ++ es') (D ++ D') = true
  | [], _, [], _, _, h => h
  | e :: es, _, (i, d) :: D, _, h, h' => by
    simp only [KTD.numsLook, Bool.and_eq_true, List.cons_append] at h ⊢
    exact ⟨h.1, look_app h.2 h'⟩
theorem b3_look : KTD.numsLook b3Ents b3D = true := by
  have h := b3_hash
  have e : b3D = ((b3Pairs.take 646).map fun p => (p.1, PyData.str p.2)) ++ ((b3Pairs.drop 646).map fun p => (p.1, PyData.str p.2)) := by
    rw [← List.map_append, List.take_append_drop]; rfl
  have hs := h
  rw [← List.take_append_drop 646 b3Pairs, List.all_append, Bool.and_eq_true] at hs
  rw [e]
  exact look_app (look_L _ _ hs.1) (look_S _ _ hs.2)
theorem b3_keyed (w : World) {h : Heap} (X : (KK w.params).In h) : KTD.Keyed h 82 b3D := by
  intro prog w'
  obtain ⟨hk, kvs, hp, hf, hm⟩ := KTD.nums_of_look prog w' b3_look
  refine ⟨by decide, kvs, ⟨O_82 w.params, b3Ents.toArray, 650, X 82 _ (by rfl), ⟨rfl, rfl, rfl⟩, rfl, fun e he => hk e (by simpa using he), hp, ?_⟩, hf⟩
  rw [hm]
  have : b3D.map (·.1) = b3Pairs.map (·.1) := by unfold b3D; rw [List.map_map]; rfl
  rw [this]
  exact (rising_pw b3_rising).imp (fun h => Int.ne_of_lt h)
noncomputable def b3At (c : Int) : Option Str := match KTD.datumAt c b3D with
  | some (.str x) => some x
  | _ => none
theorem b3D_str : ∀ (ps : List (Int × Str)) (c : Int), (KTD.datumAt c (ps.map fun p => (p.1, PyData.str p.2)) = none) ∨ ∃ x, KTD.datumAt c (ps.map fun p => (p.1, PyData.str p.2)) = some (.str x)
  | [], _ => .inl rfl
  | p :: ps, c => by
    simp only [List.map_cons, KTD.datumAt]
    split
    · exact .inr ⟨_, rfl⟩
    · exact b3D_str ps c
theorem b3_get {w : World} {A : Around} {E : Value → Shared → Prop} {s : Shared} {Q : Value → Shared → Prop} {h₀ : Heap} {L : Addr} {m : Str → Option Value} {k : Int} {t : Tok}
    (F : Fr h₀ L s.heap m) (X : (KK w.params).In h₀) (h1 : ∀ x t, b3At k = some x → Q (.str x t) { s with toks := s.toks + 1 }) (h2 : b3At k = none → Q .none { s with toks := s.toks + 1 }) :
    wpAny (model PW w) A (call (.builtin "dict.get") [.ref 82, .int k t]) Q E s :=
  call_get1_intTab (b3_keyed w (X.keeps F.keep) PW w) fun v hv => by
    rw [KTD.lookup_keyed] at hv
    rcases b3D_str b3Pairs k with e | ⟨x, e⟩
    · have e' : KTD.datumAt k b3D = none := e
      rw [e'] at hv
      have hv' : PyProof.V.Flat v .none := hv
      rw [hv'.none_inv]
      exact h2 (by unfold b3At; rw [e'])
    · have e' : KTD.datumAt k b3D = some (.str x) := e
      rw [e'] at hv
      have hv' : PyProof.V.Flat v (.str x) := hv
      obtain ⟨t, rfl⟩ := hv'.str_inv
      exact h1 x t (by unfold b3At; rw [e'])
theorem b3_method {w : World} {A : Around} {E : Value → Shared → Prop} {s : Shared} {pl : Sem Bool} {Q : Value × List Value → Shared → Prop} {h₀ : Heap} {L : Addr} {m : Str → Option Value}
    (F : Fr h₀ L s.heap m) (X : (KK w.params).In h₀) (h : Q (.builtin "dict.get", [.ref 82]) s) : wpAny (model PW w) A (getMethod (.ref 82) "get" pl) Q E s :=
  KTD.getMethod_keyed (b3_keyed w (X.keeps F.keep)) (fun _ _ e => e) h
end
section
open ZS2m
example : True := by
  k_with "!compareOp In int ref" => (guard_expr onS2m =~ onS2m; (k_here; (with_reducible show wpAny _ _ (compareOp CmpOp.In (Value.int _ _) (Value.ref 71)) _ _ _); refine b1_in (by k_asm) (by k_asm) ?_))
  k_with "!getMethod ref" => (guard_expr onS2m =~ onS2m; (k_here; (with_reducible show wpAny _ _ (getMethod (Value.ref 82) _ _) _ _ _); refine b3_method (by k_asm) (by k_asm) ?_))
  k_with "!call builtin:dict.get" => (guard_expr onS2m =~ onS2m; (k_here; (with_reducible show wpAny _ _ (call (Value.builtin "dict.get") [Value.ref 82, Value.int _ _]) _ _ _); refine b3_get (by k_asm) (by k_asm) ?_ ?_ <;> intros))
  k_with "!call builtin:str.lower" => (guard_expr onS2m =~ onS2m; (k_here; (dsimp only); refine SCL.lower (show (1 : Nat) ≤ 5592405 by decide) ?_; intro _))
  k_with "!binaryOp Add str str" => (guard_expr onS2m =~ onS2m; (k_here; k_extra "binaryOp Add str str"))
  trivial
theorem b1_spec (w : World) (c : Nat) (t : Tok) (news : List (Addr × Obj)) : Call1 w 81 [.str ⟨#[c]⟩ t] news (fun v n' => n' = news ∧ v = .bool (b1S c)) := by
 walk_at "ST"
 case oTag =>
  unfold Call1
  intros; rename_i hret
  walk_at "MY ENTER"
  k_steps
  exact hret _ _ _ _ ⟨rfl, rfl⟩ (by k_asm) (by walk_at "MY LEDGER")
 walk_at "EN"
theorem eof_spec (w : World) (i : Int) (t : Tok) (news : List (Addr × Obj)) : Call1 w 137 [.int i t] news (fun v n' => n' = news ∧ v = .bool (i == 0)) := by
 walk_at "ST"
 case oTag =>
  unfold Call1
  intros; rename_i hret
  walk_at "MY ENTER"
  k_steps
  exact hret _ _ _ _ ⟨rfl, rfl⟩ (by k_asm) (by walk_at "MY LEDGER")
 walk_at "EN"
noncomputable def mapS (c : Nat) : Str := (b3At c).getD (Txt.lower ⟨#[c]⟩)
noncomputable def flagNames : List Str := [Str.ofString "OPTIMIZED", Str.ofString "NEWLOCALS", Str.ofString "VARARGS", Str.ofString "VARKEYWORDS", Str.ofString "NESTED", Str.ofString "GENERATOR", Str.ofString "NOFREE", Str.ofString "COROUTINE", Str.ofString "ITERABLE_COROUTINE", Str.ofString "ASYNC_GENERATOR"]
noncomputable def flagW (i : Int) : Str := if i < 10 then flagNames.getD i.toNat Str.empty else Str.ofString "0x" ++ Txt.item (Str.ofString "1248") (i.fmod 4) ++ Txt.mul (Str.ofString "0") (i.fdiv 4)
theorem zero_is : Str.ofString "0" = ⟨#[48]⟩ := by decide +kernel
theorem len_0x : (Str.ofString "0x").length = 2 := by decide +kernel
end
section
open ZS3
theorem cells_step {cs : List Int} {i : Nat} {v k : Int} {pre : List Int} (h : cs.length = 4 ∧ ∀ x ∈ cs, 0 ≤ x ∧ x ≤ 1000000 * ((pre.length : Int) + 1)) :
    (cs.set i (cs.getD i 0 + v.fmod 1000000)).length = 4 ∧ ∀ x ∈ cs.set i (cs.getD i 0 + v.fmod 1000000), 0 ≤ x ∧ x ≤ 1000000 * (((pre ++ [k]).length : Int) + 1) := by
  refine ⟨by rw [List.length_set]; exact h.1, fun x hx => ?_⟩
  have e : (((pre ++ [k]).length : Nat) : Int) = (pre.length : Int) + 1 := by simp
  rw [e]
  rcases List.mem_or_eq_of_mem_set hx with hx | rfl
  · have := h.2 x hx; omega
  · have hf : 0 ≤ v.fmod 1000000 ∧ v.fmod 1000000 < 1000000 := by rw [Int.fmod_eq_emod_of_nonneg _ (by omega)]; omega
    by_cases hi : i < cs.length
    · have hm : cs.getD i 0 ∈ cs := by
        rw [show cs.getD i 0 = cs[i] from by simp [List.getD, hi]]
        exact List.getElem_mem hi
      have := h.2 _ hm
      omega
    · have : cs.getD i 0 = 0 := by simp [List.getD, hi]
      rw [this]; omega
theorem ints4 {vs : List Value} {ns : List Int} (h : IntsAre vs ns) (hl : ns.length = 4) : ∃ a b c d t0 t1 t2 t3, vs = [.int a t0, .int b t1, .int c t2, .int d t3] ∧ ns = [a, b, c, d] := by
 walk_at "ST"
 case oTag =>
  cases h with
  | nil => simp at hl
  | cons a t0 h => cases h with
    | nil => simp at hl
    | cons b t1 h => cases h with
      | nil => simp at hl
      | cons c t2 h => cases h with
        | nil => simp at hl
        | cons d t3 h => cases h with
          | nil => exact ⟨a, b, c, d, t0, t1, t2, t3, rfl, rfl⟩
          | cons => simp at hl
 walk_at "EN"
noncomputable def cellsR (news : List (Addr × Obj)) (v : Value) (n' : List (Addr × Obj)) : Prop :=
  ∃ a c0 c1 c2 c3 t0 t1 t2 t3 ep, v = .ref a ∧ n' = (a, W.listOf #[.int c0 t0, .int c1 t1, .int c2 t2, .int c3 t3] ep) :: news ∧ (∀ p ∈ news, p.1 < a) ∧
    (0 ≤ c0 ∧ c0 ≤ 64000000) ∧ (0 ≤ c1 ∧ c1 ≤ 64000000) ∧ (0 ≤ c2 ∧ c2 ≤ 64000000) ∧ (0 ≤ c3 ∧ c3 ≤ 64000000)
example : True := by
  k_with "!storeName" => (guard_expr onS3 =~ onS3; (k_here; k_dflt (refine' storeX_L ?sF_11 ?sN_11 ?_ ?sa_11 ?sb_11; (case sF_11 => k_asm); (case sN_11 => k_asm); (case sa_11 => rfl); (case sb_11 => rfl); k_whole); intro h''k F''k N''k; (try k_sweep)))
  trivial
theorem cells_spec (w : World) (news : List (Addr × Obj)) (l : Addr) (vs : List Value) (ns : List Int) :
  ∀ (mean : ExcName → Option Value) (mg mb : Str → Option Value) (dp un : Nat) (gd : Option (List Code)) (env0 : Env) (outer : List Env) (A₀ : Around) (base h₀ : Heap) (L : Addr) (m : Str → Option Value) (s : Shared) (Q E : Value → Shared → Prop),
    Below A₀ base outer h₀ → Fr h₀ L s.heap m → (KK w.params).In h₀ → News h₀ L s.heap news → Top qq LOOSE mean mg mb h₀ → env0.frame = some L → env0.scope.kind = .function →
    dp + 10 < recursionLimit → un + 60 < cLine → base.IsList l vs.toArray → IntsAre vs ns → ns.length ≤ 63 →
    (∀ (v : Value) (h' : Heap) (tk' : Nat) (news' : List (Addr × Obj)), cellsR news v news' → Fr h₀ L h' m → News h₀ L h' news' → Q v { s with heap := h', toks := tk' }) →
    wpAny (model PW w) (AT dp un gd env0 outer) (call (.ref 144) [.ref l]) Q E s := by
 walk_at "ST"
 case oTag =>
  intros; rename_i hret
  walk_at "MY ENTER"
  k_with "pyIter ref" => (guard_expr onS3 =~ onS3; k_state (fun pre cells => cells.length = 4 ∧ ∀ x ∈ cells, 0 ≤ x ∧ x ≤ 1000000 * ((pre.length : Int) + 1)) "cells")
  k_with "state" => (guard_expr onS3 =~ onS3; first | exact cells_step ⟨by assumption, by assumption⟩ | decide +kernel)
  k_steps
  rename (∀ x : Int, x ∈ _ → 0 ≤ x ∧ x ≤ 1000000 * _) => hb
  rename (List.length _ = 4) => hl
  obtain ⟨a, b, c, d, t0, t1, t2, t3, rfl, rfl⟩ := ints4 (by assumption) hl
  have hlen : ((rangeKs 0 (((ns.length : Nat) : Int) - 0).toNat).length : Int) ≤ 63 := by simp [rangeKs]; omega
  have hb' : ∀ x ∈ [a, b, c, d], 0 ≤ x ∧ x ≤ 64000000 := fun x hx => ⟨(hb x hx).1, by have := (hb x hx).2; omega⟩
  exact hret _ _ _ _ ⟨_, a, b, c, d, t0, t1, t2, t3, _, rfl, rfl, by assumption, hb' a (by simp), hb' b (by simp), hb' c (by simp), hb' d (by simp)⟩ (by k_asm) (by walk_at "MY LEDGER")
 walk_at "EN"
end
section
noncomputable def rIt (x left : Int) : Obj := { cls := .type "range_iterator", dict := none, data := .fields #[rawInt x, rawInt left, rawInt 1], slots := #[] }
noncomputable def LoopK (prog : Program) (w : World) (A : Around) (target : PySem.Expr) (body : List Stmt) (env : Env) (I : Addr) (x left : Int) (Q : Flow → Shared → Prop) (E : Value → Shared → Prop) (s : Shared) : Prop :=
  codeAny (model prog w) A (.forLoop target (.ref I) body [] env) (fun r s' => match r with | .ok f => Q f s' | .error e => cameBackBy (model prog w) A env E e s') s
noncomputable def PeelPost (prog : Program) (w : World) (A : Around) (target : PySem.Expr) (body : List Stmt) (env : Env) (I : Addr) (x left : Int) (Q : Flow → Shared → Prop) (E : Value → Shared → Prop) (f : Flow) (s : Shared) : Prop :=
  match f with
  | .next => LoopK prog w A target body env I x left Q E s
  | .cont => LoopK prog w A target body env I x left Q E s
  | .brk => Q .next s
  | .ret v => Q (.ret v) s
inductive DelF (d : Addr) (o : Obj) : List (Addr × Obj) → List (Addr × Obj) → Prop
  | head {r} : (∀ p ∈ r, p.1 ≠ d) → DelF d o ((d, o) :: r) r
  | tail {p r r'} : p.1 ≠ d → DelF d o r r' → DelF d o (p :: r) (p :: r')
theorem DelF.split {d : Addr} {o : Obj} {l l' : List (Addr × Obj)} (h : DelF d o l l') : (d, o) ∈ l ∧ (∀ p ∈ l', p ∈ l) ∧ ∀ p ∈ l', p.1 ≠ d := by
  induction h with
  | head h => exact ⟨.head _, fun _ hp => .tail _ hp, h⟩
  | tail h r ih =>
    obtain ⟨a, b, c⟩ := ih
    exact ⟨.tail _ a, fun q hq => by rcases List.mem_cons.mp hq with rfl | hq; exact .head _; exact .tail _ (b q hq), fun q hq => by rcases List.mem_cons.mp hq with rfl | hq; exact h; exact c q hq⟩
theorem all_ne {news : List (Addr × Obj)} {X d : Nat} (h : ∀ p ∈ news, @LT.lt Nat _ p.1 X) (e : X ≤ d) : ∀ p ∈ news, p.1 ≠ d := fun p hp q => absurd (h p hp) (by rw [q]; exact Nat.not_lt.mpr e)
section
variable {prog : Program} {w : World} {A : Around} {E : Value → Shared → Prop} {s : Shared} {env : Env} {Q : Flow → Shared → Prop} {h₀ : Heap} {m : Str → Option Value} {news : List (Addr × Obj)} {target iter : PySem.Expr} {body : List Stmt}
theorem codeAny_unfold {A : Around} {c : Code} {R : Result → Shared → Prop} {s : Shared}
    (h : wpAny (model prog w) (A.under c) (denote table c) (fun fin s' => match fin with | .done f => R (.ok f) s' | .again c' => c'.quiet = true ∧ codeAny (model prog w) A c' R s') (fun e s' => R (.error e) s') s) : codeAny (model prog w) A c R s := codeAny_of_tree h
theorem for_head {pos : Pos} {E : Value → Shared → Prop} (h : wpAny (model prog w) A (eval iter env) (fun x s₁ => wpAny (model prog w) A (pyIter x) (fun it s₂ => ∃ I x left, it = .ref I ∧ LoopK prog w A target body env I x left Q E s₂) E s₁) E s)
    (hs : ∀ x, foldedSetIterable iter env x = pure x := by intro _; rfl) : wpAny (model prog w) A (exec (.For target iter body [] pos) env) Q E s :=
  wpAny_For (wpAny_mono h (fun _ _ h₁ => wpAny_mono h₁ (fun _ _ h₂ => by obtain ⟨I, x, left, rfl, h⟩ := h₂; exact h) fun _ _ e => e) fun _ _ e => e) hs
theorem iter_range {r : Addr} {a b : Int} {t u v : Tok} {ro : Obj} (F : Fr h₀ env.locals s.heap m) (N : News h₀ env.locals s.heap news) (hr : s.heap.get? r = some ro) (hro : ro = { cls := .type "range", dict := none, data := .fields #[.int a t, .int b u, .int 1 v], slots := #[] })
    (hsmall : Builtin.Range.small a b 1 = true) (hab : a ≤ b)
    (h : ∀ I h', Fr h₀ env.locals h' m → News h₀ env.locals h' ((I, rIt a (b - a)) :: news) → (∀ p ∈ news, p.1 < I) → LoopK prog w A target body env I a (b - a) Q E { s with heap := h' }) :
    wpAny (model prog w) A (pyIter (.ref r)) (fun it s₂ => ∃ I x left, it = .ref I ∧ LoopK prog w A target body env I x left Q E s₂) E s := by
 walk_at "ST"
 case oTag =>
  subst hro
  refine wpAny_pyIter_range hr hsmall ⟨_, _, _, rfl, h _ _ (F.push _) ?_ fun p hp => Heap.lt_size (N p hp).1⟩
  have := N.push F (rIt a (b - a))
  have e : Builtin.Range.rangeSize a b 1 = b - a := by
    unfold Builtin.Range.rangeSize
    simp only [Int.zero_lt_one, if_true]
    split <;> omega
  rw [e]
  exact this
 walk_at "EN"
theorem loop_item {I : Addr} {x left : Int} {g : Obj → List (Addr × Obj)} (F : Fr h₀ env.locals s.heap m) (N : News h₀ env.locals s.heap news) (U : UpdF I (rIt x left) news g) (hl : 0 < left)
    (hE : PassesOwn (model prog w) A env E) (ht : ∀ v, letOwnedTupleGo target (.ref I) v = pure ())
    (h : ∀ h' t tk', Fr h₀ env.locals h' m → News h₀ env.locals h' (g (rIt (x + 1) (left - 1))) →
      wpAny (model prog w) A (assign target env (.int x t)) (fun _ s₂ => wpAny (model prog w) A (execs body env) (PeelPost prog w A target body env I (x + 1) (left - 1) Q E) E s₂) E { s with heap := h', toks := tk' }) :
    LoopK prog w A target body env I x left Q E s := by
 walk_at "ST"
 case oTag =>
  obtain ⟨pre, post, e1, e2, d1, d2⟩ := U.split
  have hI : (I, rIt x left) ∈ news := by rw [e1]; exact List.mem_append_right _ (.head _)
  have hit := (N _ hI).1
  refine codeAny_unfold ?_
  rw [Around.under_of_weight (by rfl) (by rfl)]
  show wpAny _ _ ((forTurn target (.ref I) body [] env).onRaise (fun x => do noteFrame x env; theTreesLotGoes x)) _ _ s
  refine wpAny_noted ?_
  simp only [forTurn]
  refine wpAny_bind (wpAny_standAt (wpAny_bind (wpAny_onRaise ?_)))
  refine wpAny_pyNext_range_item hit hl fun h' hit' hs => ?_
  have ge : h'.get? I = some (rIt (x + 1) (left - 1)) := hit'
  have F' := F.change hs (N _ hI).2.1 (N _ hI).2.2
  have N' : News h₀ env.locals h' (g (rIt (x + 1) (left - 1))) := by
    rw [e2]
    rw [e1] at N
    exact news_set N d1 d2 hs ge
  have z := h h' s.toks (s.toks + 1) F' N'
  refine wpAny_bind (wpAny_of_eq (a := ()) (ht _) ?_)
  refine wpAny_bind (wpAny_mono (wpAny_passesOwn hE z) (fun _ s₂ h₂ => ?_) fun _ _ h' => h')
  refine wpAny_bind (wpAny_mono (wpAny_passesOwn hE h₂) (fun f s₃ h₃ => ?_) fun _ _ h' => h')
  cases f with
  | next => exact wpAny_pure ⟨rfl, h₃⟩
  | cont => exact wpAny_pure ⟨rfl, h₃⟩
  | brk => exact wpAny_pure h₃
  | ret v => exact wpAny_pure h₃
 walk_at "EN"
theorem loop_itemW {I : Addr} {x left : Int} {g : Obj → List (Addr × Obj)} (F : Fr h₀ env.locals s.heap m) (N : News h₀ env.locals s.heap news) (U : UpdF I (rIt x left) news g) (hl : 0 < left)
    (hE : PassesOwn (model prog w) A env E) (ht : ∀ v, letOwnedTupleGo target (.ref I) v = pure ())
    (h : ∀ h' t tk' (W : Flow → Shared → Prop), (∀ f s₃, PeelPost prog w A target body env I (x + 1) (left - 1) Q E f s₃ → W f s₃) → Fr h₀ env.locals h' m → News h₀ env.locals h' (g (rIt (x + 1) (left - 1))) →
      wpAny (model prog w) A (assign target env (.int x t)) (fun _ s₂ => wpAny (model prog w) A (execs body env) W E s₂) E { s with heap := h', toks := tk' }) :
    LoopK prog w A target body env I x left Q E s := loop_item F N U hl hE ht fun h' t tk' F' N' => h h' t tk' _ (fun _ _ z => z) F' N'
theorem loop_done {I : Addr} {x left : Int} {news' : List (Addr × Obj)} (hh : A.handled = none) (F : Fr h₀ env.locals s.heap m) (N : News h₀ env.locals s.heap news) (U : DelF I (rIt x left) news news') (hl : left ≤ 0)
    (h : ∀ h', Fr h₀ env.locals h' m → News h₀ env.locals h' news' → Q .next { s with heap := h' }) : LoopK prog w A target body env I x left Q E s := by
 walk_at "ST"
 case oTag =>
  obtain ⟨hI, d1, d2⟩ := U.split
  have hit := (N _ hI).1
  refine codeAny_unfold ?_
  rw [Around.under_of_weight (by rfl) (by rfl)]
  show wpAny _ _ ((forTurn target (.ref I) body [] env).onRaise (fun x => do noteFrame x env; theTreesLotGoes x)) _ _ s
  refine wpAny_noted ?_
  simp only [forTurn]
  refine wpAny_bind (wpAny_standAt (wpAny_bind (wpAny_onRaise ?_)))
  refine wpAny_pyNext_range_end hh hit hl fun h' hk => ?_
  have F' : Fr h₀ env.locals h' m := by
    obtain ⟨oL, a1, a2, hoL, a3⟩ := F.ns
    refine ⟨⟨oL, a1, a2, hk _ _ (fun e => (N _ hI).2.1 e.symm) hoL, a3⟩, fun b o e => hk b o (fun q => ?_) (F.keep b o e), F.above⟩
    have := (N _ hI).2.2
    rw [← q, e] at this
    cases this
  exact wpAny_pure ⟨rfl, codeAny_block (wpAny_execs_nil (h h' F' fun p hp => ⟨hk _ _ (d2 p hp) (N p (d1 p hp)).1, (N p (d1 p hp)).2⟩))⟩
 walk_at "EN"
end
end
section
section
variable {prog : Program} {w : World} {A : Around} {E : Value → Shared → Prop} {s : Shared} {env : Env} {h₀ : Heap} {m : Str → Option Value} {news : List (Addr × Obj)}
noncomputable def CompAt (prog : Program) (w : World) (A : Around) (env : Env) (scope : Scope) (cl : List (Str × Addr)) (x : Str) (ifs : List PySem.Expr) (elt : PySem.Expr) (dst : Option Str) (Q : Value → Shared → Prop) (E : Value → Shared → Prop) (xv : Value) (s₁ : Shared) : Prop :=
  wpAny (model prog w) A (pyIter xv) (fun it s₂ => ∃ (p : Value → Bool) (F : Value → Value → Prop) (I : Addr) (fp wr : List Addr) (n : Nat) (P : Nat → Value → Prop) (St : Nat → Heap → Prop) (m : Str → Option Value),
    it = .ref I ∧ Walks prog w A I fp wr n P St ∧ n ≤ sizeLine ∧ St 0 s₂.heap ∧ (∀ b ∈ fp, b < s₂.heap.objs.size) ∧ env.locals ∉ wr ∧ s₂.heap.Ns env.locals m ∧ QuietOnC prog w A env scope cl x ifs elt wr P p F s₂ ∧
    (∀ D h' tk ys (vs : List Value), s₂.heap.get? D = none → h'.IsList D ys → h'.PlainList D ys → vs.length = n → (∀ j v, vs[j]? = some v → P j v) → Paired F (vs.filter p) ys.toList →
      h'.Ns env.locals (match dst with | some y => fun z => if z = y then some (.ref D) else m z | none => m) → (∀ b o, (dst ≠ none → b ≠ env.locals) → b ∉ wr → s₂.heap.get? b = some o → h'.get? b = some o) → Q (.ref D) { s₂ with heap := h', toks := tk })) E s₁
theorem comp_go {elt iter : PySem.Expr} {x : Str} {px : Pos} {ifs : List PySem.Expr} {scope : Scope} {cl : List (Str × Addr)} {pos : Pos} {Q : Value → Shared → Prop}
    (hclos : closureFor scope env = pure cl) (hcell : ∀ y ∈ scope.names, y.2 ≠ .cell) (hkind : scope.kind = .function)
    (hnames : ∀ y ∈ scope.names, y.2 = .local → scope.names.lookup y.1 = some .local) (hx : scope.names.lookup x = some .local)
    (h : wpAny (model prog w) A (eval iter env) (fun xv s₁ => CompAt prog w A env scope cl x ifs elt none Q E xv s₁) E s)
    (hs : ∀ x, foldedSetIterable iter env x = pure x) :
    wpAny (model prog w) A (eval (.ListComp elt [⟨.Name x px, iter, ifs, 0⟩] scope pos) env) Q E s := by
 walk_at "ST"
 case oTag =>
  rw [eval_ListComp]
  refine wpAny_comprehension_free (use := none) rfl hs hclos hkind hnames (wpAny_mono h (fun xv s₁ h₁ => wpAny_mono h₁ (fun it s₂ h₂ => ?_) fun _ _ e => e) fun _ _ e => e)
  obtain ⟨p, F, I, fp, wr, n, P, St, m, rfl, W, hsz, hst, hfp, hLw, hn, hq, hQ⟩ := h₂
  refine comp_block_walkC (RR := fun acc C => compPost (model prog w) A E none Q acc C) W hsz p F hcell hkind hx hst hfp hq ?_
  intro D C h' tk m' ys vs hD hC hDC hn' hl hpl hlen hP hF hk
  refine ⟨m', hn', fun h'' hs'' => ?_⟩
  have keep : ∀ b o, b ∉ wr → s₂.heap.get? b = some o → h''.get? b = some o := fun b o hbf e => hs''.extBut b o (by rintro rfl; rw [hC] at e; cases e) (hk b o hbf e)
  refine hQ D h'' tk ys vs hD (hl.extBut hs''.extBut hDC) (hpl.extBut hs''.extBut hDC) hlen hP hF ?_ (fun b o _ hbf e => keep b o hbf e)
  exact hn.at' fun o e => keep _ o hLw e
 walk_at "EN"
theorem comp_go_assign {elt iter : PySem.Expr} {x y : Str} {px py : Pos} {ifs : List PySem.Expr} {scope : Scope} {cl : List (Str × Addr)} {pos spos : Pos} {Q : Flow → Shared → Prop}
    (hsw : swapsWith (.ListComp elt [⟨.Name x px, iter, ifs, 0⟩] scope pos) (some (.Name y py)) spos.line env = pure true)
    (hclos : closureFor scope env = pure cl) (hcell : ∀ z ∈ scope.names, z.2 ≠ .cell) (hkind : scope.kind = .function)
    (hnames : ∀ z ∈ scope.names, z.2 = .local → scope.names.lookup z.1 = some .local) (hx : scope.names.lookup x = some .local)
    (hy : env.kindOf y = some .local) (hp : (env.scope.kind == .class || (env.scope.kind == .module && env.locals != env.globals)) = false)
    (h : wpAny (model prog w) A (eval iter env) (fun xv s₁ => CompAt prog w A env scope cl x ifs elt (some y) (fun _ s' => Q .next s') E xv s₁) E s)
    (hs : ∀ x, foldedSetIterable iter env x = pure x) :
    wpAny (model prog w) A (exec (.Assign [.Name y py] (.ListComp elt [⟨.Name x px, iter, ifs, 0⟩] scope pos) spos) env) Q E s := by
 walk_at "ST"
 case oTag =>
  rw [exec_Assign_Name_used _ _ _ _ hsw]
  refine wpAny_bind (wpAny_standAt (wpAny_bind ?_))
  have into : wpAny (model prog w) A (comprehension (.ListComp elt [⟨.Name x px, iter, ifs, 0⟩] scope pos) scope env (firstIterPos [⟨.Name x px, iter, ifs, 0⟩] pos) (newList []) false (eval iter env) (some (assign (.Name y py) env))) (fun _ s' => Q .next s') E s := by
    refine wpAny_comprehension_free rfl hs hclos hkind hnames (wpAny_mono h (fun xv s₁ h₁ => wpAny_mono h₁ (fun it s₂ h₂ => ?_) fun _ _ e => e) fun _ _ e => e)
    obtain ⟨p, F, I, fp, wr, n, P, St, m, rfl, W, hsz, hst, hfp, hLw, hn, hq, hQ⟩ := h₂
    refine comp_block_walkC (RR := fun acc C => compPost (model prog w) A E (some (assign (.Name y py) env)) (fun _ s' => Q .next s') acc C) W hsz p F hcell hkind hx hst hfp hq ?_
    intro D C h' tk m' ys vs hD hC hDC hn' hl hpl hlen hP hF hk
    have apart : ∀ X, s₂.heap.get? X = none → env.locals ≠ X := by
      rintro X hX rfl
      obtain ⟨o, _, _, ho, _⟩ := hn
      rw [hX] at ho
      cases ho
    show wpAny _ A (assign (.Name y py) env (.ref D)) _ _ _
    refine wpAny_assign_Name (wpAny_storeName_local hy (hn.at' fun o e => hk _ o hLw e) (fun h₂ hn₂ hs₂ => ?_) hp)
    refine ⟨m', hn'.sameBut hs₂ (apart C hC).symm, fun h₃ hs₃ => ?_⟩
    refine hQ D h₃ _ ys vs hD ((hl.extBut hs₂.extBut (apart D hD).symm).extBut hs₃.extBut hDC) ((hpl.extBut hs₂.extBut (apart D hD).symm).extBut hs₃.extBut hDC) hlen hP hF (hn₂.sameBut hs₃ (apart C hC)) fun b o hbL hbf e => ?_
    exact hs₃.extBut b o (by rintro rfl; rw [hC] at e; cases e) (hs₂.extBut b o (hbL (by simp)) (hk b o hbf e))
  exact wpAny_bind (wpAny_mono into (fun _ s' hq => wpAny_pure (wpAny_pure hq)) fun _ _ e => e)
 walk_at "EN"
end
noncomputable def intsTo (a : Int) : Nat → List Int
  | 0 => []
  | n + 1 => a :: intsTo (a + 1) n
noncomputable def plainO (ys : List Value) (n : Nat) : Obj := { cls := .type "list", data := .seq ys.toArray n }
section
variable {prog : Program} {w : World} {A : Around} {E : Value → Shared → Prop} {s : Shared} {env : Env} {h₀ : Heap} {m : Str → Option Value} {news : List (Addr × Obj)} {scope : Scope} {cl : List (Str × Addr)} {x : Str} {ifs : List PySem.Expr} {elt : PySem.Expr} {dst : Option Str} {Q : Value → Shared → Prop}
theorem ints_of_get (n : Nat) : ∀ (a : Int) (vs : List Value), vs.length = n → (∀ j v, vs[j]? = some v → j < n ∧ ∃ t, v = .int (a + (j : Nat)) t) → IntsAre vs (intsTo a n) := by
  induction n with
  | zero => intro a vs hl h; rw [List.eq_nil_of_length_eq_zero hl]; exact .nil
  | succ n ih =>
    intro a vs hl h
    cases vs with
    | nil => cases hl
    | cons v vs =>
      obtain ⟨h0, t, e⟩ := h 0 v rfl
      have e' : v = .int a t := e.trans (by rw [show a + ((0 : Nat) : Int) = a from Int.add_zero a])
      subst e'
      refine .cons _ _ (ih (a + 1) vs (Nat.succ.inj hl) fun j v hv => ?_)
      obtain ⟨h1, t', e⟩ := h (j + 1) v hv
      exact ⟨Nat.lt_of_succ_lt_succ h1, t', e.trans (by congr 1; omega)⟩
theorem comp_lands {s₂ : Shared} {D : Addr} {h' : Heap} {tk : Nat} {ys : Array Value} (F : Fr h₀ env.locals s₂.heap m) (N : News h₀ env.locals s₂.heap news) (hD : s₂.heap.get? D = none) (hpl : h'.PlainList D ys)
    (hns : h'.Ns env.locals (match dst with | some y => fun z => if z = y then some (.ref D) else m z | none => m))
    (hk : ∀ b o, b ≠ env.locals → s₂.heap.get? b = some o → h'.get? b = some o) :
    ∃ n, Fr h₀ env.locals h' (match dst with | some y => fun z => if z = y then some (.ref D) else m z | none => m) ∧ News h₀ env.locals h' ((D, plainO ys.toList n) :: news) ∧ ∀ q ∈ news, @Ne Nat q.1 D := by
 walk_at "ST"
 case oTag =>
  obtain ⟨n, hn⟩ := hpl
  have neD : ∀ q ∈ news, q.1 ≠ D := fun q hq e => by have := (N q hq).1; rw [e, hD] at this; cases this
  refine ⟨n, ⟨hns, fun b o e => hk b o (fun q => ?_) (F.keep b o e), F.above⟩, fun p hp => ?_, neD⟩
  · exact absurd (Heap.lt_size e) (by rw [q]; exact Nat.not_lt.mpr F.above)
  · rcases List.mem_cons.mp hp with rfl | hp
    · refine ⟨by rw [hn]; simp [plainO], ?_, ?_⟩
      · rintro e
        obtain ⟨o, _, _, ho, _⟩ := F.ns
        rw [← e] at ho
        have ho' : s₂.heap.get? D = some o := ho
        rw [hD] at ho'
        cases ho'
      · cases e : h₀.get? D with
        | none => rfl
        | some o => have := F.keep D o e; rw [hD] at this; cases this
    · have := N p hp
      exact ⟨hk _ _ this.2.1 this.1, this.2⟩
 walk_at "EN"
theorem compAt_list {ax : Addr} {vs : List Value} (hh : A.handled = none) (F : Fr h₀ env.locals s.heap m) (N : News h₀ env.locals s.heap news) (hl : s.heap.IsList ax vs.toArray) (hsz : vs.length ≤ sizeLine)
    (p : Value → Bool) (R : Value → Value → Prop)
    (tests : ∀ C v s₃ m₃ E', v ∈ vs → s₃.heap.Ns C m₃ → m₃ x = some v → Fr h₀ env.locals s₃.heap m → News h₀ env.locals s₃.heap news →
      wpAny (model prog w) A (forIn ifs true fun c r => if r = true then do let ok ← isTrue c (compEnvC scope cl C env) (eval c (compEnvC scope cl C env)); pure (ForInStep.yield ok) else pure (ForInStep.yield r)) (fun ok s₄ => ok = p v ∧ Keeps s₃ s₄) E' s₃)
    (elem : ∀ C v s₃ m₃ E', v ∈ vs → p v = true → s₃.heap.Ns C m₃ → m₃ x = some v → Fr h₀ env.locals s₃.heap m → News h₀ env.locals s₃.heap news →
      wpAny (model prog w) A (eval elt (compEnvC scope cl C env)) (fun y s₄ => R v y ∧ Keeps s₃ s₄) E' s₃)
    (done : ∀ D h' tk ys n, Fr h₀ env.locals h' (match dst with | some y => fun z => if z = y then some (.ref D) else m z | none => m) → News h₀ env.locals h' ((D, plainO ys n) :: news) → (∀ q ∈ news, @Ne Nat q.1 D) → Paired R (vs.filter p) ys → Q (.ref D) { s with heap := h', toks := tk }) :
    CompAt prog w A env scope cl x ifs elt dst Q E (.ref ax) s := by
 walk_at "ST"
 case oTag =>
  obtain ⟨ol, hol, _⟩ := id hl
  have hne : ax ≠ s.heap.objs.size := Nat.ne_of_lt (Heap.lt_size hol)
  refine wpAny_pyIter_list hl ?_
  have W := Walks.list (prog := prog) (w := w) hh s.heap.objs.size ax hne vs.toArray
  have up : ∀ h' : Heap, (∀ b o, b ∉ [s.heap.objs.size] → (s.heap.push { cls := .type "list_iterator", data := .fields #[.ref ax, .int 0 0] }).get? b = some o → h'.get? b = some o) → ∀ b o, s.heap.get? b = some o → h'.get? b = some o :=
    fun h' hk b o e => hk b o (fun hm => absurd (Heap.lt_size e) (by rw [List.mem_singleton.mp hm]; exact Nat.lt_irrefl _)) (Heap.get?_push_of_some _ e)
  refine ⟨p, R, _, _, _, _, _, _, m, rfl, W, by simpa using hsz, ⟨⟨_, Heap.get?_push_size _ rfl, rfl, rfl⟩, hl.at fun o e => Heap.get?_push_of_some _ e⟩, ?_, ?_, (F.push _).ns, ⟨?_, ?_⟩, ?_⟩
  · intro b hb
    rw [Heap.size_push]
    rcases List.mem_cons.mp hb with rfl | hb
    · exact Nat.lt_succ_self _
    · rw [List.mem_singleton.mp hb]; exact Nat.lt_succ_of_lt (Heap.lt_size hol)
  · intro hm
    have := List.mem_singleton.mp hm
    exact absurd F.ns.lt (this ▸ Nat.lt_irrefl _)
  · intro C i v s₃ m₃ E' _ hP hns hx hk _
    have hk' := up _ hk
    exact tests C v s₃ m₃ E' (by have := List.mem_of_getElem? (show vs[i]? = some v by simpa using hP); exact this) hns hx (F.keeps hk') (N.grown hk')
  · intro C i v s₃ m₃ E' _ hP hp hns hx hk _
    have hk' := up _ hk
    exact elem C v s₃ m₃ E' (by have := List.mem_of_getElem? (show vs[i]? = some v by simpa using hP); exact this) hp hns hx (F.keeps hk') (N.grown hk')
  · intro D h' tk ys vs' hD _ hpl hlen hP hF hns hk
    have e : vs' = vs := by
      refine List.ext_getElem? fun i => ?_
      cases h1 : vs'[i]? with
      | some v => exact (by simpa using (hP i v h1) : vs[i]? = some v).symm
      | none =>
        have : vs.length ≤ i := by have := List.getElem?_eq_none_iff.mp h1; simp at hlen; omega
        exact (List.getElem?_eq_none_iff.mpr this).symm
    subst e
    have hD' : s.heap.get? D = none := by
      cases e : s.heap.get? D with
      | none => rfl
      | some o => have := Heap.get?_push_of_some ({ cls := .type "list_iterator", data := .fields #[.ref ax, .int 0 0] } : Obj) e; rw [hD] at this; cases this
    obtain ⟨n, F', N', ne⟩ := comp_lands (s₂ := s) (tk := tk) F N hD' hpl hns (fun b o hbL e => hk b o (fun _ => hbL) (fun hm => absurd (Heap.lt_size e) (by rw [List.mem_singleton.mp hm]; exact Nat.lt_irrefl _)) (Heap.get?_push_of_some _ e))
    exact done D h' tk ys.toList n F' N' ne hF
 walk_at "EN"
theorem compAt_range {r : Addr} {a b : Int} {t u v : Tok} {ro : Obj} (hh : A.handled = none) (F : Fr h₀ env.locals s.heap m) (N : News h₀ env.locals s.heap news) (hr : s.heap.get? r = some ro)
    (hro : ro = { cls := .type "range", dict := none, data := .fields #[.int a t, .int b u, .int 1 v], slots := #[] }) (hsmall : Builtin.Range.small a b 1 = true) (n : Nat) (hab : b - a = n) (hsz : n ≤ sizeLine)
    (p : Value → Bool) (R : Value → Value → Prop)
    (tests : ∀ C k t s₃ m₃ E', a ≤ k → k < b → s₃.heap.Ns C m₃ → m₃ x = some (.int k t) → Fr h₀ env.locals s₃.heap m → News h₀ env.locals s₃.heap news →
      wpAny (model prog w) A (forIn ifs true fun c r => if r = true then do let ok ← isTrue c (compEnvC scope cl C env) (eval c (compEnvC scope cl C env)); pure (ForInStep.yield ok) else pure (ForInStep.yield r)) (fun ok s₄ => ok = p (.int k t) ∧ Keeps s₃ s₄) E' s₃)
    (elem : ∀ C k t s₃ m₃ E', a ≤ k → k < b → p (.int k t) = true → s₃.heap.Ns C m₃ → m₃ x = some (.int k t) → Fr h₀ env.locals s₃.heap m → News h₀ env.locals s₃.heap news →
      wpAny (model prog w) A (eval elt (compEnvC scope cl C env)) (fun y s₄ => R (.int k t) y ∧ Keeps s₃ s₄) E' s₃)
    (done : ∀ D h' tk ys n vs, Fr h₀ env.locals h' (match dst with | some y => fun z => if z = y then some (.ref D) else m z | none => m) → News h₀ env.locals h' ((D, plainO ys n) :: news) → (∀ q ∈ news, @Ne Nat q.1 D) →
      IntsAre vs (intsTo a (b - a).toNat) → Paired R (vs.filter p) ys → Q (.ref D) { s with heap := h', toks := tk }) :
    CompAt prog w A env scope cl x ifs elt dst Q E (.ref r) s := by
 walk_at "ST"
 case oTag =>
  subst hro
  refine wpAny_pyIter_range hr hsmall ?_
  have e0 : Builtin.Range.rangeSize a b 1 = b - a := by
    unfold Builtin.Range.rangeSize
    simp only [Int.zero_lt_one, if_true]
    split <;> omega
  have W0 := Walks.range (prog := prog) (w := w) hh s.heap.objs.size a 1 n
  have W : Walks prog w A s.heap.objs.size [s.heap.objs.size] [s.heap.objs.size] n (fun i v => i < n ∧ ∃ t, v = .int (a + i) t) (fun i h => IsRangeIter h s.heap.objs.size (a + (i : Nat) * 1) ((n : Int) - (i : Nat)) 1) :=
    ⟨W0.sub, W0.frame, fun i s Q E hi st hQ => W0.item i s Q E hi st (fun v h' tk hP => hQ v h' tk ⟨hi, by obtain ⟨t, rfl⟩ := hP; exact ⟨t, by rw [Int.mul_one]⟩⟩), W0.done, W0.self⟩
  have up : ∀ h' : Heap, (∀ q o, q ∉ [s.heap.objs.size] → (s.heap.push { cls := .type "range_iterator", data := .fields #[rawInt a, rawInt (Builtin.Range.rangeSize a b 1), rawInt 1] }).get? q = some o → h'.get? q = some o) → ∀ q o, s.heap.get? q = some o → h'.get? q = some o :=
    fun h' hk b o e => hk b o (fun hm => absurd (Heap.lt_size e) (by rw [List.mem_singleton.mp hm]; exact Nat.lt_irrefl _)) (Heap.get?_push_of_some _ e)
  refine ⟨p, R, _, _, _, _, _, _, m, rfl, W, hsz, ?_, ?_, ?_, (F.push _).ns, ⟨?_, ?_⟩, ?_⟩
  · have : (s.heap.push { cls := .type "range_iterator", data := .fields #[rawInt a, rawInt (Builtin.Range.rangeSize a b 1), rawInt 1] }).get? s.heap.objs.size = some { cls := .type "range_iterator", data := .fields #[rawInt a, rawInt (Builtin.Range.rangeSize a b 1), rawInt 1] } := Heap.get?_push_size _ rfl
    rw [e0] at this ⊢
    show Heap.get? _ _ = _
    rw [this, hab]
    simp
  · intro b hb
    rw [List.mem_singleton.mp hb, Heap.size_push]
    exact Nat.lt_succ_self _
  · intro hm
    have := List.mem_singleton.mp hm
    exact absurd F.ns.lt (this ▸ Nat.lt_irrefl _)
  · intro C i v s₃ m₃ E' _ hP hns hx hk _
    obtain ⟨hi, t', rfl⟩ := hP
    have hk' := up _ hk
    exact tests C (a + i) t' s₃ m₃ E' (by omega) (by omega) hns hx (F.keeps hk') (N.grown hk')
  · intro C i v s₃ m₃ E' _ hP hp hns hx hk _
    obtain ⟨hi, t', rfl⟩ := hP
    have hk' := up _ hk
    exact elem C (a + i) t' s₃ m₃ E' (by omega) (by omega) hp hns hx (F.keeps hk') (N.grown hk')
  · intro D h' tk ys vs' hD _ hpl hlen hP hF hns hk
    have hi : IntsAre vs' (intsTo a n) := by
      exact ints_of_get n a vs' (by simpa using hlen) hP
    have hD' : s.heap.get? D = none := by
      cases e : s.heap.get? D with
      | none => rfl
      | some o => have := Heap.get?_push_of_some ({ cls := .type "range_iterator", data := .fields #[rawInt a, rawInt (Builtin.Range.rangeSize a b 1), rawInt 1] } : Obj) e; rw [hD] at this; cases this
    obtain ⟨n', F', N', ne⟩ := comp_lands (s₂ := s) (tk := tk) F N hD' hpl hns (fun b o hbL e => hk b o (fun _ => hbL) (fun hm => absurd (Heap.lt_size e) (by rw [List.mem_singleton.mp hm]; exact Nat.lt_irrefl _)) (Heap.get?_push_of_some _ e))
    exact done D h' tk ys.toList n' vs' F' N' ne (by rw [hab]; exact hi) hF
 walk_at "EN"
end
end
section
noncomputable def WhilePost (J : Nat → Shared → Prop) (n : Nat) (Q : Flow → Shared → Prop) (f : Flow) (s : Shared) : Prop := match f with
  | .next => ∃ k, k < n ∧ J k s
  | .cont => ∃ k, k < n ∧ J k s
  | .brk => Q .next s
  | .ret v => Q (.ret v) s
section
variable {prog : Program} {w : World} {A : Around} {E : Value → Shared → Prop} {s : Shared} {env : Env} {Q : Flow → Shared → Prop} {test target : PySem.Expr} {body : List Stmt}
theorem while_J {pos : Pos} (J : Nat → Shared → Prop) (hE : PassesOwn (model prog w) A env E) (n : Nat) (h : J n s)
    (turn : ∀ n s' (W : Flow → Shared → Prop), (∀ f s₃, WhilePost J n Q f s₃ → W f s₃) → J n s' → wpAny (model prog w) A (isTrue test env (eval test env)) (fun b s₂ => if b = true then wpAny (model prog w) A (execs body env) W E s₂ else Q .next s₂) E s') :
    wpAny (model prog w) A (exec (.While test body [] pos) env) Q E s := by
 walk_at "ST"
 case oTag =>
  refine wpAny_While (codeAny_whileLoop J (fun n s' hJ => ?_) n h)
  refine wpAny_passesOwn hE (wpAny_mono (turn n s' (WhilePost J n Q) (fun _ _ h => h) hJ) (fun b s₂ h₂ => ?_) fun _ _ e => e)
  cases b with
  | false => exact wpAny_execs_nil (by simpa using h₂)
  | true =>
    rw [if_pos rfl] at h₂ ⊢
    refine wpAny_passesOwn hE (wpAny_mono h₂ (fun f s₃ h₃ => ?_) fun _ _ e => e)
    cases f <;> exact h₃
 walk_at "EN"
end
end
section
open ZL ZC ZS4
noncomputable def netP (pl fi : Int) (v : Value) : Bool := match v with
  | .int k _ => k != pl && k != fi
  | _ => false
theorem ints_filter {pl fi : Int} {vs : List Value} {ns : List Int} (h : IntsAre vs ns) : IntsAre (vs.filter (netP pl fi)) (ns.filter fun k => k != pl && k != fi) := by
  induction h with
  | nil => exact .nil
  | cons n t _ ih =>
    rw [List.filter_cons, List.filter_cons]
    show IntsAre (if (n != pl && n != fi) = true then _ else _) _
    split
    · exact .cons n t ih
    · exact ih
noncomputable def restL (pl fi : Int) : List Int := [0, 1, 2, 3, 4].filter fun k => k != pl && k != fi
theorem restL_length {pl fi : Int} (h0 : 0 ≤ pl) (h1 : pl < fi) (h2 : fi ≤ 4) : (restL pl fi).length = 3 := by
  have hp : pl = 0 ∨ pl = 1 ∨ pl = 2 ∨ pl = 3 := by omega
  have hf : fi = 1 ∨ fi = 2 ∨ fi = 3 ∨ fi = 4 := by omega
  rcases hp with rfl | rfl | rfl | rfl <;> rcases hf with rfl | rfl | rfl | rfl <;> first | rfl | omega
theorem restL_len {pl a : Int} (h : 0 ≤ pl ∧ pl ≤ 2) : (restL pl (pl + 1 + a.fmod (4 - pl))).length = 3 := by
  have h1 := fmod_lo a (n := 4 - pl) (by omega)
  have h2 := fmod_hi a (n := 4 - pl) (by omega)
  exact restL_length h.1 (by omega) (by omega)
theorem lt_restL {k pl a : Int} (h : 0 ≤ pl ∧ pl ≤ 2) (hk : k < 3) : k < ((restL pl (pl + 1 + a.fmod (4 - pl))).length : Int) := by rw [restL_len h]; exact hk
theorem small_restL {pl a : Int} (h : 0 ≤ pl ∧ pl ≤ 2) : (restL pl (pl + 1 + a.fmod (4 - pl))).length < 2 ^ 62 := by rw [restL_len h]; decide
theorem item_ints {w : World} {A : Around} {E : Value → Shared → Prop} {s : Shared} {h₀ : Heap} {L D : Addr} {news : List (Addr × Obj)} {value slice : PySem.Expr} {ys : List Value} {ns : List Int} {n : Nat} {k : Int} {u : Tok} {Q : Value → Shared → Prop}
    (N : News h₀ L s.heap news) (hm : (D, plainO ys n) ∈ news) (hi : IntsAre ys ns) (h0 : 0 ≤ k) (h1 : k < (ns.length : Int)) (h2 : ns.length < 2 ^ 62) (h : ∀ t, Q (.int (ns.getD k.toNat 0) t) s)
    (hs : subscripted slice false (.ref D) (.int k u) = operate [.ref D, .int k u] (getItem (.ref D) (.int k u)) := by with_unfolding_all rfl) :
    wpAny (model PW w) A (subscriptTail value slice (.ref D) (.int k u)) Q E s := by
  have hl : s.heap.IsList D ys.toArray := ⟨_, N.get hm, rfl, n, rfl⟩
  obtain ⟨t, ht⟩ := hi.get k.toNat (ns.getD k.toNat 0) (by
    have : k.toNat < ns.length := by omega
    simp [List.getD, this])
  exact tail_any hl.typeIs slot_list_getitem.lookup (wpAny_getItem_list hl h0 (by omega) (by simpa using ht) (h t)) hs
theorem net_comp {w : World} {A : Around} {E : Value → Shared → Prop} {s : Shared} {env : Env} {h₀ : Heap} {m : Str → Option Value} {news : List (Addr × Obj)} {scope : Scope} {cl : List (Str × Addr)} {dst : Option Str} {Q : Value → Shared → Prop}
    {p1 p2 p3 p4 p5 p6 p7 p8 : Pos} {r : Addr} {t u v t1 t2 : Tok} {ro o1 o2 : Obj} {c1 c2 : Addr} {pl fi : Int}
    (hh : A.handled = none) (F : Fr h₀ env.locals s.heap m) (N : News h₀ env.locals s.heap news) (hr : s.heap.get? r = some ro)
    (hro : ro = { cls := .type "range", dict := none, data := .fields #[.int 0 t, .int 5 u, .int 1 v], slots := #[] })
    (hk : (relabel scope env).kind = .function) (hx : ∀ C, (compEnvC scope cl C env).kindOf (Str.ofString "other") = some .local)
    (hy1 : ∀ C, (compEnvC scope cl C env).kindOf (Str.ofString "place") = some .cell) (hy2 : ∀ C, (compEnvC scope cl C env).kindOf (Str.ofString "first") = some .cell)
    (hc1 : cl.lookup (Str.ofString "place") = some c1) (hm1 : (c1, o1) ∈ news) (hd1 : o1.data = .cell (some (.int pl t1)))
    (hc2 : cl.lookup (Str.ofString "first") = some c2) (hm2 : (c2, o2) ∈ news) (hd2 : o2.data = .cell (some (.int fi t2)))
    (done : ∀ D h' tk ys n, Fr h₀ env.locals h' (match dst with | some y => fun z => if z = y then some (.ref D) else m z | none => m) → News h₀ env.locals h' ((D, plainO ys n) :: news) → (∀ q ∈ news, @Ne Nat q.1 D) →
      IntsAre ys (restL pl fi) → Q (.ref D) { s with heap := h', toks := tk }) :
    CompAt PW w A env scope cl (Str.ofString "other") [.BoolOp .And [.Compare (.Name (Str.ofString "other") p1) [.NotEq] [.Name (Str.ofString "place") p2] p3, .Compare (.Name (Str.ofString "other") p4) [.NotEq] [.Name (Str.ofString "first") p5] p6] p7]
      (.Name (Str.ofString "other") p8) dst Q E (.ref r) s := by
 walk_at "ST"
 case oTag =>
  refine compAt_range hh F N hr hro (by decide +kernel) 5 (by decide) (by decide +kernel) (netP pl fi) (fun v y => v = y) ?_ ?_ ?_
  · intro C k t' s₃ m₃ E' h0 h1 hns hx' F' N'
    have l1 : ∀ {pos : Pos} {Q' : Value → Shared → Prop} {s' : Shared}, s'.heap = s₃.heap → Q' (.int k t') s' → wpAny (model PW w) A (eval (.Name (Str.ofString "other") pos) (compEnvC scope cl C env)) Q' E' s' :=
      fun e h => wpAny_Name (wpAny_loadName_local hk (hx C) (e ▸ hns) hx' h) (by decide)
    have l2 : ∀ {pos : Pos} {Q' : Value → Shared → Prop} {s' : Shared}, s'.heap = s₃.heap → Q' (.int pl t1) s' → wpAny (model PW w) A (eval (.Name (Str.ofString "place") pos) (compEnvC scope cl C env)) Q' E' s' :=
      fun e h => wpAny_Name (wpAny_loadName_cell hk (hy1 C) hc1 ⟨o1, e ▸ N'.get hm1, hd1⟩ h) (by decide)
    have l3 : ∀ {pos : Pos} {Q' : Value → Shared → Prop} {s' : Shared}, s'.heap = s₃.heap → Q' (.int fi t2) s' → wpAny (model PW w) A (eval (.Name (Str.ofString "first") pos) (compEnvC scope cl C env)) Q' E' s' :=
      fun e h => wpAny_Name (wpAny_loadName_cell hk (hy2 C) hc2 ⟨o2, e ▸ N'.get hm2, hd2⟩ h) (by decide)
    simp only [List.forIn_cons, List.forIn_nil, if_true]
    refine wpAny_bind (wpAny_bind (isTrue_and (wpAny_isTrue_Compare1 (l1 rfl (l2 rfl (PyProof.Rows.ne_int (wpAny_truthy_bool ?_)))))))
    cases hb : (k != pl) with
    | false =>
      rw [if_neg (by simp)]
      exact wpAny_pure (wpAny_pure ⟨by simp [netP, hb], _, _, rfl, fun _ _ e => e⟩)
    | true =>
      rw [if_pos rfl]
      refine isTrue_and (wpAny_isTrue_Compare1 (l1 rfl (l3 rfl (PyProof.Rows.ne_int (wpAny_truthy_bool ?_)))))
      cases hc : (k != fi) with
      | false =>
        rw [if_neg (by simp)]
        exact wpAny_pure (wpAny_pure ⟨by simp [netP, hb, hc], _, _, rfl, fun _ _ e => e⟩)
      | true =>
        rw [if_pos rfl]
        exact isTrue_and_nil (wpAny_pure (wpAny_pure ⟨by simp [netP, hb, hc], _, _, rfl, fun _ _ e => e⟩))
  · intro C k t' s₃ m₃ E' h0 h1 hp hns hx' F' N'
    exact wpAny_Name (wpAny_loadName_local hk (hx C) hns hx' ⟨rfl, _, _, rfl, fun _ _ e => e⟩) (by decide)
  · intro D h' tk ys n vs F' N' ne hi hp
    refine done D h' tk ys n F' N' ne ?_
    have e : vs.filter (netP pl fi) = ys := by
      clear hi F' N' done ne
      generalize vs.filter (netP pl fi) = zs at hp
      induction hp with
      | nil => rfl
      | cons h _ ih => rw [h, ih]
    rw [← e]
    exact ints_filter hi
 walk_at "EN"
example : True := by
  k_with "!MY NET COMP" => (guard_expr onS4 =~ onS4; (k_here; k_dflt (refine' net_comp ?k0_12 ?kF_12 ?kN_12 ?kr_12 ?ko_12 ?kk_12 ?kx_12 ?ky1_12 ?ky2_12 ?c1_12 ?m1_12 ?d1_12 ?c2_12 ?m2_12 ?d2_12 ?_; (case k0_12 => exact rfl); (case kF_12 => k_asm); (case kN_12 => k_asm); (case kr_12 => first | assumption | (exact News.get (by k_asm) (by k_mem))); (case ko_12 => exact rfl); (case kk_12 => exact rfl); (case kx_12 => exact fun _ => rfl); (case ky1_12 => exact fun _ => rfl); (case ky2_12 => exact fun _ => rfl); (case c1_12 => exact rfl); (case c2_12 => exact rfl); (case m1_12 => k_mem); (case m2_12 => k_mem); (case d1_12 => k_asm); (case d2_12 => k_asm); k_whole; intro D''k h''k tk''k ys''k n''k F''k N''k l1'k hi''k; clear l1'k; (try dsimp only at F''k N''k); (try dsimp only))))
  k_with "!subscriptTail" => (guard_expr onS4 =~ onS4; (k_here; (with_reducible show wpAny _ _ (subscriptTail (Expr.Name _ _) _ (Value.ref _) (Value.int _ _)) _ _ _); k_dflt (refine' item_ints ?k1_13 ?k2_13 ?k3_13 ?k4_13 ?k5_13 ?k6_13 ?_ ?k7_13; (case k1_13 => k_asm); (case k2_13 => k_mem); (case k3_13 => assumption); (case k4_13 => exact fmod_lo _ (by decide)); (case k5_13 => exact lt_restL (by decide) (fmod_hi _ (by decide))); (case k6_13 => exact small_restL (by decide)); (case k7_13 => with_unfolding_all rfl); intro tItem'k; (rename News _ _ _ _ => Nd''k; have Nd2''k := News.tail' Nd''k; clear Nd''k))))
  trivial
noncomputable def netF (i pl : Int) : Int := pl + 1 + ((i.fdiv (100 ^ pl.toNat)).fmod 10).fmod (4 - pl)
noncomputable def netS (i pl : Int) : Int := (restL pl (netF i pl)).getD ((((i.fdiv (100 ^ pl.toNat)).fdiv 10).fmod 10).fmod 3).toNat 0
noncomputable def netR (i : Int) (news : List (Addr × Obj)) (v : Value) (n' : List (Addr × Obj)) : Prop :=
  ∃ a b0 b1 b2 b3 b4 t0 t1 t2 u0 u1 u2, v = .ref a ∧ n' = (a, W.listOf #[.ref b0, .ref b1, .ref b2, .ref b3, .ref b4] 0) :: (b0, W.listOf #[.int (netF i 0) t0, .int (netS i 0) u0] 0) :: (b1, W.listOf #[.int (netF i 1) t1, .int (netS i 1) u1] 0) ::
    (b2, W.listOf #[.int (netF i 2) t2, .int (netS i 2) u2] 0) :: (b3, W.listOf #[] 0) :: (b4, W.listOf #[] 0) :: news ∧
    (∀ p ∈ news, p.1 < b0) ∧ @LT.lt Nat _ b0 b1 ∧ @LT.lt Nat _ b1 b2 ∧ @LT.lt Nat _ b2 b3 ∧ @LT.lt Nat _ b3 b4 ∧ @LT.lt Nat _ b4 a
theorem all_lt {news : List (Addr × Obj)} {X d : Nat} (h : ∀ p ∈ news, @LT.lt Nat _ p.1 X) (e : X ≤ d) : ∀ p ∈ news, p.1 < d := fun p hp => Nat.lt_of_lt_of_le (h p hp) e
theorem net_spec (w : World) (i : Int) (t : Tok) (news : List (Addr × Obj)) : Call1 w 149 [.int i t] news (netR i news) := by
 walk_at "ST"
 case oTag =>
  unfold Call1
  intros; rename_i hret
  walk_at "MY ENTERC"
  k_with "exec For Name Call cons nil" => (guard_expr onS4 =~ onS4; (refine for_head ?_))
  k_with "pyIter ref" => (guard_expr onS4 =~ onS4; walk_at "MY ITER")
  k_with "CompAt" => (guard_expr onS4 =~ onS4; walk_at "MY NET COMP")
  k_steps
  repeat (refine ‹∀ f s₃, PeelPost _ _ _ _ _ _ _ _ _ _ _ f s₃ → _› _ _ ?_; k_steps)
  refine hret _ _ _ _ ⟨_, _, _, _, _, _, _, _, _, _, _, _, rfl, rfl, ?_, ?_, ?_, ?_, ?_, ?_⟩ (by k_asm) (by walk_at "MY LEDGER")
  · refine' all_lt ?h ?e; (case h => assumption); (case e => omega)
  all_goals omega
 walk_at "EN"
end
section
open ZL ZS5
noncomputable def isLetter (c : Nat) : Bool := c == 102 || c == 105 || c == 108 || c == 115 || c == 116
noncomputable def TypedInv (w0 w x : Str) : Prop :=
  ∃ pre : List Nat, w0.cps.toList = pre ++ w.cps.toList ∧ (x.cps.toList.flatMap fun c => (mapS c).cps.toList) = pre ∧ (x.cps.toList.all fun c => !b1S c && c != 10 && c != 13 && c != 46) = true ∧
    x.cps.size + w.cps.size ≤ w0.cps.size ∧ (w0.cps.toList.all isLetter) = true ∧ w0.cps.size ≤ 3
noncomputable def stmtIn (i j : Nat) : Stmt := match PW.main.body[i + 1]? with
  | some (.FunctionDef _ _ b _ _ _ _ _ _ _) => b.getD j (.Pass default)
  | _ => .Pass default
noncomputable def scopeOf (i : Nat) : Scope := match PW.main.body[i + 1]? with
  | some (.FunctionDef _ _ _ _ _ _ sc _ _ _) => sc
  | _ => default
noncomputable def pairD : List (PyData × PyData) := [(PyData.str (Str.ofString "fi"), PyData.int 64257), (PyData.str (Str.ofString "fl"), PyData.int 64258), (PyData.str (Str.ofString "st"), PyData.int 64262)]
noncomputable def fontL : List Int := [119808, 119860, 119912, 120016, 120172, 120224, 120276, 120328, 120380, 120432]
noncomputable def typedM (lf dp : Addr) (wd x : Str) (wy : Int) (t1 t2 t3 : Tok) (vs : Option Value) : Str → Option Value := fun y =>
  if y = Str.ofString "way" then some (.int wy t3) else if y = Str.ofString "word" then some (.str wd t1) else if y = Str.ofString "typed" then some (.str x t2) else if y = Str.ofString "fonts" then some (.ref lf) else if y = Str.ofString "pairs" then some (.ref dp) else if y = Str.ofString "size" then vs else none
noncomputable def typedJ (w0 : Str) (h₀ : Heap) (L lf dp : Addr) (news : List (Addr × Obj)) (s : Shared) (n : Nat) (s' : Shared) : Prop :=
  ∃ h tk wd x wy t1 t2 t3 vs, s' = { s with heap := h, toks := tk } ∧ Fr h₀ L h (typedM lf dp wd x wy t1 t2 t3 vs) ∧ News h₀ L h news ∧ TypedInv w0 wd x ∧ n = wd.cps.size
theorem Str.app_list (x y : Str) : (x ++ y).cps.toList = x.cps.toList ++ y.cps.toList := by
  show (x.cps ++ y.cps).toList = _
  exact Array.toList_append
theorem slice_list {x : Str} {n : Nat} (h : n ≤ x.length) : (Txt.slice x (some (n : Int)) none).cps.toList = x.cps.toList.drop n := by
  rw [slice_from_eq (by omega) (by exact_mod_cast h) rfl]
  have : x.length = x.cps.toList.length := by simp [Str.length]
  show ((x.cps.toList.drop n).take ((x.length : Int) - n).toNat) = _
  rw [List.take_of_length_le]
  rw [List.length_drop]; omega
theorem upto_list {x : Str} {n : Nat} (h : n ≤ x.length) : (Txt.slice x none (some (n : Int))).cps.toList = x.cps.toList.take n := by
  rw [beq_iff_eq.mp (slice_closes_toL (x := x) (j := (n : Int)) (by omega) (by exact_mod_cast h))]
  show ((x.cps.toList.drop (0 : Int).toNat).take ((n : Int) - 0).toNat) = _
  simp
theorem typed_turn {w0 wd x sg : Str} {n : Nat} (hinv : TypedInv w0 wd x) (hn : 1 ≤ n) (hle : n ≤ wd.length) (h1 : (sg.cps.toList.flatMap fun c => (mapS c).cps.toList) = wd.cps.toList.take n)
    (h2 : (sg.cps.toList.all fun c => !b1S c && c != 10 && c != 13 && c != 46) = true) (h3 : sg.cps.size ≤ n) :
    TypedInv w0 (Txt.slice wd (some (n : Int)) none) (x ++ sg) ∧ (Txt.slice wd (some (n : Int)) none).cps.size < wd.cps.size := by
 walk_at "ST"
 case oTag =>
  obtain ⟨pre, a1, a2, a3, a4, a5, a6⟩ := hinv
  have hs := slice_list hle
  have hz : (Txt.slice wd (some (n : Int)) none).cps.size = wd.cps.size - n := by rw [← Array.length_toList, hs, List.length_drop, Array.length_toList]
  have hle' : n ≤ wd.cps.size := hle
  refine ⟨⟨pre ++ wd.cps.toList.take n, ?_, ?_, ?_, ?_, a5, a6⟩, by omega⟩
  · rw [hs, a1, List.append_assoc, List.take_append_drop]
  · rw [Str.app_list, List.flatMap_append, a2, h1]
  · rw [Str.app_list, List.all_append, a3, h2]; rfl
  · rw [hz, ← Array.length_toList, Str.app_list, List.length_append, Array.length_toList, Array.length_toList]; omega
 walk_at "EN"
theorem first_letter {w0 wd x : Str} (hinv : TypedInv w0 wd x) (hne : (wd != Str.ofString "") = true) :
    1 ≤ wd.length ∧ isLetter ((Txt.item wd 0).cps.getD 0 0) = true ∧ wd.cps.toList.take 1 = [(Txt.item wd 0).cps.getD 0 0] := by
 walk_at "ST"
 case oTag =>
  obtain ⟨pre, a1, a2, a3, a4, a5, a6⟩ := hinv
  rcases wd with ⟨⟨cs⟩⟩
  rcases cs with _ | ⟨c, cs⟩
  · revert hne; decide
  · have hc : (Txt.item ⟨⟨c :: cs⟩⟩ 0).cps.getD 0 0 = c := by
      simp [Txt.item, Txt.charAt, seqIndex?, Str.length]
    rw [hc]
    refine ⟨by simp [Str.length], ?_, rfl⟩
    rw [a1, List.all_append, Bool.and_eq_true] at a5
    have := a5.2
    rw [List.all_cons, Bool.and_eq_true] at this
    exact this.1
 walk_at "EN"
theorem letter_range {c : Nat} (h : isLetter c = true) : 97 ≤ c ∧ c ≤ 122 := by
  simp only [isLetter, Bool.or_eq_true, beq_iff_eq] at h; omega
noncomputable def signOk (sg : Str) (l : List Nat) : Bool := (sg.cps.toList.flatMap fun c => (mapS c).cps.toList) == l && (sg.cps.toList.all fun c => !b1S c && c != 10 && c != 13 && c != 46) && decide (sg.cps.size ≤ l.length)
theorem typed_go {w0 wd x sg : Str} {n : Nat} {l : List Nat} (hinv : TypedInv w0 wd x) (hl : wd.cps.toList.take n = l) (hll : l.length = n) (hn : 1 ≤ n) (h : signOk sg l = true) :
    TypedInv w0 (Txt.slice wd (some (n : Int)) none) (x ++ sg) ∧ (Txt.slice wd (some (n : Int)) none).cps.size < wd.cps.size := by
  simp only [signOk, Bool.and_eq_true, beq_iff_eq, decide_eq_true_eq] at h
  refine typed_turn hinv hn ?_ (by rw [hl]; exact h.1.1) h.1.2 (by omega)
  have := congrArg List.length hl
  rw [List.length_take, hll] at this
  show n ≤ wd.cps.size
  rw [← Array.length_toList]; omega
theorem sign_plain {c : Nat} (h : isLetter c = true) : signOk ⟨#[c]⟩ [c] = true := by
  simp only [isLetter, Bool.or_eq_true, beq_iff_eq] at h
  rcases h with (((rfl | rfl) | rfl) | rfl) | rfl <;> decide +kernel
theorem sign_upper {c : Nat} (h : isLetter c = true) : signOk ⟨#[((c : Int) - 32).toNat]⟩ [c] = true := by
  simp only [isLetter, Bool.or_eq_true, beq_iff_eq] at h
  rcases h with (((rfl | rfl) | rfl) | rfl) | rfl <;> decide +kernel
theorem sign_font_all : ((List.range 10).all fun r => [102, 105, 108, 115, 116].all fun c => signOk ⟨#[(fontL.getD r 0 + ((c : Nat) : Int) - 97).toNat]⟩ [c]) = true := by decide +kernel
theorem sign_font {c : Nat} {i : Int} (h : isLetter c = true) (hi : i.fmod 12 < 10) : signOk ⟨#[(fontL.getD (i.fmod 12).toNat 0 + (c : Int) - 97).toNat]⟩ [c] = true := by
  have h0 := fmod_lo i (n := 12) (by decide)
  have := List.all_eq_true.mp sign_font_all (i.fmod 12).toNat (List.mem_range.mpr (by omega))
  refine List.all_eq_true.mp this c ?_
  simp only [isLetter, Bool.or_eq_true, beq_iff_eq] at h
  simp only [List.mem_cons, List.not_mem_nil, or_false]; omega
theorem sign_liga : signOk ⟨#[Int.toNat 64257]⟩ [102, 105] = true ∧ signOk ⟨#[Int.toNat 64258]⟩ [102, 108] = true ∧ signOk ⟨#[Int.toNat 64262]⟩ [115, 116] = true := by decide +kernel
theorem liga_take {wd k : Str} (hle : wd.length ≤ 3) (hne : 1 ≤ wd.length) (h : Txt.slice wd none (some 2) = k) (hk : k.length = 2) : wd.cps.toList.take 2 = k.cps.toList := by
  by_cases h2 : 2 ≤ wd.length
  · rw [← h]; exact (upto_list (n := 2) h2).symm
  · have : k.length ≤ wd.length := by rw [← h]; exact Txt.slice_le _ _ _
    omega
theorem item_intsG {w : World} {A : Around} {E : Value → Shared → Prop} {s : Shared} {D : Addr} {value slice : PySem.Expr} {ys : List Value} {ns : List Int} {k : Int} {u : Tok} {Q : Value → Shared → Prop}
    (hl : s.heap.IsList D ys.toArray) (hi : IntsAre ys ns) (h0 : 0 ≤ k) (h1 : k < (ns.length : Int)) (h2 : ns.length < 2 ^ 62) (h : ∀ t, Q (.int (ns.getD k.toNat 0) t) s)
    (hs : subscripted slice false (.ref D) (.int k u) = operate [.ref D, .int k u] (getItem (.ref D) (.int k u)) := by with_unfolding_all rfl) :
    wpAny (model PW w) A (subscriptTail value slice (.ref D) (.int k u)) Q E s := by
  obtain ⟨t, ht⟩ := hi.get k.toNat (ns.getD k.toNat 0) (by
    have : k.toNat < ns.length := by omega
    simp [List.getD, this])
  exact tail_any hl.typeIs slot_list_getitem.lookup (wpAny_getItem_list hl h0 (by omega) (by simpa using ht) (h t)) hs
theorem font_lo {i : Int} : 119808 ≤ fontL.getD (i.fmod 12).toNat 0 ∨ ¬ i.fmod 12 < 10 := by
  by_cases h : i.fmod 12 < 10
  · left
    have h0 := fmod_lo i (n := 12) (by decide)
    have : (i.fmod 12).toNat < 10 := by omega
    generalize (i.fmod 12).toNat = k at this
    revert k; decide
  · exact .inr h
theorem font_hi {i : Int} : fontL.getD (i.fmod 12).toNat 0 ≤ 120432 := by
  have : ∀ k, fontL.getD k 0 ≤ 120432 := fun k => by
    by_cases h : k < 10
    · revert k; decide
    · rw [show fontL.getD k 0 = 0 by simp [List.getD, fontL]; rw [List.getElem?_eq_none (by simp; omega)]; rfl]; decide
  exact this _
example : True := by
  k_with "!subscriptTail Name BinOp ref int" => (guard_expr onS5 =~ onS5; (k_here; k_dflt (refine' item_intsG ?k1_14 ?k2_14 ?k3_14 ?k4_14 ?k5_14 ?_; (case k2_14 => assumption); (case k1_14 => exact ⟨_, News.get (by k_asm) (.head _), rfl, 0, rfl⟩); (case k3_14 => exact fmod_lo _ (by decide)); (case k4_14 => (show _ < (10 : Int); omega)); (case k5_14 => decide); k_whole; intro t''k)))
  trivial
theorem typedM_no {lf dp : Addr} {wd x : Str} {wy : Int} {t1 t2 t3 : Tok} {vs : Option Value} {y : Str} (e1 : ¬ y = Str.ofString "way") (e2 : ¬ y = Str.ofString "word") (e3 : ¬ y = Str.ofString "typed") (e4 : ¬ y = Str.ofString "fonts") (e5 : ¬ y = Str.ofString "pairs") (e6 : ¬ y = Str.ofString "size") :
    typedM lf dp wd x wy t1 t2 t3 vs y = none := by simp only [typedM, e1, e2, e3, e4, e5, e6, if_false]
theorem typed_end {h₀ h : Heap} {L lf dp : Addr} {wd x : Str} {wy : Int} {t1 t2 t3 : Tok} {vs : Option Value} {m : Str → Option Value} (F : Fr h₀ L h m)
    (m1 : m (Str.ofString "way") = some (.int wy t3)) (m2 : m (Str.ofString "word") = some (.str wd t1)) (m3 : m (Str.ofString "typed") = some (.str x t2)) (m4 : m (Str.ofString "fonts") = some (.ref lf))
    (m5 : m (Str.ofString "pairs") = some (.ref dp)) (m6 : m (Str.ofString "size") = vs)
    (m7 : ∀ y, ¬ y = Str.ofString "way" → ¬ y = Str.ofString "word" → ¬ y = Str.ofString "typed" → ¬ y = Str.ofString "fonts" → ¬ y = Str.ofString "pairs" → ¬ y = Str.ofString "size" → m y = none) :
    Fr h₀ L h (typedM lf dp wd x wy t1 t2 t3 vs) := by
  have : m = typedM lf dp wd x wy t1 t2 t3 vs := by
    funext y
    unfold typedM
    split
    · next e => rw [e, m1]
    split
    · next e => rw [e, m2]
    split
    · next e => rw [e, m3]
    split
    · next e => rw [e, m4]
    split
    · next e => rw [e, m5]
    split
    · next e => rw [e, m6]
    apply m7 <;> assumption
  exact this ▸ F
example : True := by
  k_with "!MY TYPED" => (guard_expr onS5 =~ onS5; (exact typed_end ‹Fr _ _ _ _› rfl rfl rfl rfl rfl rfl (fun y e1 e2 e3 e4 e5 e6 => by (repeat (with_reducible refine upd_no (by assumption) ?_)); exact typedM_no e1 e2 e3 e4 e5 e6)))
  trivial
theorem liga_none {k : Str} (h1 : (Spec.lookup (PyData.str k) pairD).isSome = true) (h2 : ¬ k = Str.ofString "fi") (h3 : ¬ k = Str.ofString "fl") (h4 : ¬ k = Str.ofString "st") : False := by
  revert h1
  simp [pairD, Spec.lookup, Spec.same, Ne.symm h2, Ne.symm h3, Ne.symm h4]
example : True := by
  k_with "!MY TTURN" => (guard_expr onS5 =~ onS5; (refine hW _ _ ?_; exact ⟨_, (‹TypedInv _ _ _ ∧ _›).2, _, _, _, _, _, _, _, _, _, rfl, (by walk_at "MY TYPED"), ‹News _ _ _ _›, (‹TypedInv _ _ _ ∧ _›).1, rfl⟩))
  trivial
theorem typed_loop {w : World} {A : Around} {E : Value → Shared → Prop} {s : Shared} {Q : Flow → Shared → Prop} {h₀ : Heap} {L lf dp : Addr} {cd : Value} {news : List (Addr × Obj)} {w0 wd x : Str} {wy : Int} {t1 t2 t3 : Tok} {vs : Option Value} {o : Obj} {kvs : List (Str × Value)} {fs : List Value} {mean : ExcName → Option Value} {mg mb : Str → Option Value}
    (hh : A.handled = none) (X : (KK w.params).In h₀) (T : Top qq LOOSE mean mg mb h₀) (F : Fr h₀ L s.heap (typedM lf dp wd x wy t1 t2 t3 vs)) (N : News h₀ L s.heap ((lf, W.listOf fs.toArray 0) :: (dp, o) :: news)) (hfs : IntsAre fs fontL) (lo : (dp == sysModules) = false) (hd : o.IsDictOf (strKind PW w) kvs) (hf : PyProof.V.FlatPairs PyData.str kvs pairD)
    (hE : PassesOwn (model PW w) A (envOf (Str.ofString "_law_typed") (scopeOf 71) L 170 cd) E) (hinv : TypedInv w0 wd x)
    (done : ∀ x' h' tk' t1' t2' t3' wy' vs', TypedInv w0 (Str.ofString "") x' → Fr h₀ L h' (typedM lf dp (Str.ofString "") x' wy' t1' t2' t3' vs') → News h₀ L h' ((lf, W.listOf fs.toArray 0) :: (dp, o) :: news) → Q .next { s with heap := h', toks := tk' }) :
    wpAny (model PW w) A (exec (stmtIn 71 3) (envOf (Str.ofString "_law_typed") (scopeOf 71) L 170 cd)) Q E s := by
 walk_at "ST"
 case oTag =>
  with_unfolding_all refine while_J (typedJ w0 h₀ L lf dp ((lf, W.listOf fs.toArray 0) :: (dp, o) :: news) s) hE _ ⟨_, s.toks, _, _, _, _, _, _, _, rfl, F, N, hinv, rfl⟩ ?_
  rintro n s' W hW ⟨h, tk, wd, x, wy, t1, t2, t3, vs, rfl, F, N, hinv, rfl⟩
  clear hE
  have hxl : x.length ≤ 3 := by obtain ⟨p, h1, h2, h3, h4, h5, h6⟩ := hinv; show x.cps.size ≤ 3; omega
  have hwl : wd.length ≤ 3 := by obtain ⟨p, h1, h2, h3, h4, h5, h6⟩ := hinv; show wd.cps.size ≤ 3; omega
  by_cases hwe : (wd != Str.ofString "") = true
  · obtain ⟨hw1, hlt, hl1⟩ := first_letter hinv hwe
    obtain ⟨r1, r2⟩ := letter_range hlt
    have f1 := font_lo (i := wy)
    have f2 := font_hi (i := wy)
    k_steps
    · have := typed_go (n := 2) hinv ((liga_take hwl hw1 ‹Txt.slice wd none (some 2) = _› (by decide +kernel)).trans (by decide +kernel)) rfl (by decide) sign_liga.1
      walk_at "MY TTURN"
    · have := typed_go (n := 2) hinv ((liga_take hwl hw1 ‹Txt.slice wd none (some 2) = _› (by decide +kernel)).trans (by decide +kernel)) rfl (by decide) sign_liga.2.1
      walk_at "MY TTURN"
    · have := typed_go (n := 2) hinv ((liga_take hwl hw1 ‹Txt.slice wd none (some 2) = _› (by decide +kernel)).trans (by decide +kernel)) rfl (by decide) sign_liga.2.2
      walk_at "MY TTURN"
    · exact liga_none ‹_› ‹_› ‹_› ‹_›
    all_goals first
      | (have := typed_go (n := 1) hinv hl1 rfl (by decide) (sign_font hlt ‹wy.fmod 12 < 10›); walk_at "MY TTURN")
      | (have := typed_go (n := 1) hinv hl1 rfl (by decide) (sign_upper hlt); walk_at "MY TTURN")
      | (have := typed_go (n := 1) hinv hl1 rfl (by decide) (sign_plain hlt); walk_at "MY TTURN")
  · k_steps
    have : wd = (Str.ofString "") := by simpa using hwe
    subst this
    exact done _ _ _ _ _ _ _ _ hinv (by walk_at "MY TYPED") ‹_›
 walk_at "EN"
end
section
open ZL ZS5b
noncomputable def typedR (w0 : Str) (news : List (Addr × Obj)) (v : Value) (n' : List (Addr × Obj)) : Prop := n' = news ∧ ∃ x t, v = .str x t ∧ TypedInv w0 (Str.ofString "") x
noncomputable def Stop (p : Prop) : Prop := p
theorem Stop.mk {p : Prop} (h : Stop p) : p := h
example : True := by
  k_with "!exec" => (guard_expr onS5b =~ onS5b; (k_here; (with_reducible show wpAny _ _ (exec (Stmt.While _ _ _ _) _) _ _ _); refine Stop.mk ?_))
  trivial
theorem typed_entry {w : World} {A : Around} {E : Value → Shared → Prop} {s : Shared} {Q : Flow → Shared → Prop} {h₀ : Heap} {L lf dp : Addr} {cd : Value} {news : List (Addr × Obj)} {w0 : Str} {wy : Int} {t1 t2 t3 : Tok} {o : Obj} {kvs : List (Str × Value)} {fs : List Value} {mean : ExcName → Option Value} {mg mb m : Str → Option Value}
    (hh : A.handled = none) (X : (KK w.params).In h₀) (T : Top qq LOOSE mean mg mb h₀) (F : Fr h₀ L s.heap m)
    (m1 : m (Str.ofString "way") = some (.int wy t3)) (m2 : m (Str.ofString "word") = some (.str w0 t1)) (m3 : m (Str.ofString "typed") = some (.str (Str.ofString "") t2)) (m4 : m (Str.ofString "fonts") = some (.ref lf))
    (m5 : m (Str.ofString "pairs") = some (.ref dp)) (m6 : m (Str.ofString "size") = none)
    (m7 : ∀ y, ¬ y = Str.ofString "way" → ¬ y = Str.ofString "word" → ¬ y = Str.ofString "typed" → ¬ y = Str.ofString "fonts" → ¬ y = Str.ofString "pairs" → ¬ y = Str.ofString "size" → m y = none)
    (N : News h₀ L s.heap ((lf, W.listOf fs.toArray 0) :: (dp, o) :: news)) (hfs : IntsAre fs fontL) (lo : (dp == sysModules) = false) (hd : o.IsDictOf (strKind PW w) kvs) (hf : PyProof.V.FlatPairs PyData.str kvs pairD)
    (hE : PassesOwn (model PW w) A (envOf (Str.ofString "_law_typed") (scopeOf 71) L 170 cd) E) (hl : (w0.cps.toList.all isLetter) = true) (hs : w0.cps.size ≤ 3)
    (done : ∀ x' h' tk' t1' t2' t3' wy' vs', TypedInv w0 (Str.ofString "") x' → Fr h₀ L h' (typedM lf dp (Str.ofString "") x' wy' t1' t2' t3' vs') → News h₀ L h' ((lf, W.listOf fs.toArray 0) :: (dp, o) :: news) → Q .next { s with heap := h', toks := tk' }) :
    wpAny (model PW w) A (exec (stmtIn 71 3) (envOf (Str.ofString "_law_typed") (scopeOf 71) L 170 cd)) Q E s :=
  typed_loop hh X T (typed_end F m1 m2 m3 m4 m5 m6 m7) N hfs lo hd hf hE ⟨[], rfl, rfl, rfl, by show 0 + _ ≤ _; omega, hl, hs⟩ done
theorem typed_spec (w : World) (w0 : Str) (wy : Int) (t u : Tok) (news : List (Addr × Obj)) (h1 : (w0.cps.toList.all isLetter) = true) (h2 : w0.cps.size ≤ 3) : Call1 w 170 [.str w0 t, .int wy u] news (typedR w0 news) := by
 walk_at "ST"
 case oTag =>
  unfold Call1
  intros; rename_i hret
  walk_at "MY ENTER"
  k_steps
  unfold Stop
  with_unfolding_all refine typed_entry rfl ‹_› ‹_› ‹Fr _ _ _ _› rfl rfl rfl rfl rfl rfl ?m7 ‹News _ _ _ _› ?_ ‹_› ‹_› ‹_› (by passes_own) h1 h2 ?_
  case m7 =>
    intro y e1 e2 e3 e4 e5 e6
    simp only [upd, e3, e4, e5, if_false]
    with_unfolding_all show List.lookup y [(Str.ofString "way", Value.int wy u), (Str.ofString "word", Value.str w0 t)] = none
    simp only [List.lookup, beq_false_of_ne e1, beq_false_of_ne e2]
  · repeat (first | exact .nil | refine .cons _ _ ?_)
  · intro x' h' tk' t1' t2' t3' wy' vs' hi F' N'
    unfold typedM at F'
    k_steps
    exact hret _ _ _ _ ⟨rfl, _, _, rfl, hi⟩ (by k_asm) (by walk_at "MY LEDGER")
 walk_at "EN"
end
section
open PySem.Builtin.Re in
theorem run_end {w : World} {A : Around} {E : Value → Shared → Prop} {s : Shared} {Q : Option Sre.M → Shared → Prop} {m : Sre.M} {K : Nat} {len : Nat → Nat} {r : Option Nat} (hK : K ≤ 16777216 * 16) (h : Ans len r (Sre.M.runFor K m))
    (h1 : ∀ t m', r = some t → m'.start = t → m'.handed = t + len t → Q (some m') s) (h2 : r = none → Q none s) : wpAny (model PW w) A (reRunToEnd m) Q E s := by
 walk_at "ST"
 case oTag =>
  unfold reRunToEnd
  refine wpAny_bind (drive_ok (2 ^ 64) K m (ans_isSome h) (Nat.le_trans hK (by decide)) (by decide) ?_)
  generalize Sre.M.runFor K m = m' at h
  refine wpAny_bind (wpAny_forIn_list _ (fun _ _ s' => s' = s) _ ?_ ?_ _ _ rfl)
  · rintro i rest b s' rfl
    split
    · exact wpAny_bind (wpAny_rule (wpAny_pure rfl))
    · exact wpAny_pure rfl
  · rintro _ s' rfl
    cases r with
    | none => rw [show m'.outcome = _ from h]; exact wpAny_pure (h2 rfl)
    | some t => obtain ⟨e1, e2, e3⟩ := h; rw [e1]; exact wpAny_pure (h1 t m' rfl e2 e3)
 walk_at "EN"
noncomputable def patO (src : Value) (fl : Value) (c : Addr) : Obj := ⟨.type "re.Pattern", none, .fields #[src, fl, .int 0 0, .none, .none, .ref c, .int 0 0], #[]⟩
noncomputable def codeO (vs : Array Value) : Obj := ⟨.type "tuple", none, .seq vs 0, #[]⟩
open PySem.Builtin.Re in
theorem whole_target {w : World} {A : Around} {E : Value → Shared → Prop} {s : Shared} {Q : ReTarget → Shared → Prop} {p c : Addr} {src fl : Value} {vs : Array Value} {x : Str} {t : Tok} {code : Array Nat}
    (hp : s.heap.get? p = some (patO src fl c)) (hc : s.heap.get? c = some (codeO vs)) (hcode : (vs.map reRawOf).map (·.toNat) = code)
    (h : Q { pattern := .ref p, string := .str x t, code := code, text := x.cps, kind := 0, groups := 0, pos := 0, lim := x.cps.size } s) :
    wpAny (model PW w) A (reWholeTarget (.ref p) (.str x t)) Q E s := by
 walk_at "ST"
 case oTag =>
  unfold reWholeTarget
  refine wpAny_bind (wpAny_fieldsOf hp rfl ?_)
  refine wpAny_bind (wpAny_of_eq (show reTextOf (.str x t) = pure (x.cps, 0) from rfl) ?_)
  dsimp only
  have e1 : (reRawNat ((#[src, fl, Value.int 0 0, Value.none, Value.none, Value.ref c, Value.int 0 0] : Array Value).getD 6 .none) == 0 && (0 : Nat) == 1) = false := rfl
  have e2 : (reRawNat ((#[src, fl, Value.int 0 0, Value.none, Value.none, Value.ref c, Value.int 0 0] : Array Value).getD 6 .none) == 1 && (0 : Nat) == 0) = false := rfl
  rw [e1, e2]
  simp only [Bool.false_eq_true, if_false]
  refine wpAny_bind (wpAny_of_eq (show reNoCollectionInside (.str x t) 0 = pure () from rfl) ?_)
  refine wpAny_bind (show wpAny _ _ (reRawItems (.ref c)) _ _ _ from ?_)
  unfold reRawItems
  refine wpAny_bind (wpAny_seqItems hc rfl (wpAny_pure (wpAny_pure ?_)))
  subst hcode
  exact h
 walk_at "EN"
theorem push_item {w : World} {A : Around} {E : Value → Shared → Prop} {s : Shared} {Q : Unit → Shared → Prop} {h₀ : Heap} {L D : Addr} {m : Str → Option Value} {news : List (Addr × Obj)} {ys : List Value} {n : Nat} {v : Value}
    (F : Fr h₀ L s.heap m) (N : News h₀ L s.heap ((D, plainO ys n) :: news)) (hap : ∀ q ∈ news, @Ne Nat q.1 D) (hz : ys.length ≤ 100000)
    (h : ∀ h' n', Fr h₀ L h' m → News h₀ L h' ((D, plainO (ys ++ [v]) n') :: news) → Q () { s with heap := h' }) : wpAny (model PW w) A (updateSeq D (·.push v)) Q E s := by
  have ho := N.get (.head _)
  refine wpAny_updateSeq ho rfl ?_ (by rw [sizeLine_eq]; simp; omega) (by rw [sizeLine_eq]; simp; omega)
  have hs : Heap.SameBut D s.heap (s.heap.update D (Obj.mapSeq (·.push v))) := Heap.SameBut.update ..
  have ho' : (s.heap.update D (Obj.mapSeq (·.push v))).get? D = some (plainO (ys ++ [v]) (n + 1)) := by
    refine (Heap.get?_update_self (Obj.mapSeq (·.push v)) ho rfl).trans ?_
    simp [plainO, Obj.mapSeq]
  exact h _ _ (F.update N (.head _) hs) (N.setHead hap hs ho')
noncomputable def subF (find : Nat → Option Nat) (len : Nat → Nat) (rep text : List Nat) : Nat → Nat → List Nat
  | 0, d => text.drop d
  | n + 1, d => match find d with
    | some t => (text.drop d).take (t - d) ++ rep ++ subF find len rep text n (t + len t)
    | none => text.drop d
theorem Str.app_list' (x y : Str) : (x ++ y).cps.toList = x.cps.toList ++ y.cps.toList := by
  show (x.cps ++ y.cps).toList = _
  exact Array.toList_append
theorem join_flat (u : Str) (hu : u.cps = #[]) : ∀ xs : List Str, (Str.join u xs).cps.toList = xs.flatMap (·.cps.toList)
  | [] => rfl
  | [x] => by simp [Str.join]
  | x :: y :: r => by
    show (x ++ u ++ Str.join u (y :: r)).cps.toList = _
    rw [Str.app_list', Str.app_list', join_flat u hu (y :: r), hu]
    simp
theorem entry_subloop : entryFor table "re.Pattern.sub.loop" = some Builtin.«re.Pattern.sub.loop» := entryFor_of_tree (by kernel_rfl)
structure PatAt (w : World) (p : Addr) (code : Array Nat) : Prop where
  out : ∃ src fl c vs, (KK w.params).lookup p = some (patO src fl c) ∧ (KK w.params).lookup c = some (codeO vs) ∧ (vs.map PySem.Builtin.Re.reRawOf).map (·.toNat) = code
theorem sub_eb {t l : Nat} (h : 1 ≤ l) : (t + l == t) = false := by simp; omega
theorem sub_dt {d t u : Nat} (b : d ≤ t) (e : u = t) (h : ¬ d < u) : t = d := by omega
theorem sub_n {z n d t l : Nat} (hn : z < n + 1 + d) (b1 : d ≤ t) (b2 : 1 ≤ l) : z < n + (t + l) := by omega
theorem sub_len {a b d n : Nat} (h : a = b) (hl : b ≤ 2 * d) (hd : d ≤ n) (hx : n ≤ 1000) : a ≤ 100000 := by omega
theorem sub_len1 {ys : List Value} {v : Value} {b d n : Nat} (h : ys.length = b) (hl : b ≤ 2 * d) (hd : d ≤ n) (hx : n ≤ 1000) : (ys ++ [v]).length ≤ 100000 := by simp; omega
theorem sub_l2 {xs : List Str} {a b : Str} {d t l : Nat} (h : xs.length ≤ 2 * d) (b1 : d ≤ t) (b2 : 1 ≤ l) : ((xs ++ [a]) ++ [b]).length ≤ 2 * (t + l) := by simp; omega
theorem sub_l1 {xs : List Str} {b : Str} {d t l : Nat} (h : xs.length ≤ 2 * d) (b1 : d ≤ t) (b2 : 1 ≤ l) : (xs ++ [b]).length ≤ 2 * (t + l) := by simp; omega
theorem sub_s2 {xs : List Str} {a b : Str} {d t l : Nat} (h : (xs.map (·.length)).sum ≤ 11 * d) (ha : a.length = t - d) (hb : b.length ≤ 10) (b1 : d ≤ t) (b2 : 1 ≤ l) : (((xs ++ [a]) ++ [b]).map (·.length)).sum ≤ 11 * (t + l) := by simp [ha]; omega
theorem sub_s1 {xs : List Str} {b : Str} {d t l : Nat} (h : (xs.map (·.length)).sum ≤ 11 * d) (hb : b.length ≤ 10) (b1 : d ≤ t) (b2 : 1 ≤ l) : ((xs ++ [b]).map (·.length)).sum ≤ 11 * (t + l) := by simp; omega
theorem sub_s3 {xs : List Str} {a : Str} {d n : Nat} (h : (xs.map (·.length)).sum ≤ 11 * d) (ha : a.length = n - d) (hd : d ≤ n) (hx : n ≤ 1000) : ((xs ++ [a]).map (·.length)).sum ≤ 12 * 1000 := by simp [ha]; omega
theorem sub_s4 {z d n : Nat} (h : z ≤ 11 * d) (hd : d ≤ n) (hx : n ≤ 1000) : z ≤ 12 * 1000 := by omega
theorem cut_len {a : Array Nat} {i j : Nat} (h : j ≤ a.size) : (⟨a.extract i j⟩ : Str).length = j - i := by
  show (a.extract i j).size = _
  simp; omega
theorem cut_nil {a : Array Nat} {d : Nat} (h : ¬ d < a.size) : a.toList.drop d = [] := List.drop_of_length_le (by simp; omega)
section
open PySem.Builtin.Re
variable {w : World} {A : Around} {s : Shared} {R : Result → Shared → Prop} {h₀ : Heap} {L D : Addr} {m : Str → Option Value} {news : List (Addr × Obj)} {p : Addr} {code : Array Nat} {x rep : Str} {t u : Tok} {find : Nat → Option Nat} {len : Nat → Nat}
theorem sub_loop (hP : PatAt w p code) (X : (KK w.params).In h₀) (hx : x.cps.size ≤ 1000) (hrep : rep.cps.size ≤ 10) (hrs : rep.length = rep.cps.size)
    (hS : ∀ d, d ≤ x.cps.size → ∃ K, K ≤ 16777216 ∧ Ans len (find d) (Sre.M.runFor K (Sre.forSearch code x.cps 0 d x.cps.size false)))
    (hF : ∀ d t, find d = some t → d ≤ t ∧ 1 ≤ len t ∧ t + len t ≤ x.cps.size) (hap : ∀ q ∈ news, @Ne Nat q.1 D) :
    ∀ (n d : Nat) (s : Shared) (k : Nat) (xs : List Str) (ys : List Value) (t1 t2 t3 t4 : Tok) (nn : Int), x.cps.size < n + d → d ≤ x.cps.size → Fr h₀ L s.heap m → News h₀ L s.heap ((D, plainO ys k) :: news) → StrsAre ys xs → xs.length ≤ 2 * d → (xs.map (·.length)).sum ≤ 11 * d →
      (∀ y h' tk' t', Fr h₀ L h' m → News h₀ L h' news → y.cps.toList = xs.flatMap (·.cps.toList) ++ subF find len rep.cps.toList x.cps.toList n d → R (.ok (.ret (.str y t'))) { s with heap := h', toks := tk' }) →
      codeAny (model PW w) A (.builtin "re.Pattern.sub.loop" ⟨[.ref p, .str x t, .str rep u, .int 0 t1, .int 0 t2, .int nn t3, .int d t4, .int d t4, .bool false, .ref D, .bool false], []⟩) R s := by
 walk_at "ST"
 case oTag =>
  intro n
  induction n with
  | zero => intro d s k xs ys t1 t2 t3 t4 nn hn hd; exact absurd hn (Nat.not_lt.mpr (by rw [Nat.zero_add]; exact hd))
  | succ n ih =>
    intro d s k xs ys t1 t2 t3 t4 nn hn hd F N hi hl hsum done
    obtain ⟨src, fl, c, vs, hp, hc, hcode⟩ := hP.out
    refine codeAny_builtin entry_subloop ?_
    show wpAny _ _ (Builtin.«re.Pattern.sub.loop» _) _ _ s
    unfold Builtin.«re.Pattern.sub.loop»
    dsimp only
    refine wpAny_bind (whole_target ((X.keeps F.keep) p _ hp) ((X.keeps F.keep) c _ hc) hcode ?_)
    rw [if_pos (show ((0 : Int) == 0) = true from rfl)]
    refine wpAny_bind (wpAny_of_eq (show reLiteralCannotBeTurned (.str rep u) = pure () from rfl) ?_)
    refine wpAny_bind ?_
    rw [if_neg (show ¬ (((0 : Int) != 0 && decide (nn ≥ 0)) = true) by simp)]
    obtain ⟨K, hK, hA⟩ := hS d hd
    have en : ((d : Int)).toNat = d := rfl
    rw [en]
    refine run_end (Nat.le_trans hK (by decide)) hA ?_ ?_
    · intro tt m' hfd e1 e2
      obtain ⟨b1, b2, b3⟩ := hF d tt hfd
      dsimp only
      by_cases hlt : d < m'.start
      · rw [if_pos hlt]
        refine wpAny_bind (show wpAny _ _ (mkStr ⟨x.cps.extract d m'.start⟩) _ _ _ from wpAny_mkStr ?_ (by rw [sizeLine_eq]; show (x.cps.extract d m'.start).size ≤ _; simp; omega))
        refine wpAny_bind (push_item F N hap (sub_len hi.length hl hd hx) ?_)
        intro h2 k2 F2 N2
        rw [if_pos (show ((0 : Int) == 0) = true from rfl)]
        refine wpAny_bind (wpAny_pure ?_)
        rw [if_pos (show ((Value.str rep u) != Value.none) = true from rfl)]
        refine wpAny_bind (push_item F2 N2 hap (sub_len1 hi.length hl hd hx) ?_)
        intro h3 k3 F3 N3
        refine wpAny_pure ⟨plainId_quiet (by decide +kernel) _, ?_⟩
        rw [e2, e1]
        have eb : (tt + len tt == tt) = false := sub_eb b2
        rw [eb]
        have hi2 : StrsAre ((ys ++ [Value.str ⟨x.cps.extract d m'.start⟩ s.toks]) ++ [Value.str rep u]) ((xs ++ [⟨x.cps.extract d m'.start⟩]) ++ [rep]) := (hi.append' (.cons _ _ .nil)).append' (.cons _ _ .nil)
        have hxl : (⟨x.cps.extract d m'.start⟩ : Str).length = tt - d := by rw [e1]; exact cut_len (Nat.le_trans (Nat.le_add_right _ _) b3)
        refine ih (tt + len tt) _ _ _ _ _ _ _ _ _ (sub_n hn b1 b2) b3 F3 N3 hi2 (sub_l2 hl b1 b2) (sub_s2 hsum hxl (hrs ▸ hrep) b1 b2) ?_
        intro y h' tk' t' F' N' hy
        refine done y h' tk' t' F' N' ?_
        rw [hy]
        rw [show subF find len rep.cps.toList x.cps.toList (n + 1) d = (x.cps.toList.drop d).take (tt - d) ++ rep.cps.toList ++ subF find len rep.cps.toList x.cps.toList n (tt + len tt) from by
          show (match find d with | some t => _ | none => _) = _
          rw [hfd]]
        rw [e1]
        simp
      · rw [if_neg hlt]
        rw [if_pos (show ((0 : Int) == 0) = true from rfl)]
        refine wpAny_bind (wpAny_pure ?_)
        rw [if_pos (show ((Value.str rep u) != Value.none) = true from rfl)]
        refine wpAny_bind (push_item F N hap (sub_len hi.length hl hd hx) ?_)
        intro h3 k3 F3 N3
        refine wpAny_pure ⟨plainId_quiet (by decide +kernel) _, ?_⟩
        rw [e2, e1]
        have eb : (tt + len tt == tt) = false := sub_eb b2
        rw [eb]
        have hdt : tt = d := sub_dt b1 e1 hlt
        refine ih (tt + len tt) _ _ _ _ _ _ _ _ _ (sub_n hn b1 b2) b3 F3 N3 (hi.append' (.cons _ _ .nil)) (sub_l1 hl b1 b2) (sub_s1 hsum (hrs ▸ hrep) b1 b2) ?_
        intro y h' tk' t' F' N' hy
        refine done y h' tk' t' F' N' ?_
        rw [hy]
        rw [show subF find len rep.cps.toList x.cps.toList (n + 1) d = (x.cps.toList.drop d).take (tt - d) ++ rep.cps.toList ++ subF find len rep.cps.toList x.cps.toList n (tt + len tt) from by
          show (match find d with | some t => _ | none => _) = _
          rw [hfd]]
        rw [hdt]
        simp
    · intro hfd
      dsimp only
      have hend : ∀ (s2 : Shared) (k2 : Nat) (xs2 : List Str) (ys2 : List Value), Fr h₀ L s2.heap m → News h₀ L s2.heap ((D, plainO ys2 k2) :: news) → StrsAre ys2 xs2 → (xs2.map (·.length)).sum ≤ 12 * 1000 →
          (∃ h2 tk2, s2 = { s with heap := h2, toks := tk2 }) → xs2.flatMap (·.cps.toList) = xs.flatMap (·.cps.toList) ++ x.cps.toList.drop d →
          wpAny (model PW w) (A.under (.builtin "re.Pattern.sub.loop" ⟨[.ref p, .str x t, .str rep u, .int 0 t1, .int 0 t2, .int nn t3, .int d t4, .int d t4, .bool false, .ref D, .bool false], []⟩))
            (do
              let joiner ← reSlice x.cps 0 0 0
              let __do_lift ← seqItems? (.ref D)
              if (__do_lift.getD #[]).isEmpty = true then do
                let text ← pure joiner
                if (false : Bool) = true then do
                  let __do_lift ← holding [text] (do newTuple [text, ← mkInt nn])
                  ret __do_lift
                else ret text
              else do
                let text ← call (.builtin (if ((0 : Nat) == 0) = true then "str.join" else "bytes.join")) [joiner, .ref D]
                if (false : Bool) = true then do
                  let __do_lift ← holding [text] (do newTuple [text, ← mkInt nn])
                  ret __do_lift
                else ret text)
            (fun fin s' => match fin with | .done f => R (.ok f) s' | .again c' => c'.quiet = true ∧ codeAny (model PW w) A c' R s') (fun e s' => R (.error e) s') s2 := by
        rintro s2 k2 xs2 ys2 F2 N2 hi2 hsum2 ⟨h2, tk2, rfl⟩ hfl
        have hsub : subF find len rep.cps.toList x.cps.toList (n + 1) d = x.cps.toList.drop d := by unfold subF; rw [hfd]
        refine wpAny_bind (show wpAny _ _ (mkStr ⟨x.cps.extract 0 0⟩) _ _ _ from wpAny_mkStr ?_ (by rw [sizeLine_eq]; show (x.cps.extract 0 0).size ≤ _; simp))
        refine wpAny_bind (wpAny_seqItems (N2.get (.head _)) rfl ?_)
        cases ys2 with
        | nil =>
          cases hi2
          rw [if_pos (by rfl)]
          refine wpAny_bind (wpAny_pure ?_)
          rw [if_neg (by decide)]
          refine wpAny_pure (done _ _ _ _ F2 (News.tail' N2) ?_)
          rw [hsub, ← hfl]; simp
        | cons y1 yr =>
          rw [if_neg (by simp)]
          refine wpAny_bind (join_list ⟨_, N2.get (.head _), rfl, k2, rfl⟩ hi2 (by have e0 : (⟨x.cps.extract 0 0⟩ : Str).length = 0 := (by show (x.cps.extract 0 0).size = 0; simp); rw [e0]; omega) ?_)
          intro t' k'
          rw [if_neg (by decide)]
          refine wpAny_pure (done _ _ _ _ F2 (News.tail' N2) ?_)
          rw [hsub, ← hfl]
          rw [show Txt.join ⟨x.cps.extract 0 0⟩ xs2 = Str.join ⟨x.cps.extract 0 0⟩ xs2 from StrLaws.glued_eq_join _ _]
          exact join_flat _ (by simp) _
      by_cases hlt : d < x.cps.size
      · rw [if_pos hlt]
        have hxl : (⟨x.cps.extract d x.cps.size⟩ : Str).length = x.cps.size - d := cut_len (Nat.le_refl _)
        refine wpAny_bind (show wpAny _ _ (mkStr ⟨x.cps.extract d x.cps.size⟩) _ _ _ from wpAny_mkStr ?_ (by rw [sizeLine_eq]; show (x.cps.extract d x.cps.size).size ≤ _; simp; omega))
        refine wpAny_bind (push_item F N hap (sub_len hi.length hl hd hx) ?_)
        intro h2 k2 F2 N2
        exact hend _ _ _ _ F2 N2 (hi.append' (.cons _ _ .nil)) (sub_s3 hsum hxl hd hx) ⟨_, _, rfl⟩ (by simp; rw [List.take_of_length_le (by simp)])
      · rw [if_neg hlt]
        exact hend _ _ _ _ F N hi (sub_s4 hsum hd hx) ⟨_, _, rfl⟩ (by rw [cut_nil hlt]; simp)
 walk_at "EN"
end
end
section
theorem slot_pat_sub : Slot "re.Pattern" "sub" "re.Pattern.sub" :=
  .of (owner := "re.Pattern") (n := "sub") (by rw [typeLookup_type, builtinLookup_eq_fast]; kernel_rfl) (by decide +kernel) (by decide +kernel) (by decide +kernel)
    (by first | exact .inl (by decide +kernel) | exact .inr (by decide +kernel)) (by rw [isSubtype_type]; kernel_rfl)
theorem type_pat_sub : typeOf (.builtin "re.Pattern.sub") = pure (.type "method_descriptor") := by show builtinType _ = _; rw [builtinType_eq_fast]; kernel_rfl
theorem plainAttrs_pat : PlainAttrs "re.Pattern" :=
  ⟨⟨"object.__getattribute__", by rw [typeLookup_type, builtinLookup_eq_fast]; kernel_rfl, by decide +kernel⟩, by rw [typeLookup_type, builtinLookup_eq_fast]; kernel_rfl⟩
theorem entry_pat_sub : entryFor table "re.Pattern.sub" = some Builtin.«re.Pattern.sub» := entryFor_of_tree (by kernel_rfl)
theorem owner_pat : Manifest.owners.lookup (String.ofList ['n', 'r', 'e', 't', 't', 'a', 'P', '.', 'e', 'r'].reverse) = some Manifest.sig_re_Pattern := by kernel_rfl
theorem args_pat_sub (a b c : Value) : argsOk "re.Pattern.sub" ⟨[a, b, c], []⟩ := by
  unfold argsOk; rw [signature?_of (id := "re.Pattern.sub") (n := ['b', 'u', 's']) (o := ['n', 'r', 'e', 't', 't', 'a', 'P', '.', 'e', 'r']) (by kernel_rfl) owner_pat]; kernel_rfl
theorem str_no_call : typeLookup (.type "str") "__call__" = pure none := by rw [typeLookup_type, builtinLookup_eq_fast]; kernel_rfl
section
open PySem.Builtin.Re
variable {w : World} {A : Around} {s : Shared} {E : Value → Shared → Prop} {Q : Value → Shared → Prop} {h₀ : Heap} {L : Addr} {m : Str → Option Value} {news : List (Addr × Obj)} {p : Addr} {code : Array Nat} {x rep : Str} {t u : Tok} {find : Nat → Option Nat} {len : Nat → Nat}
theorem call_sub (hP : PatAt w p code) (X : (KK w.params).In h₀) (hx : x.cps.size ≤ 1000) (hrep : rep.cps.size ≤ 10) (hrs : rep.length = rep.cps.size) (h92 : rep.cps.contains 92 = false)
    (hS : ∀ d, d ≤ x.cps.size → ∃ K, K ≤ 16777216 ∧ Ans len (find d) (Sre.M.runFor K (Sre.forSearch code x.cps 0 d x.cps.size false)))
    (hF : ∀ d t, find d = some t → d ≤ t ∧ 1 ≤ len t ∧ t + len t ≤ x.cps.size) (F : Fr h₀ L s.heap m) (N : News h₀ L s.heap news)
    (done : ∀ y h' tk' t', Fr h₀ L h' m → News h₀ L h' news → y.cps.toList = subF find len rep.cps.toList x.cps.toList (x.cps.size + 1) 0 → Q (.str y t') { s with heap := h', toks := tk' }) :
    wpAny (model PW w) A (call (.builtin "re.Pattern.sub") [.ref p, .str rep u, .str x t]) Q E s := by
 walk_at "ST"
 case oTag =>
  obtain ⟨src, fl, c, vs, hp, hc, hcode⟩ := hP.out
  have hpo := (X.keeps F.keep) p _ hp
  refine wpAny_call (codeAny_of_tree ?_)
  show wpAny _ _ (do checkBuiltinCall "re.Pattern.sub" ⟨[.ref p, .str rep u, .str x t], []⟩; again (.builtin "re.Pattern.sub" ⟨[.ref p, .str rep u, .str x t], []⟩)) _ _ s
  refine wpAny_bind (slot_pat_sub.check _ _ _ _ _ _ _ _ ⟨_, hpo, rfl⟩ (args_pat_sub _ _ _) ?_)
  refine wpAny_pure ⟨plainId_quiet slot_pat_sub.plain _, codeAny_builtin entry_pat_sub ?_⟩
  show wpAny _ _ (reSubstitute "re.Pattern.sub" "sub" false _) _ _ s
  unfold reSubstitute
  dsimp only
  refine wpAny_bind (wpAny_of_eq (show reNamed "re.Pattern.sub" "sub" ["repl", "string", "count"] 2 [.str rep u, .str x t] [] = pure [some (.str rep u), some (.str x t), none] from rfl) ?_)
  dsimp only
  refine wpAny_bind (wpAny_pure ?_)
  refine wpAny_bind (wpAny_specialOf (T := "str") (v := .str rep u) rfl str_no_call ?_)
  refine wpAny_bind (wpAny_of_eq (show asStr? (.str rep u) = pure (some rep) from rfl) ?_)
  dsimp only
  refine wpAny_bind (wpAny_pure ?_)
  rw [h92]
  rw [if_neg (show ¬ ((none : Option Value).isSome = true) by decide), if_pos (show (!false) = true from rfl)]
  refine wpAny_bind (wpAny_pure ?_)
  dsimp only
  refine wpAny_bind (show wpAny _ _ (reWholeTarget (.ref p) (.str x t)) _ _ _ from whole_target hpo ((X.keeps F.keep) c _ hc) hcode ?_)
  rw [if_neg (show ¬ (((0 : Int) == 1) = true) by decide)]
  refine wpAny_bind (wpAny_newList ?_ (by simp))
  refine wpAny_pure ⟨plainId_quiet (by decide +kernel) _, ?_⟩
  refine sub_loop (D := s.heap.objs.size) (ys := []) (xs := []) (k := 0) hP X hx hrep hrs hS hF (fun q hq => News.apart N q hq) (x.cps.size + 1) 0 _ _ _ _ _ _ (by omega) (by omega) (Fr.push F (plainO [] 0)) (News.push F N (plainO [] 0)) .nil (by simp) (by simp) ?_
  intro y h' tk' t' F' N' hy
  exact done y h' tk' t' F' N' (by rw [hy]; rfl)
 walk_at "EN"
end
end
section
noncomputable def dotL : Bool → List Nat → List Nat
  | _, [] => []
  | b, c :: r => if (b && c == 46) = true then 46 :: 46 :: dotL false r else c :: dotL (c == 10) r
noncomputable def crlfL : List Nat → List Nat
  | [] => []
  | [c] => if (c == 10 || c == 13) = true then [13, 10] else [c]
  | c :: e :: r => if c = 13 ∧ e = 10 then 13 :: 10 :: crlfL r else if (c == 10 || c == 13) = true then 13 :: 10 :: crlfL (e :: r) else c :: crlfL (e :: r)
section
variable {text : Array Nat} {find : Nat → Option Nat} {len : Nat → Nat} {rep : List Nat}
theorem drop_at {d : Nat} (h : d < text.size) : text.toList.drop d = text.getD d 0 :: text.toList.drop (d + 1) := by
  have h' : d < text.toList.length := by simpa using h
  rw [List.drop_eq_getElem_cons h']
  congr 1
  simp [Array.getD, h]
theorem subF_hit {n d : Nat} (h : find d = some d) : subF find len rep text.toList (n + 1) d = rep ++ subF find len rep text.toList n (d + len d) := by
  show (match find d with | some t => _ | none => _) = _
  rw [h]; simp
theorem subF_skip {n d : Nat} (hd : d < text.size) (h : find d = find (d + 1)) (hF : ∀ t, find (d + 1) = some t → d + 1 ≤ t) :
    subF find len rep text.toList (n + 1) d = text.getD d 0 :: subF find len rep text.toList (n + 1) (d + 1) := by
  show (match find d with | some t => _ | none => _) = _ :: (match find (d + 1) with | some t => _ | none => _)
  rw [h]
  cases hf : find (d + 1) with
  | none => exact drop_at hd
  | some t =>
    have := hF t hf
    dsimp only
    rw [drop_at hd, show t - d = (t - (d + 1)) + 1 by omega, List.take_succ_cons]
    simp
noncomputable def find1 (text : Array Nat) (d : Nat) : Option Nat := findDot text (text.size - d + 1) d
noncomputable def find2 (text : Array Nat) (d : Nat) : Option Nat := findNl text (text.size + 1 - d) d
theorem findDot_some : ∀ (n s t : Nat), findDot text n s = some t → s ≤ t ∧ t < text.size
  | 0, _, _, h => by cases h
  | n + 1, s, t, h => by
    unfold findDot at h
    cases hd : dotAt text s with
    | true =>
      rw [hd] at h; cases h
      simp only [dotAt, Bool.and_eq_true, decide_eq_true_eq] at hd
      exact ⟨Nat.le_refl _, hd.1.1⟩
    | false =>
      rw [hd] at h
      have := findDot_some n (s + 1) t h
      exact ⟨by omega, this.2⟩
theorem find1_F (d t : Nat) (h : find1 text d = some t) : d ≤ t ∧ 1 ≤ 1 ∧ t + 1 ≤ text.size := by
  have := findDot_some _ _ _ h
  omega
theorem find2_F (d t : Nat) (h : find2 text d = some t) : d ≤ t ∧ 1 ≤ len2 text t ∧ t + len2 text t ≤ text.size := by
  obtain ⟨h1, h2, h3⟩ := findNl_some _ _ _ h
  by_cases hh : text.getD t 0 = 13 ∧ t + 1 < text.size ∧ text.getD (t + 1) 0 = 10
  · have e : len2 text t = 2 := by unfold len2; rw [if_pos hh]
    rw [e]; omega
  · have e : len2 text t = 1 := by unfold len2; rw [if_neg hh]
    rw [e]; omega
theorem sz_a {s d k : Nat} (h : s - d ≤ k + 1) (hd : d < s) : s - (d + 1) ≤ k := by omega
theorem sz_b {s d k : Nat} (h : s - d ≤ k + 1) (hd : d < s) : s - (d + 2) ≤ k := by omega
theorem sz_c {s d n : Nat} (h : s - d < n + 1) (hd : d < s) : s - (d + 1) < n := by omega
theorem sz_d {s d n : Nat} (h : s - d < n + 1) (hd : d < s) : s - (d + 2) < n := by omega
theorem sz_e {s d n : Nat} (h : s - d < n + 1) (hd : d < s) : s - (d + 1) < n + 1 := by omega
theorem drop_end {d : Nat} (h : ¬ d < text.size) : text.toList.drop d = [] := List.drop_of_length_le (by rw [Array.length_toList]; exact Nat.le_of_not_lt h)
theorem subF_stop {d n : Nat} (hf : find d = none) : subF find len rep text.toList (n + 1) d = text.toList.drop d := by
  show (match find d with | some t => _ | none => _) = _
  rw [hf]
theorem dots_end {d n : Nat} (h : ¬ d < text.size) : subF (find1 text) (fun _ => 1) [46, 46] text.toList (n + 1) d = dotL (d == 0 || text.getD (d - 1) 0 == 10) (text.toList.drop d) := by
  have hf : find1 text d = none := by
    cases h' : find1 text d with
    | none => rfl
    | some t => have := find1_F _ _ h'; omega
  rw [subF_stop hf, drop_end h]; rfl
theorem nls_end {d n : Nat} (h : ¬ d < text.size) : subF (find2 text) (len2 text) [13, 10] text.toList (n + 1) d = crlfL (text.toList.drop d) := by
  have hf : find2 text d = none := by
    cases h' : find2 text d with
    | none => rfl
    | some t => have := find2_F _ _ h'; have := (findNl_some _ _ _ h'); omega
  rw [subF_stop hf, drop_end h]; rfl
theorem find1_no {d : Nat} (hd : d < text.size) (hdot : dotAt text d = false) : find1 text d = find1 text (d + 1) := by
  unfold find1
  rw [show text.size - d + 1 = (text.size - (d + 1) + 1) + 1 by omega]
  show (if _ then _ else _) = _
  rw [hdot]; rfl
theorem find2_no {d : Nat} (hd : d < text.size) (hdot : nlAt text d = false) : find2 text d = find2 text (d + 1) := by
  unfold find2; rw [show text.size + 1 - d = (text.size + 1 - (d + 1)) + 1 by omega]
  show (if _ then (if _ then _ else _) else _) = _
  rw [if_pos hd, hdot]; rfl
theorem find2_yes {d : Nat} (hd : d < text.size) (hdot : nlAt text d = true) : find2 text d = some d := by
  unfold find2; rw [show text.size + 1 - d = (text.size - d) + 1 by omega]
  show (if _ then (if _ then _ else _) else _) = _
  rw [if_pos hd, hdot]; rfl
theorem subF_dots (k : Nat) : ∀ (d n : Nat), text.size - d ≤ k → text.size - d < n → subF (find1 text) (fun _ => 1) [46, 46] text.toList n d = dotL (d == 0 || text.getD (d - 1) 0 == 10) (text.toList.drop d) := by
  induction k with
  | zero =>
    intro d n hk hn
    cases n with
    | zero => exact absurd hn (Nat.not_lt_zero _)
    | succ n => exact dots_end (fun h => Nat.sub_ne_zero_of_lt h (Nat.le_zero.mp hk))
  | succ k ih =>
    intro d n hk hn
    cases n with
    | zero => exact absurd hn (Nat.not_lt_zero _)
    | succ n =>
      by_cases hd : d < text.size
      · rw [drop_at hd]
        cases hdot : dotAt text d with
        | true =>
          have hf : find1 text d = some d := by show (if _ then _ else _) = _; rw [hdot]; rfl
          rw [subF_hit hf, ih (d + 1) n (sz_a hk hd) (sz_c hn hd)]
          simp only [dotAt, Bool.and_eq_true, beq_iff_eq] at hdot
          have hc : ((d == 0 || text.getD (d - 1) 0 == 10) && text.getD d 0 == 46) = true := by rw [hdot.2, hdot.1.2]; rfl
          show _ = (if ((d == 0 || text.getD (d - 1) 0 == 10) && text.getD d 0 == 46) = true then _ else _)
          rw [if_pos hc, Nat.add_sub_cancel, hdot.1.2]
          rfl
        | false =>
          rw [subF_skip hd (find1_no hd hdot) (fun t ht => (find1_F _ _ ht).1), ih (d + 1) (n + 1) (sz_a hk hd) (sz_e hn hd)]
          have hc : ¬ ((d == 0 || text.getD (d - 1) 0 == 10) && text.getD d 0 == 46) = true := by
            intro h
            rw [Bool.and_eq_true] at h
            have : dotAt text d = true := by simp only [dotAt, Bool.and_eq_true, decide_eq_true_eq]; exact ⟨⟨hd, h.2⟩, h.1⟩
            rw [this] at hdot; cases hdot
          show _ = (if ((d == 0 || text.getD (d - 1) 0 == 10) && text.getD d 0 == 46) = true then _ else _)
          rw [if_neg hc, Nat.add_sub_cancel]
          rfl
      · exact dots_end hd
theorem subF_nls (k : Nat) : ∀ (d n : Nat), text.size - d ≤ k → text.size - d < n → subF (find2 text) (len2 text) [13, 10] text.toList n d = crlfL (text.toList.drop d) := by
  induction k with
  | zero =>
    intro d n hk hn
    cases n with
    | zero => exact absurd hn (Nat.not_lt_zero _)
    | succ n => exact nls_end (fun h => Nat.sub_ne_zero_of_lt h (Nat.le_zero.mp hk))
  | succ k ih =>
    intro d n hk hn
    cases n with
    | zero => exact absurd hn (Nat.not_lt_zero _)
    | succ n =>
      by_cases hd : d < text.size
      · rw [drop_at hd]
        cases hdot : nlAt text d with
        | true =>
          rw [subF_hit (find2_yes hd hdot)]
          have hc : (text.getD d 0 == 10 || text.getD d 0 == 13) = true := hdot
          by_cases h2 : text.getD d 0 = 13 ∧ d + 1 < text.size ∧ text.getD (d + 1) 0 = 10
          · have hl : len2 text d = 2 := by unfold len2; rw [if_pos h2]
            rw [hl, ih (d + 2) n (sz_b hk hd) (sz_d hn hd), drop_at h2.2.1, h2.1, h2.2.2]
            rfl
          · have hl : len2 text d = 1 := by unfold len2; rw [if_neg h2]
            rw [hl, ih (d + 1) n (sz_a hk hd) (sz_c hn hd)]
            by_cases h1 : d + 1 < text.size
            · rw [drop_at h1]
              show _ = (if _ then _ else if _ then _ else _)
              rw [if_neg (fun h => h2 ⟨h.1, h1, h.2⟩), if_pos hc]
              rfl
            · rw [drop_end h1]
              show _ = (if _ then _ else _)
              rw [if_pos hc]; rfl
        | false =>
          have hc : ¬ (text.getD d 0 == 10 || text.getD d 0 == 13) = true := by rw [show (text.getD d 0 == 10 || text.getD d 0 == 13) = false from hdot]; decide
          rw [subF_skip hd (find2_no hd hdot) (fun t ht => (find2_F _ _ ht).1), ih (d + 1) (n + 1) (sz_a hk hd) (sz_e hn hd)]
          have h13 : ¬ text.getD d 0 = 13 := by intro h; rw [h] at hc; exact hc rfl
          by_cases h1 : d + 1 < text.size
          · rw [drop_at h1]
            show _ = (if _ then _ else if _ then _ else _)
            rw [if_neg (fun h => h13 h.1), if_neg hc]
          · rw [drop_end h1]
            show _ = (if _ then _ else _)
            rw [if_neg hc]; rfl
      · exact nls_end hd
end
end
section
open ZQuote
noncomputable def quoteL (l : List Nat) : List Nat := dotL true (crlfL l)
theorem pat1 (w : World) : PatAt w 36 code1 := ⟨⟨_, _, 35, _, rfl, rfl, by decide +kernel⟩⟩
theorem pat2 (w : World) : PatAt w 41 code2 := ⟨⟨_, _, 40, _, rfl, rfl, by decide +kernel⟩⟩
theorem pat_method {w : World} {A : Around} {E : Value → Shared → Prop} {s : Shared} {pl : Sem Bool} {Q : Value × List Value → Shared → Prop} {h₀ : Heap} {L : Addr} {m : Str → Option Value} {p : Addr} {code : Array Nat} (hP : PatAt w p code)
    (F : Fr h₀ L s.heap m) (X : (KK w.params).In h₀) (h : Q (.builtin "re.Pattern.sub", [.ref p]) s) : wpAny (model PW w) A (getMethod (.ref p) "sub" pl) Q E s := by
  obtain ⟨src, fl, c, vs, hp, hc, hcode⟩ := hP.out
  have hpo := (X.keeps F.keep) p _ hp
  exact getMethod_builtin ⟨_, hpo, rfl⟩ plainAttrs_pat slot_pat_sub type_pat_sub (fun b e => by injection e with e; subst e; exact ⟨_, hpo, rfl⟩) h
theorem crlf_le : ∀ (n : Nat) (l : List Nat), l.length = n → (crlfL l).length ≤ 2 * l.length
  | _, [], _ => by simp [crlfL]
  | _, [c], _ => by unfold crlfL; split <;> simp
  | n, c :: e :: r, h => by
    unfold crlfL
    have h1 := crlf_le r.length r rfl
    have h2 := crlf_le (r.length + 1) (e :: r) rfl
    split
    · simp only [List.length_cons] at *; omega
    · split
      · simp only [List.length_cons] at *; omega
      · simp only [List.length_cons] at *; omega
  termination_by _ l => l.length
theorem sub1 {w : World} {A : Around} {s : Shared} {E : Value → Shared → Prop} {Q : Value → Shared → Prop} {h₀ : Heap} {L : Addr} {m : Str → Option Value} {news : List (Addr × Obj)} {x : Str} {t u : Tok}
    (X : (KK w.params).In h₀) (hx : x.cps.size ≤ 1000) (F : Fr h₀ L s.heap m) (N : News h₀ L s.heap news)
    (done : ∀ y h' tk' t', y.cps.toList = dotL true x.cps.toList → Fr h₀ L h' m → News h₀ L h' news → Q (.str y t') { s with heap := h', toks := tk' }) :
    wpAny (model PW w) A (call (.builtin "re.Pattern.sub") [.ref 36, .str (Str.ofString "..") u, .str x t]) Q E s :=
  call_sub (find := find1 x.cps) (len := fun _ => 1) (pat1 w) X hx (by decide +kernel) rfl (by decide +kernel) (fun d hd => ⟨_, by omega, code1_search hd⟩) (find1_F) F N fun y h' tk' t' F' N' hy =>
    done y h' tk' t' (by rw [hy, show (Str.ofString "..").cps.toList = [46, 46] by decide +kernel, subF_dots (x.cps.size) 0 _ (by omega) (by omega)]; rfl) F' N'
theorem sub2 {w : World} {A : Around} {s : Shared} {E : Value → Shared → Prop} {Q : Value → Shared → Prop} {h₀ : Heap} {L : Addr} {m : Str → Option Value} {news : List (Addr × Obj)} {x : Str} {t u : Tok}
    (X : (KK w.params).In h₀) (hx : x.cps.size ≤ 1000) (F : Fr h₀ L s.heap m) (N : News h₀ L s.heap news)
    (done : ∀ y h' tk' t', y.cps.toList = crlfL x.cps.toList → Fr h₀ L h' m → News h₀ L h' news → Q (.str y t') { s with heap := h', toks := tk' }) :
    wpAny (model PW w) A (call (.builtin "re.Pattern.sub") [.ref 41, .str (Str.ofString "\r\n") u, .str x t]) Q E s :=
  call_sub (find := find2 x.cps) (len := len2 x.cps) (pat2 w) X hx (by decide +kernel) rfl (by decide +kernel) (fun d hd => ⟨_, by omega, code2_search hd⟩) (find2_F) F N fun y h' tk' t' F' N' hy =>
    done y h' tk' t' (by rw [hy, show (Str.ofString "\r\n").cps.toList = [13, 10] by decide +kernel, subF_nls (x.cps.size) 0 _ (by omega) (by omega)]; rfl) F' N'
theorem crlf_size {y x : Str} (h : y.cps.toList = crlfL x.cps.toList) (hx : x.cps.size ≤ 400) : y.cps.size ≤ 800 := by
  have := crlf_le _ x.cps.toList rfl
  rw [← h] at this
  simp only [Array.length_toList] at this
  omega
example : True := by
  k_with "!getMethod ref" => (guard_expr onQuote =~ onQuote; (k_here; first | ((with_reducible show wpAny _ _ (getMethod (Value.ref 36) _ _) _ _ _); refine pat_method (pat1 _) (by k_asm) (by k_asm) ?_) | ((with_reducible show wpAny _ _ (getMethod (Value.ref 41) _ _) _ _ _); refine pat_method (pat2 _) (by k_asm) (by k_asm) ?_)))
  k_with "!call builtin:re.Pattern.sub" => (guard_expr onQuote =~ onQuote; (k_here; k_dflt (first | ((with_reducible show wpAny _ _ (call (Value.builtin "re.Pattern.sub") [Value.ref 36, _, _]) _ _ _); refine' sub1 ?k1_19 ?k2_19 ?k3_19 ?k4_19 ?_; (case k1_19 => k_asm); (case k3_19 => k_asm); (case k4_19 => k_asm); (case k2_19 => omega); k_whole; intro yy'k h''k tk''k t''k hy'k F''k N''k) | ((with_reducible show wpAny _ _ (call (Value.builtin "re.Pattern.sub") [Value.ref 41, _, _]) _ _ _); refine' sub2 ?k1_19 ?k2_19 ?k3_19 ?k4_19 ?_; (case k1_19 => k_asm); (case k3_19 => k_asm); (case k4_19 => k_asm); (case k2_19 => omega); k_whole; intro yy'k h''k tk''k t''k hy'k F''k N''k; have hyz'k := crlf_size hy'k ‹_›))))
  trivial
theorem quote_end {x y z : Str} (h1 : y.cps.toList = crlfL x.cps.toList) (h2 : z.cps.toList = dotL true y.cps.toList) : z.cps.toList = quoteL x.cps.toList := by
  rw [h2, h1]; rfl
theorem quote_spec (w : World) (x : Str) (t : Tok) (news : List (Addr × Obj)) (hx : x.cps.size ≤ 400) : Call1 w 48 [.str x t] news (fun v n' => n' = news ∧ ∃ y t, v = .str y t ∧ y.cps.toList = quoteL x.cps.toList) := by
 walk_at "ST"
 case oTag =>
  unfold Call1
  intros; rename_i hret
  walk_at "MY ENTER"
  k_steps
  exact hret _ _ _ _ ⟨rfl, _, _, rfl, quote_end ‹_› ‹_›⟩ (by k_asm) (by walk_at "MY LEDGER")
 walk_at "EN"
end
section
noncomputable def endL (k : Int) : List Nat := if k.fmod 3 = 0 then [10] else if k.fmod 3 = 1 then [13] else [13, 10]
noncomputable def mailL : Int → List (List Nat) → List Nat
  | _, [] => []
  | k, r :: rs => endL k ++ (r ++ mailL (k + 1) rs)
noncomputable def nlL (rs : List (List Nat)) : List Nat := rs.flatMap fun r => 13 :: 10 :: r
noncomputable def freeL (r : List Nat) : Bool := r.all fun c => c != 10 && c != 13
noncomputable def stuffL (r : List Nat) : List Nat := match r with | 46 :: _ => 46 :: r | _ => r
noncomputable def seenL (r : List Nat) : List Nat := r.filter fun c => !b1S c
noncomputable def sentL (r : List Nat) : List Nat := seenL (stuffL r)
theorem fmod3 (k : Int) : k.fmod 3 = 0 ∧ (k + 1).fmod 3 = 1 ∨ k.fmod 3 = 1 ∧ (k + 1).fmod 3 = 2 ∨ k.fmod 3 = 2 ∧ (k + 1).fmod 3 = 0 := by
  rw [Int.fmod_eq_emod_of_nonneg _ (show (0 : Int) ≤ 3 by decide), Int.fmod_eq_emod_of_nonneg _ (show (0 : Int) ≤ 3 by decide), Int.add_emod k 1 3]
  have h0 := Int.emod_nonneg k (show (3 : Int) ≠ 0 by decide)
  have h1 := Int.emod_lt_of_pos k (show (0 : Int) < 3 by decide)
  generalize k % 3 = x at *
  have : x = 0 ∨ x = 1 ∨ x = 2 := by omega
  rcases this with rfl | rfl | rfl <;> decide
theorem crlf_cons {c : Nat} {l : List Nat} (h : c ≠ 10 ∧ c ≠ 13) : crlfL (c :: l) = c :: crlfL l := by
  cases l with
  | nil => simp [crlfL, h.1, h.2]
  | cons e r => simp [crlfL, h.1, h.2]
theorem crlf_10 (l : List Nat) : crlfL (10 :: l) = 13 :: 10 :: crlfL l := by
  cases l <;> simp [crlfL]
theorem crlf_13 {l : List Nat} (h : l.head? ≠ some 10) : crlfL (13 :: l) = 13 :: 10 :: crlfL l := by
  cases l with
  | nil => simp [crlfL]
  | cons e r =>
    have : e ≠ 10 := fun q => h (by rw [q]; rfl)
    simp [crlfL, this]
theorem crlf_1310 (l : List Nat) : crlfL (13 :: 10 :: l) = 13 :: 10 :: crlfL l := by simp [crlfL]
theorem crlf_free : ∀ (r l : List Nat), freeL r = true → crlfL (r ++ l) = r ++ crlfL l
  | [], l, _ => rfl
  | c :: r, l, h => by
    simp only [freeL, List.all_cons, Bool.and_eq_true, bne_iff_ne, ne_eq] at h
    rw [List.cons_append, crlf_cons ⟨h.1.1, h.1.2⟩, crlf_free r l (by simpa [freeL] using h.2)]; rfl
theorem free_head {r : List Nat} (h : freeL r = true) : r.head? ≠ some 10 := by
  cases r with
  | nil => simp
  | cons c r =>
    simp only [freeL, List.all_cons, Bool.and_eq_true, bne_iff_ne, ne_eq] at h
    simp [h.1.1]
theorem crlf_mail : ∀ (rs : List (List Nat)) (k : Int), (rs.all freeL) = true → crlfL (mailL k rs) = nlL rs
  | [], _, _ => rfl
  | r :: rs, k, h => by
    simp only [List.all_cons, Bool.and_eq_true] at h
    have ih := crlf_mail rs (k + 1) h.2
    have e : nlL (r :: rs) = 13 :: 10 :: (r ++ nlL rs) := by simp [nlL]
    rw [e, ← ih, ← crlf_free r _ h.1]
    show crlfL (endL k ++ (r ++ mailL (k + 1) rs)) = _
    unfold endL
    rcases fmod3 k with ⟨a, b⟩ | ⟨a, b⟩ | ⟨a, b⟩
    · rw [a]; exact crlf_10 _
    · rw [a]
      refine crlf_13 (l := r ++ mailL (k + 1) rs) ?_
      cases r with
      | cons c r => exact free_head (r := c :: r) h.1
      | nil =>
        cases rs with
        | nil => simp [mailL]
        | cons r' rs =>
          show (endL (k + 1) ++ _).head? ≠ _
          unfold endL
          rw [b]; simp
    · rw [a]; exact crlf_1310 _
theorem dot_free : ∀ (r l : List Nat), freeL r = true → dotL false (r ++ l) = r ++ dotL (false) l
  | [], l, _ => rfl
  | c :: r, l, h => by
    simp only [freeL, List.all_cons, Bool.and_eq_true, bne_iff_ne, ne_eq] at h
    have hc : (c == 10) = false := by simpa using h.1.1
    simp only [List.cons_append, dotL, hc, Bool.false_and, if_false, Bool.false_eq_true]
    rw [dot_free r l (by simpa [freeL] using h.2)]
theorem dot_row {r : List Nat} (l : List Nat) (h : freeL r = true) (hl : l.head? ≠ some 46) : dotL true (r ++ l) = stuffL r ++ dotL false l := by
 walk_at "ST"
 case oTag =>
  cases r with
  | nil =>
    cases l with
    | nil => rfl
    | cons e l =>
      have : (e == 46) = false := by simpa using fun q => hl (by rw [q]; rfl)
      simp [dotL, stuffL, this]
  | cons c r =>
    by_cases hc : c = 46
    · subst hc
      simp only [List.cons_append, dotL, stuffL, beq_self_eq_true, Bool.and_self, if_true]
      simp only [freeL, List.all_cons, Bool.and_eq_true] at h
      rw [dot_free r l h.2]
    · have hs : stuffL (c :: r) = c :: r := by simp [stuffL, hc]
      have h' := h
      simp only [freeL, List.all_cons, Bool.and_eq_true, bne_iff_ne, ne_eq] at h
      have h1 : (c == 10) = false := by simpa using h.1.1
      have h2 : (c == 46) = false := by simpa using hc
      rw [hs]
      simp only [List.cons_append, dotL, h1, h2, Bool.and_false, if_false, Bool.false_eq_true]
      rw [dot_free r l (by simpa [freeL] using h.2)]
 walk_at "EN"
theorem dot_nl : ∀ (rs : List (List Nat)), (rs.all freeL) = true → dotL false (nlL rs) = nlL (rs.map stuffL)
  | [], _ => rfl
  | r :: rs, h => by
    simp only [List.all_cons, Bool.and_eq_true] at h
    have e : nlL (r :: rs) = 13 :: 10 :: (r ++ nlL rs) := by simp [nlL]
    have hh : (nlL rs).head? ≠ some 46 := by cases rs <;> simp [nlL]
    rw [e]
    show (13 :: 10 :: dotL true (r ++ nlL rs)) = _
    rw [dot_row _ h.1 hh, dot_nl rs h.2]
    simp [nlL]
theorem quote_mail {r : List Nat} {rs : List (List Nat)} {k : Int} (h : freeL r = true) (hs : (rs.all freeL) = true) : quoteL (r ++ mailL k rs) = stuffL r ++ nlL (rs.map stuffL) := by
  have hh : (nlL rs).head? ≠ some 46 := by cases rs <;> simp [nlL]
  unfold quoteL
  rw [crlf_free _ _ h, crlf_mail rs k hs, dot_row _ h hh, dot_nl rs hs]
theorem b1_10 : b1S 10 = false := by decide +kernel
theorem b1_13 : b1S 13 = false := by decide +kernel
theorem seen_nl : ∀ (rs : List (List Nat)), seenL (nlL rs) = nlL (rs.map seenL)
  | [] => rfl
  | r :: rs => by
    have e : nlL (r :: rs) = 13 :: 10 :: (r ++ nlL rs) := by simp [nlL]
    have e' : nlL ((r :: rs).map seenL) = 13 :: 10 :: (seenL r ++ nlL (rs.map seenL)) := by simp [nlL]
    rw [e, e', ← seen_nl rs]
    simp [seenL, List.filter_append, b1_10, b1_13]
theorem seen_mail {r : List Nat} {rs : List (List Nat)} {k : Int} (h : freeL r = true) (hs : (rs.all freeL) = true) : seenL (quoteL (r ++ mailL k rs)) = sentL r ++ nlL (rs.map sentL) := by
  rw [quote_mail h hs]
  show seenL _ = seenL (stuffL r) ++ _
  rw [show seenL (stuffL r ++ nlL (rs.map stuffL)) = seenL (stuffL r) ++ seenL (nlL (rs.map stuffL)) by simp [seenL], seen_nl, List.map_map]
  rfl
theorem stuff_free {r : List Nat} (h : freeL r = true) : freeL (stuffL r) = true := by
  unfold stuffL
  split
  · simp only [freeL, List.all_cons] at h ⊢; simpa using h
  · exact h
theorem seen_free {r : List Nat} (h : freeL r = true) : freeL (seenL r) = true := by
  simp only [freeL, seenL, List.all_eq_true] at h ⊢
  exact fun c hc => h c ((List.mem_filter.mp hc).1)
theorem sent_free {r : List Nat} (h : freeL r = true) : freeL (sentL r) = true := seen_free (stuff_free h)
noncomputable def scanC : Nat → List Nat → List Nat
  | _, [] => []
  | _, [_] => []
  | o, c :: e :: r => if c = 13 ∧ e = 10 then o :: scanC (o + 2) r else scanC (o + 1) (e :: r)
open PySem.StrLaws in
theorem body_hit {x y : Str} {hi limit i : Nat} {st : Array Nat × Nat} (h : ((st.1.size < limit ∧ st.2 ≤ i) ∧ i + y.length ≤ hi) ∧ Builtin.Str.subAt x y i = true) : occBody x y hi limit i st = pure (ForInStep.yield (st.1.push i, i + y.length)) := if_pos h
open PySem.StrLaws in
theorem body_miss {x y : Str} {hi limit i : Nat} {st : Array Nat × Nat} (h : ¬ (((st.1.size < limit ∧ st.2 ≤ i) ∧ i + y.length ≤ hi) ∧ Builtin.Str.subAt x y i = true)) : occBody x y hi limit i st = pure (ForInStep.yield (st.1, st.2)) := if_neg h
open PySem.StrLaws in
theorem occ_scan {x y : Str} (hy : y.cps.toList = [13, 10]) {limit : Nat} : ∀ (n : Nat) (l : List Nat) (o : Nat) (acc : Array Nat) (free : Nat), l.length ≤ n → x.cps.toList.drop o = l → o + l.length = x.length → free ≤ o → acc.size + l.length < limit →
    (forIn (List.range' o (l.length + 1)) (acc, free) (occBody x y x.length limit)).run.fst.toList = acc.toList ++ scanC o l := by
 walk_at "ST"
 case oTag =>
  have hyl : y.length = 2 := by show y.cps.size = 2; rw [← Array.length_toList, hy]; rfl
  intro n
  induction n with
  | zero =>
    intro l o acc free hn hd ho hf hl
    have : l = [] := List.length_eq_zero_iff.mp (by omega)
    subst this
    rw [show ([] : List Nat).length + 1 = 0 + 1 by rfl, List.range'_succ, List.forIn_cons, body_miss (by rw [hyl]; intro h; have := h.1.2; simp at ho; omega)]
    simp [scanC]
  | succ n ih =>
    intro l o acc free hn hd ho hf hl
    rcases l with _ | ⟨c, _ | ⟨e, r⟩⟩
    · exact ih [] o acc free (by simp) hd ho hf hl
    · have hstep := ih [] (o + 1) acc free (by simp) (by rw [← List.drop_drop, hd]; rfl) (by simp at ho ⊢; omega) (by omega) (by simp at hl ⊢; omega)
      rw [show [c].length + 1 = ([] : List Nat).length + 1 + 1 by simp, List.range'_succ, List.forIn_cons]
      rw [body_miss (by rw [hyl]; intro h; have := h.1.2; simp at ho; omega)]
      exact hstep
    · have hsub : Builtin.Str.subAt x y o = decide (c = 13 ∧ e = 10) := by
        rw [subAt_eq, hd, hyl, hy]
        simp only [List.take_succ_cons, List.take_zero]
        by_cases h : c = 13 ∧ e = 10
        · rw [h.1, h.2]; rfl
        · rw [decide_eq_false h]
          refine beq_false_of_ne fun q => h ?_
          injection q with q1 q2
          injection q2 with q2 _
          exact ⟨q1, q2⟩
      by_cases h : c = 13 ∧ e = 10
      · have hst := ih r (o + 2) (acc.push o) (o + 2) (by simp at hn ⊢; omega) (by rw [← List.drop_drop, hd]; rfl) (by simp at ho ⊢; omega) (by omega) (by simp at hl ⊢; omega)
        rw [show (c :: e :: r).length + 1 = r.length + 1 + 1 + 1 by simp, List.range'_succ, List.forIn_cons]
        rw [body_hit ⟨⟨⟨by simp at hl ⊢; omega, hf⟩, by rw [hyl]; simp at ho; omega⟩, by rw [hsub]; exact decide_eq_true h⟩]
        rw [hyl, pure_bind]
        show (forIn (List.range' (o + 1) (r.length + 1 + 1)) (acc.push o, o + 2) (occBody x y x.length limit)).run.fst.toList = _
        rw [List.range'_succ, List.forIn_cons, body_miss (by intro h; have := h.1.1.2; simp at this)]
        rw [pure_bind]
        show (forIn (List.range' (o + 2) (r.length + 1)) (acc.push o, o + 2) (occBody x y x.length limit)).run.fst.toList = _
        rw [hst]
        simp [scanC, h.1, h.2]
      · have hst := ih (e :: r) (o + 1) acc free (by simp at hn ⊢; omega) (by rw [← List.drop_drop, hd]; rfl) (by simp at ho ⊢; omega) (by omega) (by simp at hl ⊢; omega)
        rw [show (c :: e :: r).length + 1 = (e :: r).length + 1 + 1 by simp, List.range'_succ, List.forIn_cons]
        rw [body_miss (by intro q; rw [hsub] at q; exact h (of_decide_eq_true q.2))]
        refine Eq.trans hst ?_
        rw [show scanC o (c :: e :: r) = scanC (o + 1) (e :: r) by simp only [scanC]; rw [if_neg h]]
 walk_at "EN"
noncomputable def cutsR : Nat → List (List Nat) → List Nat
  | _, [] => []
  | p, r :: rs => p :: cutsR (p + 2 + r.length) rs
theorem scan_free : ∀ (r l : List Nat) (o : Nat), freeL r = true → scanC o (r ++ l) = scanC (o + r.length) l
  | [], l, o, _ => rfl
  | c :: r, l, o, h => by
    simp only [freeL, List.all_cons, Bool.and_eq_true, bne_iff_ne, ne_eq] at h
    have ih := scan_free r l (o + 1) (by simpa [freeL] using h.2)
    rw [List.length_cons, show o + (r.length + 1) = o + 1 + r.length by omega, ← ih, List.cons_append]
    cases hr : r ++ l with
    | nil => simp [scanC]
    | cons e q => simp [scanC, h.1.2]
theorem scan_rows : ∀ (rs : List (List Nat)) (o : Nat), (rs.all freeL) = true → scanC o (nlL rs) = cutsR o rs
  | [], _, _ => rfl
  | r :: rs, o, h => by
    simp only [List.all_cons, Bool.and_eq_true] at h
    have e : nlL (r :: rs) = 13 :: 10 :: (r ++ nlL rs) := by simp [nlL]
    rw [e]
    show scanC o (13 :: 10 :: _) = _
    simp only [scanC, and_self, if_true]
    rw [scan_free r _ _ h.1, scan_rows rs _ h.2]
    rfl
open PySem.StrLaws in
theorem parts_rows (x : Str) : ∀ (rs : List (List Nat)) (r : List Nat) (a : Nat), x.cps.toList.drop a = r ++ nlL rs → a + (r ++ nlL rs).length = x.length → (partsFrom x 2 a (cutsR (a + r.length) rs)).map (fun z => z.cps.toList) = r :: rs
  | [], r, a, hd, hl => by
    simp only [cutsR, partsFrom, List.map_cons, List.map_nil]
    rw [strSub_toList, hd]
    simp only [nlL, List.flatMap_nil, List.append_nil] at hl ⊢
    rw [List.take_of_length_le (by omega)]
  | q :: rs, r, a, hd, hl => by
    have e : nlL (q :: rs) = 13 :: 10 :: (q ++ nlL rs) := by simp [nlL]
    simp only [cutsR, partsFrom, List.map_cons]
    rw [strSub_toList, hd, show a + r.length - a = r.length by omega, List.take_left']
    · congr 1
      rw [show a + r.length + 2 + q.length = a + r.length + 2 + q.length by rfl]
      refine parts_rows x rs q (a + r.length + 2) ?_ ?_
      · rw [show a + r.length + 2 = a + (r.length + 2) by omega, ← List.drop_drop, hd, e, ← List.drop_drop, List.drop_left']
        · rfl
        · rfl
      · rw [e] at hl
        simp only [List.length_append, List.length_cons] at hl ⊢; omega
    · rfl
open PySem.StrLaws in
theorem split_rows {x y : Str} (hy : y = Str.ofString "\r\n") {r : List Nat} {rs : List (List Nat)} (h : x.cps.toList = r ++ nlL rs) (hr : freeL r = true) (hs : (rs.all freeL) = true) : (Txt.split x y).map (fun z => z.cps.toList) = r :: rs := by
 walk_at "ST"
 case oTag =>
  have hyc : y.cps.toList = [13, 10] := by rw [hy]; decide +kernel
  have hyl : y.length = 2 := by show y.cps.size = 2; rw [← Array.length_toList, hyc]; rfl
  have hyk : Builtin.Str.strKind y = 1 := by rw [hy]; decide +kernel
  have hxl : (r ++ nlL rs).length = x.length := by rw [← h]; simp [Str.length]
  have hk1 : ¬ Builtin.Str.strKind x < 1 := by
    unfold Builtin.Str.strKind
    split
    · omega
    · split <;> omega
  have hocc : Builtin.Str.occurrences x y 0 x.length (x.length + 1) = cutsR r.length rs := by
    rw [occ_eq]
    have := occ_scan (x := x) hyc (limit := x.length + 1) x.length (x.cps.toList) 0 #[] 0 (by simp [Str.length]) rfl (by simp [Str.length]) (Nat.le_refl _) (by simp [Str.length])
    rw [show x.length + 1 - 0 = x.cps.toList.length + 1 by simp [Str.length]]
    rw [this, h, scan_free r _ 0 hr, scan_rows rs _ hs]
    simp
  unfold Txt.split
  rw [hyl, hyk, hocc]
  have hone : rs = [] → [x].map (fun z => z.cps.toList) = r :: rs := by
    intro q; subst q
    simp only [List.map_cons, List.map_nil, h]
    simp [nlL]
  split
  · next hc =>
    refine hone ?_
    simp only [Bool.or_eq_true, decide_eq_true_eq] at hc
    have : x.length < 2 := by
      rcases hc with hc | hc
      · exact hc
      · exact absurd hc hk1
    cases rs with
    | nil => rfl
    | cons q rs => simp [nlL] at hxl; omega
  · split
    · next hc =>
      refine hone ?_
      cases rs with
      | nil => rfl
      | cons q rs => simp [cutsR] at hc
    · rw [partsBetween_eq]
      have := parts_rows x rs r 0 (by rw [List.drop_zero]; exact h) (by omega)
      rwa [Nat.zero_add] at this
 walk_at "EN"
end
section
open ZL ZSent
noncomputable def toL (x : Str) : List Nat := x.cps.toList
structure SentPre (ys : List Str) : Prop where
  ne : 1 ≤ ys.length
  few : ys.length ≤ 9
  size : (ys.map fun x => x.cps.size).sum ≤ 370
  free : ((ys.map toL).all freeL) = true
noncomputable def sentR (D : Addr) (vs : List Value) (k : Nat) (ys : List Str) (news : List (Addr × Obj)) (v : Value) (n' : List (Addr × Obj)) : Prop :=
  ∃ D' vs' k' ys', v = .ref D' ∧ n' = (D', plainO vs' k') :: (D, plainO vs k) :: news ∧ @LT.lt Nat _ D D' ∧ (∀ p ∈ news, @LT.lt Nat _ p.1 D') ∧ StrsAre vs' ys' ∧ ys'.map toL = (ys.map toL).map sentL
theorem strs_get {vs : List Value} {ys : List Str} (h : StrsAre vs ys) : ∀ (n : Nat), n < ys.length → ∃ t, vs[n]? = some (.str (ys.getD n (Str.ofString "")) t) := by
  induction h with
  | nil => intro n h; exact absurd h (Nat.not_lt_zero _)
  | cons y t r ih =>
    intro n h
    cases n with
    | zero => exact ⟨t, rfl⟩
    | succ n =>
      obtain ⟨t, e⟩ := ih n (Nat.lt_of_succ_lt_succ h)
      exact ⟨t, by simpa using e⟩
theorem strs_len {vs : List Value} {ys : List Str} (h : StrsAre vs ys) : vs.length = ys.length := by
  induction h with
  | nil => rfl
  | cons y t r ih => exact congrArg Nat.succ ih
theorem row_size : ∀ (ys : List Str) (n : Nat), (ys.getD n (Str.ofString "")).cps.size ≤ (ys.map fun x => x.cps.size).sum
  | [], n => by
    rw [show ([] : List Str).getD n (Str.ofString "") = Str.ofString "" by simp]
    decide
  | y :: ys, 0 => by simp
  | y :: ys, n + 1 => by
    have := row_size ys n
    simp only [List.map_cons, List.sum_cons, List.getD_cons_succ]; omega
theorem pre_row {ys : List Str} (h : SentPre ys) (n : Nat) : (ys.getD n (Str.ofString "")).length ≤ 370 := Nat.le_trans (row_size ys n) h.size
theorem item_strs {w : World} {A : Around} {E : Value → Shared → Prop} {s : Shared} {D : Addr} {value slice : PySem.Expr} {vs : List Value} {ys : List Str} {k : Int} {u : Tok} {Q : Value → Shared → Prop}
    (hl : s.heap.IsList D vs.toArray) (hi : StrsAre vs ys) (h0 : 0 ≤ k) (h1 : k < (ys.length : Int)) (h3 : SentPre ys) (h : ∀ t x, x = ys.getD k.toNat (Str.ofString "") → x.length ≤ 370 → Q (.str x t) s)
    (hs : subscripted slice false (.ref D) (.int k u) = operate [.ref D, .int k u] (getItem (.ref D) (.int k u)) := by with_unfolding_all rfl) :
    wpAny (model PW w) A (subscriptTail value slice (.ref D) (.int k u)) Q E s := by
  obtain ⟨t, ht⟩ := strs_get hi k.toNat (by omega)
  exact tail_any hl.typeIs slot_list_getitem.lookup (wpAny_getItem_list hl h0 (by have := h3.few; omega) (by simpa using ht) (h t _ rfl (pre_row h3 _))) hs
theorem pre_ne {ys : List Str} (h : SentPre ys) : (0 : Int) < (ys.length : Int) := by have := h.ne; omega
theorem pre_few {ys : List Str} (h : SentPre ys) : ys.length < 2 ^ 62 := by have := h.few; omega
example : True := by
  k_with "!subscriptTail Name Constant ref int" => (guard_expr onSent =~ onSent; (k_here; k_dflt (refine' item_strs ?k1_20 ?k2_20 ?k3_20 ?k4_20 ?k5_20 ?_; (case k2_20 => assumption); (case k1_20 => exact ⟨_, News.get (by k_asm) (by k_mem), rfl, _, rfl⟩); (case k3_20 => decide); (case k4_20 => exact pre_ne ‹_›); (case k5_20 => assumption); k_whole; intro t''k xr'k hxr'k hxl'k)))
  trivial
theorem len_strs {w : World} {A : Around} {E : Value → Shared → Prop} {s : Shared} {D : Addr} {vs : List Value} {ys : List Str} {Q : Value → Shared → Prop}
    (hl : s.heap.IsList D vs.toArray) (hi : StrsAre vs ys) (h2 : ys.length < 2 ^ 62) (h : ∀ t tk, Q (.int (ys.length : Int) t) { s with toks := tk }) : wpAny (model PW w) A (call (.builtin "len") [.ref D]) Q E s := by
  have e := strs_len hi
  refine call_len_list hl (by simp only [List.size_toArray, e]; omega) ?_
  simp only [List.size_toArray, e]
  exact h _ _
example : True := by
  k_with "!call builtin:len" => (guard_expr onSent =~ onSent; (k_here; (with_reducible show wpAny _ _ (call (Value.builtin "len") [Value.ref _]) _ _ _); k_dflt (refine' len_strs ?k1_21 ?k2_21 ?k5_21 ?_; (case k2_21 => assumption); (case k1_21 => exact ⟨_, News.get (by k_asm) (by k_mem), rfl, _, rfl⟩); (case k5_21 => exact pre_few ‹_›); k_whole; intro t''k tk''k)))
  trivial
noncomputable def endsS : List Str := [Str.ofString "\n", Str.ofString "\r", Str.ofString "\r\n"]
theorem endsS_at (k : Int) : toL (endsS.getD (k.fmod 3).toNat (Str.ofString "")) = endL k ∧ (endsS.getD (k.fmod 3).toNat (Str.ofString "")).length ≤ 2 := by
  unfold endL
  rcases fmod3 k with ⟨a, b⟩ | ⟨a, b⟩ | ⟨a, b⟩ <;> rw [a] <;> decide +kernel
theorem item_ends {w : World} {A : Around} {E : Value → Shared → Prop} {s : Shared} {D : Addr} {value slice : PySem.Expr} {vs : List Value} {k : Int} {u : Tok} {Q : Value → Shared → Prop}
    (hl : s.heap.IsList D vs.toArray) (hi : StrsAre vs endsS) (h : ∀ t x, toL x = endL k → x.length ≤ 2 → Q (.str x t) s)
    (hs : subscripted slice false (.ref D) (.int (k.fmod 3) u) = operate [.ref D, .int (k.fmod 3) u] (getItem (.ref D) (.int (k.fmod 3) u)) := by with_unfolding_all rfl) :
    wpAny (model PW w) A (subscriptTail value slice (.ref D) (.int (k.fmod 3) u)) Q E s := by
  have h0 := fmod_lo k (n := 3) (by decide)
  have hb : k.fmod 3 < 3 := by rcases fmod3 k with ⟨a, b⟩ | ⟨a, b⟩ | ⟨a, b⟩ <;> omega
  obtain ⟨t, ht⟩ := strs_get hi (k.fmod 3).toNat (by show _ < 3; omega)
  exact tail_any hl.typeIs slot_list_getitem.lookup (wpAny_getItem_list hl h0 (by omega) (by simpa using ht) (h t _ (endsS_at k).1 (endsS_at k).2)) hs
example : True := by
  k_with "!subscriptTail Name BinOp ref int" => (guard_expr onSent =~ onSent; (k_here; k_dflt (refine' item_ends ?k1_22 ?k2_22 ?_; (case k1_22 => exact ⟨_, News.get (by k_asm) (by k_mem), rfl, _, rfl⟩); (case k2_22 => repeat (first | exact .nil | refine .cons _ _ ?_)); k_whole; intro t''k xe'k hxe'k hxel'k)))
  trivial
noncomputable abbrev Call2 (w : World) (f : Addr) (vs : List Value) (news : List (Addr × Obj)) (R : Value → List (Addr × Obj) → Prop) : Prop :=
  ∀ (mean : ExcName → Option Value) (mg mb : Str → Option Value) (dp un : Nat) (gd : Option (List Code)) (env0 : Env) (outer : List Env) (A₀ : Around) (base h₀ : Heap) (L : Addr) (m : Str → Option Value) (s : Shared) (Q E : Value → Shared → Prop),
    Below A₀ base outer h₀ → Fr h₀ L s.heap m → (KK w.params).In h₀ → News h₀ L s.heap news → Top qq LOOSE mean mg mb h₀ → env0.frame = some L → env0.scope.kind = .function →
    dp + 20 < recursionLimit → un + 80 < cLine →
    (∀ (v : Value) (h' : Heap) (tk' : Nat) (news' : List (Addr × Obj)), R v news' → Fr h₀ L h' m → News h₀ L h' news' → Q v { s with heap := h', toks := tk' }) →
    wpAny (model PW w) (AT dp un gd env0 outer) (call (.ref f) vs) Q E s
example : True := by
  k_with "!MY CALLED" => (guard_expr onSent =~ onSent; ((case kB => assumption); (case kF => assumption); (case kX => assumption); (case kN => assumption); (case kT => assumption); (case kf => exact rfl); (case kk => exact rfl); (case kd => (show _ < recursionLimit; dsimp only; omega)); (case ku => (show _ < cLine; dsimp only; omega)); k_whole))
  trivial
theorem dot_len : ∀ (l : List Nat) (b : Bool), (dotL b l).length ≤ 2 * l.length
  | [], _ => by simp [dotL]
  | c :: r, b => by
    have h1 := dot_len r false
    have h2 := dot_len r (c == 10)
    unfold dotL
    split <;> simp only [List.length_cons] at * <;> omega
theorem quote_len {x y : Str} (h : toL y = quoteL (toL x)) (hx : x.length ≤ 390) : y.length ≤ 1560 := by
  have e : y.length = (toL y).length := by simp [toL, Str.length]
  have e' : x.length = (toL x).length := by simp [toL, Str.length]
  have h1 := dot_len (crlfL (toL x)) true
  have h2 := crlf_le _ (toL x) rfl
  rw [e, h]
  unfold quoteL
  omega
theorem quote_call {w : World} {mean : ExcName → Option Value} {mg mb : Str → Option Value} {dp un : Nat} {gd : Option (List Code)} {env0 : Env} {outer : List Env} {A₀ : Around} {base h₀ : Heap} {L : Addr} {m : Str → Option Value} {s : Shared} {Q E : Value → Shared → Prop} {news : List (Addr × Obj)} {x : Str} {t : Tok} (kB : Below A₀ base outer h₀) (kF : Fr h₀ L s.heap m) (kX : (KK w.params).In h₀) (kN : News h₀ L s.heap news) (kT : Top qq LOOSE mean mg mb h₀) (kf : env0.frame = some L) (kk : env0.scope.kind = .function) (kd : dp + 10 < recursionLimit) (ku : un + 60 < cLine) (hx : x.length ≤ 390)
    (done : ∀ h' tk' y t', toL y = quoteL (toL x) → y.length ≤ 1560 → Fr h₀ L h' m → News h₀ L h' news → Q (.str y t') { s with heap := h', toks := tk' }) : wpAny (model PW w) (AT dp un gd env0 outer) (call (.ref 48) [.str x t]) Q E s :=
  quote_spec w x t news (Nat.le_trans hx (by decide)) _ _ _ _ _ _ _ _ _ _ _ _ _ _ _ _ kB kF kX kN kT kf kk kd ku fun v h' tk' n' hR F N => by
    obtain ⟨rfl, y, t', rfl, hy⟩ := hR
    exact done _ _ _ _ hy (quote_len hy hx) F N
structure B1 (c : Nat) (b : Bool) : Prop where
  eq : b1S c = b
theorem b1_call {w : World} {mean : ExcName → Option Value} {mg mb : Str → Option Value} {dp un : Nat} {gd : Option (List Code)} {env0 : Env} {outer : List Env} {A₀ : Around} {base h₀ : Heap} {L : Addr} {m : Str → Option Value} {s : Shared} {Q E : Value → Shared → Prop} {news : List (Addr × Obj)} {c : Nat} {t : Tok} (kB : Below A₀ base outer h₀) (kF : Fr h₀ L s.heap m) (kX : (KK w.params).In h₀) (kN : News h₀ L s.heap news) (kT : Top qq LOOSE mean mg mb h₀) (kf : env0.frame = some L) (kk : env0.scope.kind = .function) (kd : dp + 10 < recursionLimit) (ku : un + 60 < cLine)
    (done : ∀ h' tk' b, B1 c b → Fr h₀ L h' m → News h₀ L h' news → Q (.bool b) { s with heap := h', toks := tk' }) : wpAny (model PW w) (AT dp un gd env0 outer) (call (.ref 81) [.str ⟨#[c]⟩ t]) Q E s :=
  b1_spec w c t news _ _ _ _ _ _ _ _ _ _ _ _ _ _ _ _ kB kF kX kN kT kf kk kd ku fun v h' tk' n' hR F N => by
    obtain ⟨rfl, rfl⟩ := hR
    exact done _ _ _ ⟨rfl⟩ F N
example : True := by
  k_with "!call ref" => (guard_expr onSent =~ onSent; (k_here; (with_reducible show wpAny _ _ (call (Value.ref 48) [_]) _ _ _); k_dflt (refine' quote_call ?kB ?kF ?kX ?kN ?kT ?kf ?kk ?kd ?ku ?hx_24 ?_; (case hx_24 => assumption); walk_at "MY CALLED"; intro hq''k tq''k yq'k tyq'k hyq'k hyql'k F''k N''k)))
  k_with "!call ref" => (guard_expr onSent =~ onSent; (k_here; (with_reducible show wpAny _ _ (call (Value.ref 81) [_]) _ _ _); k_dflt (refine' b1_call ?kB ?kF ?kX ?kN ?kT ?kf ?kk ?kd ?ku ?_; walk_at "MY CALLED"; intro hq''k tq''k bq'k hbq'k F''k N''k)))
  k_with "!subscriptTail Name Name ref int" => (guard_expr onSent =~ onSent; (k_here; k_dflt (refine' item_strs ?k1_26 ?k2_26 ?k3_26 ?k4_26 ?k5_26 ?_; (case k2_26 => assumption); (case k1_26 => exact ⟨_, News.get (by k_asm) (by k_mem), rfl, _, rfl⟩); (case k3_26 => omega); (case k4_26 => omega); (case k5_26 => assumption); k_whole; intro t''k xr'k hxr'k hxl'k)))
  trivial
structure MailInv (ys : List Str) (turn : Int) (n : Nat) (x : Str) : Prop where
  eq : toL x = toL (ys.getD 0 (Str.ofString "")) ++ mailL (turn + 1) (((ys.map toL).drop 1).take n)
theorem end_len (k : Int) : (endL k).length ≤ 2 := by
  unfold endL
  split
  · decide
  · split <;> decide
theorem mail_len : ∀ (rs : List (List Nat)) (k : Int), (mailL k rs).length ≤ (rs.map List.length).sum + 2 * rs.length
  | [], _ => by simp [mailL]
  | r :: rs, k => by
    have := mail_len rs (k + 1)
    have := end_len k
    simp only [mailL, List.length_append, List.map_cons, List.sum_cons, List.length_cons]
    omega
theorem take_sum : ∀ (l : List Nat) (n : Nat), (l.take n).sum ≤ l.sum
  | [], n => by simp
  | a :: l, 0 => by simp
  | a :: l, n + 1 => by
    have := take_sum l n
    simp only [List.take_succ_cons, List.sum_cons]; omega
theorem mail_bound {ys : List Str} {turn : Int} {n : Nat} {x : Str} (hp : SentPre ys) (h : MailInv ys turn n x) : x.length ≤ 390 := by
 walk_at "ST"
 case oTag =>
  have e : x.length = (toL x).length := by simp [toL, Str.length]
  rw [e, h.eq, List.length_append]
  have h1 := mail_len (((ys.map toL).drop 1).take n) (turn + 1)
  have h2 : (((ys.map toL).drop 1).take n).length ≤ 8 := by
    have := hp.few
    simp only [List.length_take, List.length_drop, List.length_map]; omega
  have h3 := hp.size
  cases ys with
  | nil => have := hp.ne; simp at this
  | cons y ys =>
    have h4 := take_sum (((y :: ys).map toL).drop 1 |>.map List.length) n
    rw [← List.map_take] at h4
    have h5 : ((((y :: ys).map toL).drop 1).map List.length).sum = (ys.map fun x => x.cps.size).sum := by
      simp [toL]; congr 1
    simp only [List.map_cons, List.sum_cons] at h3
    have h6 : (toL ((y :: ys).getD 0 (Str.ofString ""))).length = y.cps.size := by simp [toL]
    omega
 walk_at "EN"
theorem mail_base {ys : List Str} {turn : Int} {x : Str} (hp : SentPre ys) (h : x = ys.getD (0 : Int).toNat (Str.ofString "")) : MailInv ys turn ([] : List Int).length x ∧ x.length ≤ 390 := by
  have : MailInv ys turn ([] : List Int).length x := by
    refine ⟨?_⟩
    rw [h]; simp [mailL]
  exact ⟨this, mail_bound hp this⟩
theorem mailL_snoc : ∀ (rs : List (List Nat)) (k : Int) (r : List Nat), mailL k (rs ++ [r]) = mailL k rs ++ (endL (k + rs.length) ++ r)
  | [], k, r => by simp [mailL]
  | q :: rs, k, r => by
    simp only [List.cons_append, mailL, mailL_snoc rs (k + 1) r, List.length_cons, List.append_assoc]
    rw [show k + 1 + (rs.length : Int) = k + ((rs.length + 1 : Nat) : Int) by omega]
theorem mail_step {ys : List Str} {turn kN : Int} {pre : List Int} {x xe xr : Str} (hp : SentPre ys) (h : MailInv ys turn pre.length x) (hk : kN = 1 + (pre.length : Int)) (hl : pre.length < ((ys.length : Int) - 1).toNat)
    (he : toL xe = endL (turn + kN)) (hr : xr = ys.getD kN.toNat (Str.ofString "")) : MailInv ys turn (pre ++ [kN]).length (x ++ (xe ++ xr)) ∧ (x ++ (xe ++ xr)).length ≤ 390 := by
 walk_at "ST"
 case oTag =>
  have hlt : pre.length < ((ys.map toL).drop 1).length := by simp only [List.length_drop, List.length_map]; omega
  have : MailInv ys turn (pre ++ [kN]).length (x ++ (xe ++ xr)) := by
    refine ⟨?_⟩
    have e1 : toL (x ++ (xe ++ xr)) = toL x ++ (toL xe ++ toL xr) := by
      show (x ++ (xe ++ xr)).cps.toList = _
      rw [Str.app_list, Str.app_list]; rfl
    have e2 : kN.toNat = pre.length + 1 := by omega
    have hy : pre.length + 1 < ys.length := by omega
    rw [e1, h.eq, he, hr, e2, List.length_append, List.length_singleton, List.take_succ_eq_append_getElem hlt, mailL_snoc]
    rw [List.append_assoc]
    congr 3
    · rw [hk]
      congr 1
      simp only [List.length_take]; omega
    · simp [List.getD, hy]
  exact ⟨this, mail_bound hp this⟩
 walk_at "EN"
structure SeenInv (pre : List Int) (x : Str) : Prop where
  eq : toL x = seenL (pre.map Int.toNat)
theorem seen_base : SeenInv [] (Str.ofString "") ∧ (Str.ofString "").length ≤ 1560 := ⟨⟨by decide⟩, by decide⟩
theorem seen_bound {pre post : List Int} {n : Int} {x y : Str} (h : SeenInv (pre ++ [n]) x) (hc : KStt.codes y = pre ++ n :: post) (hy : y.length ≤ 1560) : x.length ≤ 1560 := by
  have e : x.length = (toL x).length := by simp [toL, Str.length]
  have e2 := congrArg List.length hc
  rw [KStt.codes_length, List.length_append, List.length_cons] at e2
  rw [e, h.eq]
  refine Nat.le_trans (List.length_filter_le _ _) ?_
  simp only [List.length_map, List.length_append, List.length_singleton]; omega
theorem seen_keep {pre post : List Int} {n : Nat} {x y : Str} (h : SeenInv pre x) (hc : KStt.codes y = pre ++ (n : Int) :: post) (hy : y.length ≤ 1560) {b : Bool} (hb : B1 n b) (hc' : (b == false) = true) : SeenInv (pre ++ [(n : Int)]) (x ++ ⟨#[n]⟩) ∧ (x ++ ⟨#[n]⟩).length ≤ 1560 := by
  have : SeenInv (pre ++ [(n : Int)]) (x ++ ⟨#[n]⟩) := by
    refine ⟨?_⟩
    have e1 : toL (x ++ ⟨#[n]⟩) = toL x ++ [n] := Str.app_list _ _
    rw [e1, h.eq]
    have hb' := hb.eq
    cases b with
    | true => cases hc'
    | false => simp [seenL, List.filter_append, hb']
  exact ⟨this, seen_bound this hc hy⟩
theorem seen_drop {pre post : List Int} {n : Nat} {x y : Str} (h : SeenInv pre x) (hc : KStt.codes y = pre ++ (n : Int) :: post) (hy : y.length ≤ 1560) {b : Bool} (hb : B1 n b) (hc' : (b == false) = false) : SeenInv (pre ++ [(n : Int)]) x ∧ x.length ≤ 1560 := by
  have : SeenInv (pre ++ [(n : Int)]) x := by
    refine ⟨?_⟩
    rw [h.eq]
    have hb' := hb.eq
    cases b with
    | false => cases hc'
    | true => simp [seenL, List.filter_append, hb']
  exact ⟨this, seen_bound this hc hy⟩
theorem sent_plain {ys : List Str} {turn : Int} {x y z : Str} (hp : SentPre ys) (hm : MailInv ys turn (rangeKs 1 ((ys.length : Int) - 1).toNat).length x) (hq : toL y = quoteL (toL x)) (hs : SeenInv (KStt.codes y) z) :
    (Txt.split z (Str.ofString "\r\n")).map toL = (ys.map toL).map sentL := by
 walk_at "ST"
 case oTag =>
  have hn : (rangeKs 1 ((ys.length : Int) - 1).toNat).length = ys.length - 1 := by simp [rangeKs]
  have hf := hp.free
  have he := hm.eq
  rw [hn] at he
  have hc : (KStt.codes y).map Int.toNat = toL y := by
    unfold KStt.codes toL
    rw [List.map_map]
    exact (List.map_congr_left (g := _root_.id) fun c _ => Int.toNat_natCast c).trans (List.map_id _)
  have hz := hs.eq
  rw [hc, hq, he] at hz
  cases ys with
  | nil => have := hp.ne; simp at this
  | cons r ys =>
    simp only [List.map_cons, List.all_cons, Bool.and_eq_true] at hf
    have e1 : (((r :: ys).map toL).drop 1).take ((r :: ys).length - 1) = ys.map toL := by
      simp only [List.map_cons, List.drop_one, List.tail_cons, List.length_cons, Nat.add_sub_cancel]
      exact List.take_of_length_le (by simp)
    rw [e1] at hz
    have e2 : toL ((r :: ys).getD 0 (Str.ofString "")) = toL r := by simp
    rw [e2, seen_mail hf.1 hf.2] at hz
    rw [show ((r :: ys).map toL).map sentL = sentL (toL r) :: (ys.map toL).map sentL by simp]
    refine split_rows rfl hz (sent_free hf.1) ?_
    rw [List.all_map]
    rw [List.all_eq_true] at hf ⊢
    intro q hq
    exact sent_free (hf.2 q hq)
 walk_at "EN"
theorem bool_no {b : Bool} (h1 : (b == false) = false) (h2 : (b != true) = true) : False := by cases b <;> simp_all
example : True := by
  k_with "!storeName" => (guard_expr onSent =~ onSent; (k_here; k_dflt (refine' storeX_L ?sF_27 ?sN_27 ?_ ?sa_27 ?sb_27; (case sF_27 => k_asm); (case sN_27 => k_asm); (case sa_27 => rfl); (case sb_27 => rfl); k_whole); intro h''k F''k N''k; (try k_sweep)))
  trivial
theorem sent_spec (w : World) (D : Addr) (vs : List Value) (k : Nat) (ys : List Str) (turn : Int) (t : Tok) (news : List (Addr × Obj)) (hs : StrsAre vs ys) (hp : SentPre ys) : Call2 w 184 [.ref D, .int turn t] ((D, plainO vs k) :: news) (sentR D vs k ys news) := by
 walk_at "ST"
 case oTag =>
  unfold Call2
  intros; rename_i hret
  walk_at "MY ENTER"
  have hb1 : (1 : Int) ≤ (ys.length : Int) := by have := hp.ne; omega
  have hb2 : (ys.length : Int) ≤ 9 := by have := hp.few; omega
  k_with "pyIter ref" => (guard_expr onSent =~ onSent; k_state (fun pre x => MailInv ys turn pre.length x ∧ x.length ≤ 390) "mail")
  k_with "pyIter str" => (guard_expr onSent =~ onSent; k_state (fun pre x => SeenInv pre x ∧ x.length ≤ 1560) "seen")
  k_with "state" => (guard_expr onSent =~ onSent; first | ((with_reducible show MailInv _ _ _ _ ∧ _); first | exact mail_base ‹_› ‹_› | exact mail_step ‹_› (by assumption) ‹_› ‹_› ‹_› ‹_›) | ((with_reducible show SeenInv _ _ ∧ _); first | exact seen_base | exact seen_keep (by assumption) ‹_› ‹_› ‹B1 _ _› ‹_› | exact seen_drop (by assumption) ‹_› ‹_› ‹B1 _ _› ‹_›))
  k_with "!call builtin:str.split" => (guard_expr onSent =~ onSent; refine Stop.mk ?_)
  k_steps
  all_goals try exact absurd ‹(_ != true) = true› (fun h => bool_no ‹(_ == false) = false› h)
  · unfold Stop
    refine KSpl.split1 ‹_› ‹_› (by decide) ?_ (Nat.le_trans (Nat.add_le_add_right (by assumption : Str.length _ ≤ 1560) 2) (by decide))
    intro D' l h' k' hl hS F' N' hlt
    k_steps
    exact hret _ _ _ _ ⟨D', strValues l, 0, _, rfl, rfl, hlt (D, plainO vs k) (by k_mem), fun p hp => hlt p (by repeat (first | assumption | refine List.Mem.tail _ ?_)), hS, hl ▸ sent_plain ‹_› ‹_› ‹_› ‹_›⟩ (by k_asm) (by walk_at "MY LEDGER")
 walk_at "EN"
end
section
noncomputable def itO (D : Addr) (j : Nat) : Obj := { cls := .type "list_iterator", data := .fields #[.ref D, .int (j : Int) 0] }
section
variable {w : World} {A : Around} {E : Value → Shared → Prop} {s : Shared} {h₀ : Heap} {L : Addr} {m : Str → Option Value} {news : List (Addr × Obj)} {Q : Value → Shared → Prop}
theorem iter_list {D : Addr} {vs : List Value} {n : Nat} (F : Fr h₀ L s.heap m) (N : News h₀ L s.heap news) (hp : (D, plainO vs n) ∈ news)
    (h : ∀ I h', Fr h₀ L h' m → News h₀ L h' ((I, itO D 0) :: news) → (∀ p ∈ news, @LT.lt Nat _ p.1 I) → (∀ p ∈ news, p.1 ≠ I) → Q (.ref I) { s with heap := h' }) : wpAny (model PW w) A (call (.builtin "iter") [.ref D]) Q E s := by
  refine call_function_entry (by decide +kernel) (by decide +kernel) kdk_entry_iter (kdk_args_iter _) ?_
  unfold Builtin.«iter»
  refine wpAny_bind (m := someArgs "iter" 1 2 _) (wpAny_of_eq (a := [Value.ref D]) (by first | rfl | kernel_rfl!) ?_)
  show wpAny _ _ (pyIter (.ref D) >>= _) _ _ _
  refine wpAny_bind (wpAny_pyIter_list (items := vs.toArray) ⟨_, (N _ hp).1, rfl, n, rfl⟩ ?_)
  exact wpAny_pure ⟨_, rfl, h _ _ (F.push _) (News.push F N (itO D 0) rfl) (fun q hq => Heap.lt_size (N q hq).1) (fun q hq => Nat.ne_of_lt (Heap.lt_size (N q hq).1))⟩
theorem next_special {it l : Addr} {i : Nat} {items : Array Value} {x : Value} {Q : Option Value → Shared → Prop} (ho : s.heap.get? it = some (itO l i)) (hl : s.heap.IsList l items) (hx : items[i]? = some x)
    (hQ : ∀ h', h'.get? it = some (itO l (i + 1)) → Heap.SameBut it s.heap h' → Q (some x) { s with heap := h' }) : wpAny (model PW w) A (callSpecial? (.ref it) (Str.ofString "__next__")) Q E s := by
 walk_at "ST"
 case oTag =>
  have hd : (itO l i).data = .fields #[.ref l, .int (i : Int) 0] := rfl
  have hit : s.heap.IsListIter it l i := ⟨_, ho, rfl, rfl⟩
  obtain ⟨ol, hol, _, nl, hdl⟩ := hl
  refine wpAny_callSpecial?_slot (name := Str.ofString "__next__") hit.typeIs slot_listiter_next
    (wpAny_call_entry slot_listiter_next hit.typeIs entry_listiter_next ?_ (args_listiter_next _))
  show wpAny _ _ (field (.ref it) 0 >>= _) _ _ s
  refine wpAny_bind (wpAny_field ho hd (x := .ref l) rfl ?_)
  show wpAny _ _ (if (Value.ref l == Value.none) = true then _ else _) _ _ s
  rw [if_neg (show ¬ ((Value.ref l == Value.none) = true) from Bool.false_ne_true)]
  show wpAny _ _ (field (.ref it) 1 >>= _) _ _ s
  refine wpAny_bind (wpAny_field ho hd (x := .int i 0) rfl ?_)
  show wpAny _ _ (seqItems? (.ref l) >>= _) _ _ s
  refine wpAny_bind (wpAny_seqItems hol hdl ?_)
  simp only [Int.toNat_natCast, hx]
  refine wpAny_bind (wpAny_setField ho hd (by simp) (wpAny_pure ⟨x, rfl, hQ _ ?_ (Heap.SameBut.update ..)⟩))
  exact (Heap.get?_update_self _ ho (Obj.isFreed_of_fields (Obj.data_mapFields hd _)))
 walk_at "EN"
theorem next_list {I D : Addr} {j n : Nat} {vs : List Value} {x : Value} {g : Obj → List (Addr × Obj)} (F : Fr h₀ L s.heap m) (N : News h₀ L s.heap news) (U : UpdF I (itO D j) news g) (hp : (D, plainO vs n) ∈ news) (hx : vs[j]? = some x)
    (h : ∀ h', Fr h₀ L h' m → News h₀ L h' (g (itO D (j + 1))) → Q x { s with heap := h' }) : wpAny (model PW w) A (call (.builtin "next") [.ref I]) Q E s := by
 walk_at "ST"
 case oTag =>
  obtain ⟨pre, post, hl, hg, a, b⟩ := U.split
  have hmem : (I, itO D j) ∈ news := by rw [hl]; exact List.mem_append_right _ (.head _)
  have hm := N (I, itO D j) hmem
  have hit : s.heap.IsListIter I D j := ⟨_, hm.1, rfl, rfl⟩
  refine call_function_entry (by decide +kernel) (by decide +kernel) kdk_entry_next (kdk_args_next _) ?_
  unfold Builtin.«next»
  refine wpAny_bind (m := someArgs "next" 1 2 _) (wpAny_of_eq (a := [Value.ref I]) (by first | rfl | kernel_rfl!) ?_)
  dsimp only
  refine wpAny_bind (wpAny_specialOf (name := Str.ofString "__next__") hit.typeIs slot_listiter_next.lookup ?_)
  refine wpAny_ite_split (fun hab => absurd hab (by decide)) (fun _ => ?_)
  refine wpAny_bind (next_special hm.1 ⟨_, (N _ hp).1, rfl, n, rfl⟩ (by simpa using hx) fun h' hit' hs => ?_)
  exact wpAny_pure ⟨_, rfl, h h' (F.change hs hm.2.1 hm.2.2) (hg (itO D (j + 1)) ▸ (show News h₀ L s.heap (pre ++ (I, itO D j) :: post) from hl ▸ N).setIn a b hs hit')⟩
 walk_at "EN"
end
end
section
open ZL ZVarint
noncomputable def varL : Nat → List Int → Nat → Int → Int → Option (Int × Nat)
  | 0, _, _, _, _ => none
  | f + 1, cs, j, b, val => if Builtin.bitAnd b 64 = 0 then some (val, j) else match cs[j]? with
    | none => none
    | some b' => if 0 ≤ val ∧ val < 1099511627776 then varL f cs (j + 1) b' (Builtin.bitOr (val * 2 ^ (6 : Int).toNat) (Builtin.bitAnd b' 63)) else none
noncomputable def varM (I : Addr) (b val : Int) (t1 t2 : Tok) : Str → Option Value := fun y =>
  if y = Str.ofString "b" then some (.int b t1) else if y = Str.ofString "val" then some (.int val t2) else if y = Str.ofString "iterator" then some (.ref I) else none
theorem varM_no {I : Addr} {b val : Int} {t1 t2 : Tok} {y : Str} (e1 : ¬ y = Str.ofString "b") (e2 : ¬ y = Str.ofString "val") (e3 : ¬ y = Str.ofString "iterator") : varM I b val t1 t2 y = none := by simp only [varM, e1, e2, e3, if_false]
theorem var_end {h₀ h : Heap} {L I : Addr} {b val : Int} {t1 t2 : Tok} {m : Str → Option Value} (F : Fr h₀ L h m)
    (m1 : m (Str.ofString "b") = some (.int b t1)) (m2 : m (Str.ofString "val") = some (.int val t2)) (m3 : m (Str.ofString "iterator") = some (.ref I))
    (m7 : ∀ y, ¬ y = Str.ofString "b" → ¬ y = Str.ofString "val" → ¬ y = Str.ofString "iterator" → m y = none) : Fr h₀ L h (varM I b val t1 t2) := by
  have : m = varM I b val t1 t2 := by
    funext y
    unfold varM
    split
    · next e => rw [e, m1]
    split
    · next e => rw [e, m2]
    split
    · next e => rw [e, m3]
    apply m7 <;> assumption
  exact this ▸ F
noncomputable def varJ (cs : List Int) (fin : Int) (jf : Nat) (h₀ : Heap) (L I D : Addr) (vs : List Value) (k : Nat) (news : List (Addr × Obj)) (s : Shared) (n : Nat) (s' : Shared) : Prop :=
  ∃ h tk b val t1 t2 j, s' = { s with heap := h, toks := tk } ∧ Fr h₀ L h (varM I b val t1 t2) ∧ News h₀ L h ((I, itO D j) :: (D, plainO vs k) :: news) ∧ varL n cs j b val = some (fin, jf)
example : True := by
  k_with "!call builtin:next" => (guard_expr onVarint =~ onVarint; (k_here; (with_reducible show wpAny _ _ (call (Value.builtin "next") [Value.ref _]) _ _ _); k_dflt (refine' next_list ?k1_28 ?k2_28 ?k3_28 ?k4_28 ?k5_28 ?_; (case k1_28 => assumption); (case k2_28 => assumption); (case k3_28 => exact UpdF.head (by assumption)); (case k4_28 => k_mem); (case k5_28 => assumption); k_whole; intro h''k F''k N''k; (try dsimp only at N''k ⊢))))
  trivial
theorem var_loop {w : World} {A : Around} {E : Value → Shared → Prop} {s : Shared} {Q : Flow → Shared → Prop} {h₀ : Heap} {L I D : Addr} {cd : Value} {news : List (Addr × Obj)} {vs : List Value} {cs : List Int} {k n jf j : Nat} {fin b val : Int} {t1 t2 : Tok} {mean : ExcName → Option Value} {mg mb : Str → Option Value}
    (X : (KK w.params).In h₀) (T : Top qq LOOSE mean mg mb h₀) (F : Fr h₀ L s.heap (varM I b val t1 t2)) (N : News h₀ L s.heap ((I, itO D j) :: (D, plainO vs k) :: news)) (hi : IntsAre vs cs) (hU : ∀ p ∈ ((D, plainO vs k) :: news), p.1 ≠ I)
    (hE : PassesOwn (model PW w) A (envOf (Str.ofString "_parse_varint") (scopeOf 8) L 63 cd) E) (hr : varL n cs j b val = some (fin, jf))
    (done : ∀ h' tk' b' t1' t2', Fr h₀ L h' (varM I b' fin t1' t2') → News h₀ L h' ((I, itO D jf) :: (D, plainO vs k) :: news) → Q .next { s with heap := h', toks := tk' }) :
    wpAny (model PW w) A (exec (stmtIn 8 2) (envOf (Str.ofString "_parse_varint") (scopeOf 8) L 63 cd)) Q E s := by
 walk_at "ST"
 case oTag =>
  with_unfolding_all refine while_J (varJ cs fin jf h₀ L I D vs k news s) hE _ ⟨_, s.toks, _, _, _, _, _, rfl, F, N, hr⟩ ?_
  rintro n s' W hW ⟨h, tk, b, val, t1, t2, j, rfl, F, N, hr⟩
  clear hE
  cases n with
  | zero => cases hr
  | succ n =>
    by_cases hb : Builtin.bitAnd b 64 = 0
    · unfold varL at hr
      rw [if_pos hb] at hr
      cases hr
      k_steps
      all_goals try exact absurd hb ‹_›
      · exact done _ _ _ _ _ (var_end F rfl rfl rfl (fun y e1 e2 e3 => by (repeat (with_reducible refine upd_no (by assumption) ?_)); exact varM_no e1 e2 e3)) (by assumption)
    · unfold varL at hr
      rw [if_neg hb] at hr
      cases hc : cs[j]? with
      | none => rw [hc] at hr; cases hr
      | some b' =>
        rw [hc] at hr
        dsimp only at hr
        split at hr
        · next hv =>
          obtain ⟨v1, v2⟩ := hv
          obtain ⟨tb, hx⟩ := hi.get j b' hc
          k_steps
          · refine hW _ _ ?_
            exact ⟨n, Nat.lt_succ_self n, _, _, _, _, _, _, _, rfl, var_end ‹Fr _ _ _ _› rfl rfl rfl (fun y e1 e2 e3 => by (repeat (with_reducible refine upd_no (by assumption) ?_)); exact varM_no e1 e2 e3), ‹News _ _ _ _›, hr⟩
          all_goals exact absurd ‹_› hb
        · cases hr
 walk_at "EN"
example : True := by
  k_with "!exec" => (guard_expr onVarint =~ onVarint; (k_here; (with_reducible show wpAny _ _ (exec (Stmt.While _ _ _ _) _) _ _ _); refine Stop.mk ?_))
  trivial
theorem varint_spec (w : World) (I D : Addr) (vs : List Value) (cs : List Int) (k n j jf : Nat) (b fin : Int) (news : List (Addr × Obj)) (hi : IntsAre vs cs) (hU : ∀ p ∈ ((D, plainO vs k) :: news), p.1 ≠ I) (hj : cs[j]? = some b)
    (hr : varL n cs (j + 1) b (Builtin.bitAnd b 63) = some (fin, jf)) : Call1 w 63 [.ref I] ((I, itO D j) :: (D, plainO vs k) :: news) (fun v n' => ∃ t, v = .int fin t ∧ n' = (I, itO D jf) :: (D, plainO vs k) :: news) := by
 walk_at "ST"
 case oTag =>
  unfold Call1
  intros; rename_i hret
  obtain ⟨tb, hx⟩ := hi.get j b hj
  walk_at "MY ENTER"
  k_steps
  unfold Stop
  with_unfolding_all refine var_loop ‹_› ‹_› (var_end ‹Fr _ _ _ _› rfl rfl rfl ?m7) ‹News _ _ _ _› hi hU (by passes_own) hr ?_
  case m7 =>
    intro y e1 e2 e3
    simp only [upd, e1, e2, e3, if_false]
    with_unfolding_all show List.lookup y [(Str.ofString "iterator", Value.ref I)] = none
    simp only [List.lookup, beq_false_of_ne e3]
  intro h' tk' b' t1' t2' F' N'
  unfold varM at F'
  k_steps
  exact hret _ _ _ _ ⟨_, rfl, rfl⟩ (by k_asm) (by walk_at "MY LEDGER")
 walk_at "EN"
end
section
theorem ints_of_both : ∀ {ys : List Value} {ns : List Int}, ys.length = ns.length → (∀ (j : Nat) y n, ys[j]? = some y → ns[j]? = some n → ∃ t, y = .int n t) → IntsAre ys ns
  | [], [], _, _ => .nil
  | [], _ :: _, h, _ => by simp at h
  | _ :: _, [], h, _ => by simp at h
  | y :: ys, n :: ns, h, hg => by
    obtain ⟨t, rfl⟩ := hg 0 y n rfl rfl
    exact .cons n t (ints_of_both (by simpa using h) fun j y' n' h1 h2 => hg (j + 1) y' n' (by simpa using h1) (by simpa using h2))
section
variable {prog : Program} {w : World} {A : Around} {E : Value → Shared → Prop} {R : Result → Shared → Prop} {s : Shared} {env : Env} {h₀ : Heap} {m : Str → Option Value} {news : List (Addr × Obj)}
theorem compLoop_pairs {elt iter : PySem.Expr} {xa xb : Str} {pa pb pt : Pos} {kt : Nat} {scope : Scope} {pos : Pos} {I D : Addr} {fp wr : List Addr} {n : Nat} {Pt : Nat → Array Value → Prop} {St : Nat → Heap → Prop} {Mid : Nat → Addr → Heap → Prop} {cenv : Env}
    (hh : A.handled = none) (W : WalksT prog w A I fp wr n Pt St Mid) (hsz : ∀ i vals, Pt i vals → ∃ va vb, vals = #[va, vb]) (hab : xa ≠ xb) (T : Nat → Value → Prop)
    (hxa : cenv.kindOf xa = some .local) (hxb : cenv.kindOf xb = some .local) (hp : (cenv.scope.kind == .class || (cenv.scope.kind == .module && cenv.locals != cenv.globals)) = false)
    (hDC : D ≠ cenv.locals) (hDf : D ∉ fp) (hCf : cenv.locals ∉ fp) (hst : St 0 s.heap) (hacc : s.heap.PlainList D #[]) (hn : s.heap.Ns cenv.locals m)
    (helt : ∀ i va vb s₂ m₂ E', Pt i #[va, vb] → s₂.heap.Ns cenv.locals m₂ → m₂ xa = some va → m₂ xb = some vb → (∀ b o, b ≠ cenv.locals → b ∉ wr → b ≠ D → s.heap.get? b = some o → s₂.heap.get? b = some o) →
      wpAny (model prog w) A (eval elt cenv) (fun y s₃ => T i y ∧ Keeps s₂ s₃) E' s₂)
    (hR : ∀ h' tk m' (ys : Array Value), h'.Ns cenv.locals m' → h'.PlainList D ys → ys.size = n → (∀ j y, ys[j]? = some y → T j y) →
      (∀ b o, b ≠ cenv.locals → b ∉ wr → b ≠ D → s.heap.get? b = some o → h'.get? b = some o) → R (.ok .next) { s with heap := h', toks := tk })
    (hlen : n ≤ sizeLine) :
    codeAny (model prog w) A (.compLoop (.ListComp elt [⟨.Tuple [.Name xa pa, .Name xb pb] kt pt, iter, [], 0⟩] scope pos) 0 (.ref I) (.ref D) cenv) R s := by
 walk_at "ST"
 case oTag =>
  have hCw : cenv.locals ∉ wr := fun h => hCf (W.sub _ h)
  have hDw : D ∉ wr := fun h => hDf (W.sub _ h)
  refine codeAny_loop rfl (fun k s' => ∃ h' tk m' ys, s' = { s with heap := h', toks := tk } ∧ St ys.size h' ∧ h'.PlainList D ys ∧ h'.Ns cenv.locals m' ∧ (∀ j y, ys[j]? = some y → T j y) ∧ ys.size ≤ n ∧ k = n + 1 - ys.size ∧
      (∀ b o, b ≠ cenv.locals → b ∉ wr → b ≠ D → s.heap.get? b = some o → h'.get? b = some o)) (fun k s' hI => ?_) (n + 1)
    ⟨s.heap, s.toks, m, #[], rfl, hst, hacc, hn, by simp, Nat.zero_le _, rfl, fun _ _ _ _ _ e => e⟩
  obtain ⟨H, tk, m', ys, rfl, hst', hacc', hn', hP, hi, rfl, hk⟩ := hI
  show wpAny _ A ((compTurn (.ListComp elt [⟨.Tuple [.Name xa pa, .Name xb pb] kt pt, iter, [], 0⟩] scope pos) 0 (.ref I) (.ref D) cenv).onRaise (fun x => do noteFrame x cenv; theTreesLotGoes x)) _ _ _
  refine wpAny_noted ?_
  rw [compTurn_list]
  refine wpAny_bind (wpAny_standAt (wpAny_bind ?_))
  by_cases hlt : ys.size < n
  · refine W.item ys.size _ _ _ hlt hst' fun Tp vals h₁ tk₁ hPv _ hT₁ hmid hk₁ => ?_
    obtain ⟨va, vb, rfl⟩ := hsz _ vals hPv
    refine wpAny_bind (W.go _ _ _ ys.size Tp _ _ _ hmid fun h₁' hst₁ hk₁' => ?_)
    have hT₁' : h₁'.IsTuple Tp #[va, vb] := let ⟨o, e, r⟩ := hT₁; ⟨o, hk₁' _ o (W.apart ys.size Tp _ hmid) e, r⟩
    refine wpAny_bind (wpAny_assign_Tuple hh hT₁' rfl rfl fun h₁'' hx₁ => ?_)
    replace hx₁ : Heap.ExtBut h₁'.objs.size h₁' h₁'' := hx₁
    have old₁ : ∀ b o, h₁'.get? b = some o → h₁''.get? b = some o := fun b o e => hx₁ b o (Nat.ne_of_lt (Heap.lt_size e)) e
    show wpAny _ _ (do holding [vb] (assign (.Name xa pa) cenv va); do holding [] (assign (.Name xb pb) cenv vb); pure ()) _ _ _
    refine wpAny_bind (wpAny_holding (wpAny_assign_Name (wpAny_storeName_local hxa (hn'.at' fun o e => old₁ _ o (hk₁' _ o hCw (hk₁ _ o hCw e))) (fun h₂a hn₂a hs₂a => ?_) hp)))
    replace hs₂a : Heap.SameBut cenv.locals h₁'' h₂a := hs₂a
    refine wpAny_bind (wpAny_holding (wpAny_assign_Name (wpAny_storeName_local hxb hn₂a (fun h₂ hn₂ hs₂ => wpAny_pure ?_) hp)))
    replace hs₂ : Heap.SameBut cenv.locals h₂a h₂ := hs₂
    have up₂ : ∀ b o, b ≠ cenv.locals → b ∉ wr → H.get? b = some o → h₂.get? b = some o := fun b o hbC hbw e => hs₂.extBut b o hbC (hs₂a.extBut b o hbC (old₁ b o (hk₁' b o hbw (hk₁ b o hbw e))))
    have hst₂ : St (ys.size + 1) h₂ := W.frame _ _ _ hst₁ fun b hb o e => hs₂.extBut b o (fun h => hCf (h ▸ hb)) (hs₂a.extBut b o (fun h => hCf (h ▸ hb)) (old₁ b o e))
    simp only [List.forIn_nil]
    refine wpAny_bind (wpAny_pure ?_)
    refine wpAny_bind (wpAny_bind (wpAny_mono (helt ys.size va vb _ _ _ hPv hn₂ (by simp [hab]) (by simp) (fun b o hbC hbf hbD e => up₂ b o hbC hbf (hk b o hbC hbf hbD e))) (fun y s₄ h₄ => ?_) fun _ _ e => e))
    obtain ⟨hTy, h₄, tk₄, rfl, hk₄⟩ := h₄
    refine wpAny_bind (wpAny_list_append_plain (hsz := by omega) (hacc'.at fun o e => hk₄ _ o (up₂ D o hDC hDw e)) fun h₅ hl₅ hs₅ => ?_)
    refine wpAny_pure (wpAny_pure ⟨rfl, n + 1 - (ys.size + 1), by omega, h₅, tk₄, _, ys.push y, rfl, ?_, hl₅, (hn₂.keeps hk₄).sameBut hs₅ (Ne.symm hDC), ?_, by rw [Array.size_push]; omega, by rw [Array.size_push],
      fun b o hbC hbf hbD e => hs₅.extBut b o hbD (hk₄ b o (up₂ b o hbC hbf (hk b o hbC hbf hbD e)))⟩)
    · have := W.frame _ _ h₅ hst₂ fun b hb o e => hs₅.extBut b o (fun h => hDf (h ▸ hb)) (hk₄ b o e)
      simpa using this
    · intro j u hj
      rcases Nat.lt_trichotomy j ys.size with h | h | h
      · rw [Array.getElem?_push_lt h] at hj
        exact hP j u (by rw [Array.getElem?_eq_getElem h]; exact hj)
      · subst h
        simp at hj
        exact hj ▸ hTy
      · rw [Array.getElem?_eq_none (by rw [Array.size_push]; omega)] at hj
        cases hj
  · have hin : ys.size = n := by omega
    refine W.done _ _ _ (hin ▸ hst') fun h₁ tk₁ hk₁ => ?_
    exact wpAny_pure (hR h₁ tk₁ m' ys (hn'.at' fun o e => hk₁ _ o hCw e) (hacc'.at fun o e => hk₁ _ o hDw e) hin hP fun b o hbC hbf hbD e => hk₁ b o hbf (hk b o hbC hbf hbD e))
 walk_at "EN"
noncomputable def EnumAt (prog : Program) (w : World) (A : Around) (env : Env) (scope : Scope) (cl : List (Str × Addr)) (xa xb : Str) (elt : PySem.Expr) (Q : Value → Shared → Prop) (E : Value → Shared → Prop) (xv : Value) (s₁ : Shared) : Prop :=
  wpAny (model prog w) A (pyIter xv) (fun it s₂ => ∃ (T : Nat → Value → Prop) (I : Addr) (fp wr : List Addr) (n : Nat) (Pt : Nat → Array Value → Prop) (St : Nat → Heap → Prop) (Mid : Nat → Addr → Heap → Prop) (m : Str → Option Value),
    it = .ref I ∧ WalksT prog w A I fp wr n Pt St Mid ∧ (∀ i vals, Pt i vals → ∃ va vb, vals = #[va, vb]) ∧ n ≤ sizeLine ∧ St 0 s₂.heap ∧ (∀ b ∈ fp, b < s₂.heap.objs.size) ∧ env.locals ∉ wr ∧ s₂.heap.Ns env.locals m ∧
    (∀ C i va vb s₃ m₃ E', Pt i #[va, vb] → s₃.heap.Ns C m₃ → m₃ xa = some va → m₃ xb = some vb → (∀ b o, b ∉ wr → s₂.heap.get? b = some o → s₃.heap.get? b = some o) →
      wpAny (model prog w) A (eval elt (compEnvC scope cl C env)) (fun y s₄ => T i y ∧ Keeps s₃ s₄) E' s₃) ∧
    (∀ D h' tk (ys : Array Value), s₂.heap.get? D = none → h'.PlainList D ys → ys.size = n → (∀ j y, ys[j]? = some y → T j y) →
      h'.Ns env.locals m → (∀ b o, b ∉ wr → s₂.heap.get? b = some o → h'.get? b = some o) → Q (.ref D) { s₂ with heap := h', toks := tk })) E s₁
theorem enum_block {elt iter : PySem.Expr} {xa xb : Str} {pa pb pt : Pos} {kt : Nat} {scope : Scope} {cl : List (Str × Addr)} {pos : Pos} {s₂ : Shared} {I : Addr} {fp wr : List Addr} {n : Nat} {Pt : Nat → Array Value → Prop} {St : Nat → Heap → Prop} {Mid : Nat → Addr → Heap → Prop}
    (hh : A.handled = none) (W : WalksT prog w A I fp wr n Pt St Mid) (hsz : ∀ i vals, Pt i vals → ∃ va vb, vals = #[va, vb]) (hab : xa ≠ xb) (hlen : n ≤ sizeLine) (T : Nat → Value → Prop) {RR : Value → Addr → Result → Shared → Prop}
    (hcell : ∀ y ∈ scope.names, y.2 ≠ .cell) (hkind : scope.kind = .function) (hxa : scope.names.lookup xa = some .local) (hxb : scope.names.lookup xb = some .local) (hst : St 0 s₂.heap) (hfp : ∀ b ∈ fp, b < s₂.heap.objs.size)
    (hq : ∀ C i va vb s₃ m₃ E', Pt i #[va, vb] → s₃.heap.Ns C m₃ → m₃ xa = some va → m₃ xb = some vb → (∀ b o, b ∉ wr → s₂.heap.get? b = some o → s₃.heap.get? b = some o) →
      wpAny (model prog w) A (eval elt (compEnvC scope cl C env)) (fun y s₄ => T i y ∧ Keeps s₃ s₄) E' s₃)
    (hRR : ∀ D C h' tk m' (ys : Array Value), s₂.heap.get? D = none → s₂.heap.get? C = none → D ≠ C → h'.Ns C m' → h'.PlainList D ys → ys.size = n → (∀ j y, ys[j]? = some y → T j y) →
      (∀ b o, b ∉ wr → s₂.heap.get? b = some o → h'.get? b = some o) → RR (.ref D) C (.ok .next) { s₂ with heap := h', toks := tk }) :
    wpAny (model prog w) A (newList []) (fun acc s₃ => wpAny (model prog w) A (newFunctionEnv scope env.globals cl [] env.qual none .none (some env)) (fun cenv s₄ =>
      codeAny (model prog w) A (.compStart (.ListComp elt [⟨.Tuple [.Name xa pa, .Name xb pb] kt pt, iter, [], 0⟩] scope pos) 0 (.ref I) acc { cenv with scope := relabel scope env }) (RR acc cenv.locals) s₄) E s₃) E s₂ := by
 walk_at "ST"
 case oTag =>
  refine wpAny_newObj_type (wpAny_newFunctionEnv hcell (by intro y hy; simp at hy) (fun h₁ hns₁ hsb₁ => ?_) hkind)
  dsimp only at hns₁ hsb₁ ⊢
  generalize hH2 : s₂.heap.push { cls := .type "list", dict := none, data := .seq ([] : List Value).toArray } = H2 at hns₁ hsb₁ ⊢
  have hC : H2.objs.size = s₂.heap.objs.size + 1 := by rw [← hH2, Heap.size_push]
  have hDC : s₂.heap.objs.size ≠ H2.objs.size := by rw [hC]; exact Nat.ne_of_lt (Nat.lt_succ_self _)
  have below : ∀ b, b < s₂.heap.objs.size → b ≠ H2.objs.size ∧ b ≠ s₂.heap.objs.size := fun b hb => ⟨by rw [hC]; exact Nat.ne_of_lt (Nat.lt_succ_of_lt hb), Nat.ne_of_lt hb⟩
  have hDf : s₂.heap.objs.size ∉ fp := fun hm => Nat.lt_irrefl _ (hfp _ hm)
  have hCf : H2.objs.size ∉ fp := fun hm => by have := hfp _ hm; rw [hC] at this; exact Nat.lt_irrefl _ (Nat.lt_of_succ_lt this)
  have old : ∀ b o, s₂.heap.get? b = some o → h₁.get? b = some o := fun b o e => hsb₁.extBut b o (below b (Heap.lt_size e)).1 (Heap.get?_push_of_some _ (hH2 ▸ Heap.get?_push_of_some _ e))
  have hacc : h₁.PlainList s₂.heap.objs.size #[] := ⟨_, hsb₁.extBut _ _ hDC (Heap.get?_push_of_some _ (hH2 ▸ Heap.get?_push_size _ rfl))⟩
  have hst₁ : St 0 h₁ := W.frame _ _ _ hst fun b _ o e => old b o e
  have fresh : ∀ a, s₂.heap.objs.size ≤ a → s₂.heap.get? a = none := fun a ha => by
    cases e : s₂.heap.get? a with
    | none => rfl
    | some o' => exact absurd (Heap.lt_size e) (Nat.not_lt.mpr ha)
  have loop : ∀ s₃ : Shared, s₃ = { s₂ with heap := h₁, toks := s₂.toks + ([] : List (Str × Value)).length } →
      codeAny (model prog w) A (.compLoop (.ListComp elt [⟨.Tuple [.Name xa pa, .Name xb pb] kt pt, iter, [], 0⟩] scope pos) 0 (.ref I) (.ref s₂.heap.objs.size) (compEnvC scope cl H2.objs.size env))
        (RR (.ref s₂.heap.objs.size) H2.objs.size) s₃ := by
    rintro s₃ rfl
    refine compLoop_pairs (cenv := compEnvC scope cl H2.objs.size env) hh W hsz hab T (lookup_relabel_local hxa) (lookup_relabel_local hxb) (by simp [compEnvC, relabel, hkind]) hDC hDf hCf hst₁ hacc hns₁
      (fun i va vb s₃ m₃ E' hv hn hma hmb hk => hq _ i va vb s₃ m₃ _ hv hn hma hmb (fun b o hbf e => hk b o (below b (Heap.lt_size e)).1 hbf (below b (Heap.lt_size e)).2 (old b o e))) (fun h' tk m' ys hn hpl hys hT hk => ?_) hlen
    exact hRR _ _ h' tk m' ys (fresh _ (Nat.le_refl _)) (fresh _ (by rw [hC]; exact Nat.le_succ _)) hDC hn hpl hys hT fun b o hbf e =>
      hk b o (below b (Heap.lt_size e)).1 hbf (below b (Heap.lt_size e)).2 (old b o e)
  exact codeAny_compStart_list (loop _ rfl) (W.self 0 _ _ _ hst₁ (loop _ rfl))
 walk_at "EN"
theorem comp_pairs {elt iter : PySem.Expr} {xa xb : Str} {pa pb pt : Pos} {kt : Nat} {scope : Scope} {cl : List (Str × Addr)} {pos : Pos} {Q : Value → Shared → Prop}
    (hclos : closureFor scope env = pure cl) (hcell : ∀ y ∈ scope.names, y.2 ≠ .cell) (hkind : scope.kind = .function)
    (hnames : ∀ y ∈ scope.names, y.2 = .local → scope.names.lookup y.1 = some .local) (hxa : scope.names.lookup xa = some .local) (hxb : scope.names.lookup xb = some .local) (hab : xa ≠ xb) (hh : A.handled = none)
    (h : wpAny (model prog w) A (eval iter env) (fun xv s₁ => EnumAt prog w A env scope cl xa xb elt Q E xv s₁) E s)
    (hs : ∀ x, foldedSetIterable iter env x = pure x) :
    wpAny (model prog w) A (eval (.ListComp elt [⟨.Tuple [.Name xa pa, .Name xb pb] kt pt, iter, [], 0⟩] scope pos) env) Q E s := by
 walk_at "ST"
 case oTag =>
  rw [eval_ListComp]
  refine wpAny_comprehension_free (use := none) rfl hs hclos hkind hnames (wpAny_mono h (fun xv s₁ h₁ => wpAny_mono h₁ (fun it s₂ h₂ => ?_) fun _ _ e => e) fun _ _ e => e)
  obtain ⟨T, I, fp, wr, n, Pt, St, Mid, m, rfl, W, hsz, hlen, hst, hfp, hLw, hn, hq, hQ⟩ := h₂
  refine enum_block (RR := fun acc C => compPost (model prog w) A E none Q acc C) hh W hsz hab hlen T hcell hkind hxa hxb hst hfp hq ?_
  intro D C h' tk m' ys hD hC hDC hn' hpl hlen hT hk
  refine ⟨m', hn', fun h'' hs'' => ?_⟩
  have keep : ∀ b o, b ∉ wr → s₂.heap.get? b = some o → h''.get? b = some o := fun b o hbf e => hs''.extBut b o (by rintro rfl; rw [hC] at e; cases e) (hk b o hbf e)
  refine hQ D h'' tk ys hD (hpl.extBut hs''.extBut hDC) hlen hT ?_ (fun b o hbf e => keep b o hbf e)
  exact hn.at' fun o e => keep _ o hLw e
 walk_at "EN"
theorem enumAt_str {x : Str} {t : Tok} {scope : Scope} {cl : List (Str × Addr)} {xa xb : Str} {elt : PySem.Expr} {Q : Value → Shared → Prop} (hh : A.handled = none) (F : Fr h₀ env.locals s.heap m) (N : News h₀ env.locals s.heap news) (f : Nat → Nat → Int) (hsz : x.length ≤ sizeLine)
    (elem : ∀ C i c t u s₃ m₃ E', x.cps[i]? = some c → s₃.heap.Ns C m₃ → m₃ xa = some (.int i t) → m₃ xb = some (.str ⟨#[c]⟩ u) → Fr h₀ env.locals s₃.heap m →
      wpAny (model prog w) A (eval elt (compEnvC scope cl C env)) (fun y s₄ => (∃ t, y = .int (f i c) t) ∧ Keeps s₃ s₄) E' s₃)
    (done : ∀ D h' tk ys n, Fr h₀ env.locals h' m → News h₀ env.locals h' ((D, plainO ys n) :: news) → (∀ q ∈ news, @Ne Nat q.1 D) → IntsAre ys (x.cps.toList.zipIdx.map fun p => f p.2 p.1) → Q (.ref D) { s with heap := h', toks := tk }) :
    wpAny (model prog w) A (call (.type "enumerate") [.str x t]) (fun xv s₁ => EnumAt prog w A env scope cl xa xb elt Q E xv s₁) E s := by
 walk_at "ST"
 case oTag =>
  have hLs : env.locals < s.heap.objs.size := F.ns.lt
  refine call_enumerate_str fun h' he hit hsz' hk => ?_
  have F' : Fr h₀ env.locals h' m := ⟨F.ns.keeps hk, fun b o e => hk b o (F.keep b o e), F.above⟩
  have main : ∀ (P : Nat → Value → Prop) (St : Nat → Heap → Prop), Draws prog w A.in1 s.heap.objs.size [s.heap.objs.size] x.cps.size P St → St 0 h' → (∀ i v, P i v → ∃ c u, x.cps[i]? = some c ∧ v = .str ⟨#[c]⟩ u) →
      EnumAt prog w A env scope cl xa xb elt Q E (.ref (s.heap.objs.size + 1)) { s with heap := h' } := by
    intro P St D hst hP
    have W := WalksT.enumerateD D (s.heap.objs.size + 1) (Nat.succ_ne_self _) (fun hm => Nat.succ_ne_self _ (List.mem_singleton.mp hm)) (by simp)
    refine W.self 0 _ _ _ ⟨⟨_, he⟩, hst⟩ ?_
    have up : ∀ (h'' : Heap), (∀ b o, b ∉ [s.heap.objs.size + 1, s.heap.objs.size] → h'.get? b = some o → h''.get? b = some o) → ∀ b o, s.heap.get? b = some o → h''.get? b = some o := fun h'' hk'' b o e =>
      hk'' b o (fun hm => by
        have hb : @LT.lt Nat _ b s.heap.objs.size := Heap.lt_size e
        rcases List.mem_cons.mp hm with e1 | hm
        · have e1 : @Eq Nat b (s.heap.objs.size + 1) := e1
          omega
        · have e1 : @Eq Nat b s.heap.objs.size := List.mem_singleton.mp hm
          omega) (hk b o e)
    refine ⟨fun i y => i < x.cps.size → ∃ c, x.cps[i]? = some c ∧ ∃ t, y = .int (f i c) t, _, _, _, _, _, _, _, m, rfl, W, ?_, hsz, ⟨⟨_, he⟩, hst⟩, ?_, ?_, F'.ns, ?_, ?_⟩
    · rintro i vals ⟨t, v, _, rfl⟩
      exact ⟨_, _, rfl⟩
    · intro b hb
      show @LT.lt Nat _ b h'.objs.size
      rw [hsz']
      rcases List.mem_cons.mp hb with e1 | hb
      · have e1 : @Eq Nat b (s.heap.objs.size + 1) := e1
        omega
      · have e1 : @Eq Nat b s.heap.objs.size := List.mem_singleton.mp hb
        omega
    · intro hm
      have hLs' : @LT.lt Nat _ env.locals s.heap.objs.size := hLs
      rcases List.mem_cons.mp hm with e | hm
      · have e : @Eq Nat env.locals (s.heap.objs.size + 1) := e
        omega
      · have e : @Eq Nat env.locals s.heap.objs.size := List.mem_singleton.mp hm
        omega
    · rintro C i va vb s₃ m₃ E' ⟨t', v, hv, e⟩ hn hma hmb hk''
      have e1 : va = .int i t' ∧ vb = v := by simpa using e
      obtain ⟨rfl, rfl⟩ := e1
      obtain ⟨c, u, hc, rfl⟩ := hP i _ hv
      exact wpAny_mono (elem C i c t' u s₃ m₃ E' hc hn hma hmb (F.keeps (up _ hk''))) (fun y s₄ h => ⟨fun _ => ⟨c, hc, h.1⟩, h.2⟩) fun _ _ e => e
    · intro D' h'' tk ys hD hpl hlen hT hn hk''
      have up' := up h'' hk''
      have hD' : s.heap.get? D' = none := by
        cases e : s.heap.get? D' with
        | none => rfl
        | some o => rw [hk _ _ e] at hD; cases hD
      obtain ⟨n, F'', N'', ne⟩ := comp_lands (dst := none) (s₂ := s) (tk := tk) F N hD' hpl hn (fun b o _ e => up' b o e)
      refine done D' h'' tk ys.toList n F'' N'' ne (ints_of_both (by simp [hlen]) fun j y k h1 h2 => ?_)
      have hj : j < x.cps.size := by
        rcases Nat.lt_or_ge j ys.size with h | h
        · omega
        · rw [List.getElem?_eq_none (by simpa using h)] at h1; cases h1
      obtain ⟨c, hc, t', rfl⟩ := hT j y (by simpa using h1) hj
      refine ⟨t', ?_⟩
      have : k = f j c := by
        have hc' : x.cps.toList[j]? = some c := by simpa using hc
        simp only [List.getElem?_map, List.getElem?_zipIdx, hc', Option.map_some] at h2
        simpa using h2.symm
      rw [this]
  cases ha : x.cps.all (· < 128)
  · have hit' : h'.IsStrIter s.heap.objs.size "str_iterator" x t 0 := by simpa [strIterType, ha] using hit
    exact main _ _ (Draws.strWide (A := A.in1) hh s.heap.objs.size x t) hit' fun i v h => h
  · have hit' : h'.IsStrIter s.heap.objs.size "str_ascii_iterator" x t 0 := by simpa [strIterType, ha] using hit
    exact main _ _ (Draws.strAscii (A := A.in1) hh s.heap.objs.size x t) hit' fun i v h => h
 walk_at "EN"
end
end
section
open ZL
noncomputable def codeE (i c : Nat) : Int := (c : Int) + 128 * ((i : Int).fmod 2)
theorem letters_elem {w : World} {A : Around} {env : Env} {E' : Value → Shared → Prop} {s₃ : Shared} {h₀ : Heap} {L : Addr} {m m₃ mg mb : Str → Option Value} {mean : ExcName → Option Value} {scope : Scope} {cl : List (Str × Addr)} {C : Addr} {i c : Nat} {t u : Tok} {p1 p2 p3 p4 p5 p6 p7 p8 p9 : Pos}
    (hk : (relabel scope env).kind = .function) (hx1 : ∀ C, (compEnvC scope cl C env).kindOf (Str.ofString "sign") = some .local) (hx2 : ∀ C, (compEnvC scope cl C env).kindOf (Str.ofString "place") = some .local)
    (hx3 : ∀ C, (compEnvC scope cl C env).kindOf (Str.ofString "ord") = some .globalImplicit) (hg : env.globals = mainGlobals) (hb : env.builtins = builtinsNs)
    (F : Fr h₀ L s₃.heap m) (X : (KK w.params).In h₀) (T : Top qq LOOSE mean mg mb h₀) (hns : s₃.heap.Ns C m₃) (h1 : m₃ (Str.ofString "place") = some (.int i t)) (h2 : m₃ (Str.ofString "sign") = some (.str ⟨#[c]⟩ u)) :
    wpAny (model PW w) A (eval (.BinOp (.Call (.Name (Str.ofString "ord") p1) [.Name (Str.ofString "sign") p2] [] p3) .Add (.BinOp (.Constant (.int 128) 0 p4) .Mult (.BinOp (.Name (Str.ofString "place") p5) .Mod (.Constant (.int 2) 0 p6) p7) p8) p9) (compEnvC scope cl C env)) (fun y s₄ => (∃ t, y = .int (codeE i c) t) ∧ Keeps s₃ s₄) E' s₃ := by
 walk_at "ST"
 case oTag =>
  have l1 : ∀ {pos : Pos} {Q' E' : Value → Shared → Prop} {s' : Shared}, s'.heap = s₃.heap → Q' (.str ⟨#[c]⟩ u) s' → wpAny (model PW w) A (eval (.Name (Str.ofString "sign") pos) (compEnvC scope cl C env)) Q' E' s' :=
    fun e h => wpAny_Name (wpAny_loadName_local hk (hx1 C) (e ▸ hns) h2 h) (by decide)
  have l2 : ∀ {pos : Pos} {Q' E' : Value → Shared → Prop} {s' : Shared}, s'.heap = s₃.heap → Q' (.int i t) s' → wpAny (model PW w) A (eval (.Name (Str.ofString "place") pos) (compEnvC scope cl C env)) Q' E' s' :=
    fun e h => wpAny_Name (wpAny_loadName_local hk (hx2 C) (e ▸ hns) h1 h) (by decide)
  have l3 : ∀ {pos : Pos} {Q' E' : Value → Shared → Prop} {s' : Shared}, s'.heap = s₃.heap → Q' (.builtin "ord") s' → wpAny (model PW w) A (eval (.Name (Str.ofString "ord") pos) (compEnvC scope cl C env)) Q' E' s' :=
    fun {_ _ _ s'} e h => Name_function_global hk (hx3 C) (loadGlobal_builtin (env := compEnvC scope cl C env) (by show s'.heap.Ns env.globals mg; rw [hg, e]; exact T.g.keeps F.keep) (mg_none_of X T.g rfl) (by show s'.heap.Ns env.builtins mb; rw [hb, e]; exact T.b.keeps F.keep) ((T.builtins _ (by decide)).trans rfl) h) (by decide)
  refine wpAny_BinOp (Call_Name1 (l3 rfl ?_))
  refine PySem.callWith_builtin1 (l1 rfl (PySem.P.ord_of_char ?_))
  refine wpAny_BinOp (wpAny_Constant_int (wpAny_BinOp (l2 rfl (wpAny_Constant_int (mod_int' (by decide) ?_)))))
  refine mul_int ?_ ?_
  · exact add_int ⟨⟨_, rfl⟩, _, _, rfl, fun _ _ e => e⟩
  · exact IntMulOk.of_left (by decide +kernel)
 walk_at "EN"
noncomputable def codesL : Nat → List Nat → List Int
  | _, [] => []
  | i, c :: r => codeE i c :: codesL (i + 1) r
theorem codesL_zip : ∀ (l : List Nat) (i : Nat), (l.zipIdx i).map (fun p => codeE p.2 p.1) = codesL i l
  | [], _ => rfl
  | c :: r, i => by simp [List.zipIdx_cons, codesL, codesL_zip r (i + 1)]
theorem codesL_app : ∀ (a b : List Nat) (i : Nat), codesL i (a ++ b) = codesL i a ++ codesL (i + a.length) b
  | [], b, i => rfl
  | c :: r, b, i => by
    simp only [List.cons_append, codesL, codesL_app r b (i + 1), List.length_cons]
    rw [show i + 1 + r.length = i + (r.length + 1) by omega]
theorem codesL_len : ∀ (a : List Nat) (i : Nat), (codesL i a).length = a.length
  | [], _ => rfl
  | c :: r, i => by simp [codesL, codesL_len r (i + 1)]
theorem codesL_get : ∀ (l : List Nat) (i j : Nat), (codesL i l)[j]? = (l[j]?).map (codeE (i + j))
  | [], _, _ => by simp [codesL]
  | c :: r, i, 0 => by simp [codesL]
  | c :: r, i, j + 1 => by
    simp only [codesL, List.getElem?_cons_succ, codesL_get r (i + 1) j]
    rw [show i + 1 + j = i + (j + 1) by omega]
theorem varL_drop : ∀ (f : Nat) (cs : List Int) (d j : Nat) (b v : Int), varL f cs (j + d) b v = (varL f (cs.drop d) j b v).map fun p => (p.1, p.2 + d)
  | 0, _, _, _, _, _ => rfl
  | f + 1, cs, d, j, b, v => by
    unfold varL
    split
    · rfl
    · rw [List.getElem?_drop, Nat.add_comm d j]
      split
      · rfl
      · split
        · rw [← varL_drop f cs d (j + 1)]
          rw [show j + 1 + d = j + d + 1 by omega]
        · rfl
noncomputable def lettersL : List Nat := [102, 105, 108, 115, 116]
noncomputable def valL (l1 l2 l3 : Nat) : Int := ((l1 % 64 : Nat) : Int) * 262144 + ((l2 % 64 : Nat) : Int) * 4096 + ((l3 % 64 : Nat) : Int) * 64 + 13
theorem par (i : Nat) : (i : Int).fmod 2 = 0 ∧ ((i + 1 : Nat) : Int).fmod 2 = 1 ∨ (i : Int).fmod 2 = 1 ∧ ((i + 1 : Nat) : Int).fmod 2 = 0 := by
  rw [Int.natCast_add, Int.fmod_eq_emod_of_nonneg _ (show (0 : Int) ≤ 2 by decide), Int.fmod_eq_emod_of_nonneg _ (show (0 : Int) ≤ 2 by decide), Int.add_emod (i : Int) _ 2]
  have h0 := Int.emod_nonneg (i : Int) (show (2 : Int) ≠ 0 by decide)
  have h1 := Int.emod_lt_of_pos (i : Int) (show (0 : Int) < 2 by decide)
  generalize (i : Int) % 2 = x at *
  have : x = 0 ∨ x = 1 := by omega
  rcases this with rfl | rfl <;> decide
noncomputable def chk (p : Int) (l1 l2 l3 : Nat) : Bool :=
  let a := (l1 : Int) + 128 * p
  let b := (l2 : Int) + 128 * (1 - p)
  let c := (l3 : Int) + 128 * p
  let d := (13 : Int) + 128 * (1 - p)
  varL 5 [a, b, c, d] 1 a (Builtin.bitAnd a 63) == some (valL l1 l2 l3, 4)
theorem chk_all : (lettersL.all fun a => lettersL.all fun b => lettersL.all fun c => chk 0 a b c && chk 1 a b c) = true := by decide +kernel
theorem isLetter_mem {c : Nat} (h : isLetter c = true) : c ∈ lettersL := by
  simp only [isLetter, Bool.or_eq_true, beq_iff_eq] at h
  simp only [lettersL, List.mem_cons, List.not_mem_nil, or_false]; omega
theorem chk_at {p : Int} {a b c : Nat} (hp : p = 0 ∨ p = 1) (ha : isLetter a = true) (hb : isLetter b = true) (hc : isLetter c = true) : chk p a b c = true := by
  have h := List.all_eq_true.mp (List.all_eq_true.mp (List.all_eq_true.mp chk_all a (isLetter_mem ha)) b (isLetter_mem hb)) c (isLetter_mem hc)
  rw [Bool.and_eq_true] at h
  rcases hp with rfl | rfl
  · exact h.1
  · exact h.2
theorem code_par {i : Nat} {p : Int} (h : (i : Int).fmod 2 = p) (c : Nat) : codeE i c = (c : Int) + 128 * p := by rw [← h]; rfl
theorem dot_chk : Builtin.bitAnd 46 64 = 0 ∧ Builtin.bitAnd 174 64 = 0 ∧ Builtin.bitAnd 46 63 = 46 ∧ Builtin.bitAnd 174 63 = 46 := by decide +kernel
theorem var_dot {n j : Nat} {r : List Nat} (h : j < n) : (codesL 0 (List.replicate n 46 ++ r))[j]? = some (codeE j 46) ∧ ∀ cs, varL 5 cs (j + 1) (codeE j 46) (Builtin.bitAnd (codeE j 46) 63) = some (46, j + 1) := by
 walk_at "ST"
 case oTag =>
  refine ⟨?_, fun cs => ?_⟩
  · rw [codesL_get, List.getElem?_append_left (by simpa using h), List.getElem?_replicate, if_pos h]; simp
  · obtain ⟨d1, d2, d3, d4⟩ := dot_chk
    unfold varL
    rcases par j with ⟨q, _⟩ | ⟨q, _⟩
    · rw [code_par q]
      rw [show ((46 : Nat) : Int) + 128 * 0 = 46 by decide, d1, d3, if_pos rfl]
    · rw [code_par q]
      rw [show ((46 : Nat) : Int) + 128 * 1 = 174 by decide, d2, d4, if_pos rfl]
 walk_at "EN"
theorem var_letters {n l1 l2 l3 : Nat} (h1 : isLetter l1 = true) (h2 : isLetter l2 = true) (h3 : isLetter l3 = true) : (codesL 0 (List.replicate n 46 ++ [l1, l2, l3, 13]))[n]? = some (codeE n l1) ∧
    varL 5 (codesL 0 (List.replicate n 46 ++ [l1, l2, l3, 13])) (n + 1) (codeE n l1) (Builtin.bitAnd (codeE n l1) 63) = some (valL l1 l2 l3, n + 4) := by
 walk_at "ST"
 case oTag =>
  refine ⟨?_, ?_⟩
  · rw [codesL_get, List.getElem?_append_right (by simp)]; simp
  · rw [Nat.add_comm n 1, varL_drop, codesL_app, List.drop_left' (by rw [codesL_len]; simp)]
    simp only [codesL, List.length_replicate, Nat.zero_add]
    have key : ∀ p q : Int, (p = 0 ∨ p = 1) → q = 1 - p → (n : Int).fmod 2 = p → ((n + 1 : Nat) : Int).fmod 2 = q → ((n + 1 + 1 : Nat) : Int).fmod 2 = p → ((n + 1 + 1 + 1 : Nat) : Int).fmod 2 = q →
        Option.map (fun r : Int × Nat => (r.1, r.2 + n)) (varL 5 [codeE n l1, codeE (n + 1) l2, codeE (n + 1 + 1) l3, codeE (n + 1 + 1 + 1) 13] 1 (codeE n l1) (Builtin.bitAnd (codeE n l1) 63)) = some (valL l1 l2 l3, n + 4) := by
      intro p q hp hq e1 e2 e3 e4
      have hc := chk_at hp h1 h2 h3
      subst hq
      unfold chk at hc
      rw [code_par e1, code_par e2, code_par e3, code_par e4]
      have := beq_iff_eq.mp hc
      rw [show (((13 : Nat) : Int)) = 13 from rfl, this]
      simp [Nat.add_comm]
    rcases par n with ⟨a, b⟩ | ⟨a, b⟩
    · rcases par (n + 1) with ⟨c, d⟩ | ⟨c, d⟩
      · rw [b] at c; cases c
      · rcases par (n + 1 + 1) with ⟨e, f⟩ | ⟨e, f⟩
        · exact key 0 1 (.inl rfl) rfl a b d f
        · rw [d] at e; cases e
    · rcases par (n + 1) with ⟨c, d⟩ | ⟨c, d⟩
      · rcases par (n + 1 + 1) with ⟨e, f⟩ | ⟨e, f⟩
        · rw [d] at e; cases e
        · exact key 1 0 (.inr rfl) rfl a b d f
      · rw [b] at c; cases c
 walk_at "EN"
end
section
open ZL ZLett
noncomputable def figsL : List Int := [38, 41, 44, 51, 52]
noncomputable def ixL (c : Nat) : Nat := lettersL.idxOf c
noncomputable def vchk (a b c : Nat) : Bool :=
  let v := valL a b c
  v != 46 && figsL.contains (v.fdiv 262144) && figsL.contains ((v.fdiv 4096).fmod 64) && figsL.contains ((v.fdiv 64).fmod 64) && figsL.idxOf (v.fdiv 262144) == ixL a && figsL.idxOf ((v.fdiv 4096).fmod 64) == ixL b && figsL.idxOf ((v.fdiv 64).fmod 64) == ixL c
theorem vchk_all : (lettersL.all fun a => lettersL.all fun b => lettersL.all fun c => vchk a b c) = true := by decide +kernel
structure ValIs (v : Int) (a b c : Nat) : Prop where
  ne : v ≠ 46
  m1 : v.fdiv 262144 ∈ figsL
  m2 : (v.fdiv 4096).fmod 64 ∈ figsL
  m3 : (v.fdiv 64).fmod 64 ∈ figsL
  e1 : figsL.idxOf (v.fdiv 262144) = ixL a
  e2 : figsL.idxOf ((v.fdiv 4096).fmod 64) = ixL b
  e3 : figsL.idxOf ((v.fdiv 64).fmod 64) = ixL c
theorem valIs {a b c : Nat} (ha : isLetter a = true) (hb : isLetter b = true) (hc : isLetter c = true) : ValIs (valL a b c) a b c := by
  have h := List.all_eq_true.mp (List.all_eq_true.mp (List.all_eq_true.mp vchk_all a (isLetter_mem ha)) b (isLetter_mem hb)) c (isLetter_mem hc)
  simp only [vchk, Bool.and_eq_true, bne_iff_ne, ne_eq, List.contains_iff_mem, beq_iff_eq] at h
  obtain ⟨⟨⟨⟨⟨⟨h1, h2⟩, h3⟩, h4⟩, h5⟩, h6⟩, h7⟩ := h
  exact ⟨h1, h2, h3, h4, h5, h6, h7⟩
theorem varint_call {w : World} {mean : ExcName → Option Value} {mg mb : Str → Option Value} {dp un : Nat} {gd : Option (List Code)} {env0 : Env} {outer : List Env} {A₀ : Around} {base h₀ : Heap} {L : Addr} {m : Str → Option Value} {s : Shared} {Q E : Value → Shared → Prop} {news : List (Addr × Obj)} {I D : Addr} {vs : List Value} {cs : List Int} {k n j jf : Nat} {b fin : Int} (kB : Below A₀ base outer h₀) (kF : Fr h₀ L s.heap m) (kX : (KK w.params).In h₀) (kN : News h₀ L s.heap ((I, itO D j) :: (D, plainO vs k) :: news)) (kT : Top qq LOOSE mean mg mb h₀) (kf : env0.frame = some L) (kk : env0.scope.kind = .function) (kd : dp + 10 < recursionLimit) (ku : un + 60 < cLine) (hi : IntsAre vs cs) (hU : ∀ p ∈ ((D, plainO vs k) :: news), p.1 ≠ I) (hj : cs[j]? = some b)
    (hr : varL n cs (j + 1) b (Builtin.bitAnd b 63) = some (fin, jf))
    (done : ∀ h' tk' t', Fr h₀ L h' m → News h₀ L h' ((I, itO D jf) :: (D, plainO vs k) :: news) → Q (.int fin t') { s with heap := h', toks := tk' }) : wpAny (model PW w) (AT dp un gd env0 outer) (call (.ref 63) [.ref I]) Q E s :=
  varint_spec w I D vs cs k n j jf b fin news hi hU hj hr _ _ _ _ _ _ _ _ _ _ _ _ _ _ _ _ kB kF kX kN kT kf kk kd ku fun v h' tk' n' hR F N => by
    obtain ⟨t', rfl, rfl⟩ := hR
    exact done _ _ _ F N
noncomputable def letM (x : Str) (tx : Tok) (I : Addr) (num : Int) (t1 : Tok) : Str → Option Value := fun y =>
  if y = Str.ofString "number" then some (.int num t1) else if y = Str.ofString "tape" then some (.ref I) else if y = Str.ofString "row" then some (.str x tx) else none
theorem letM_no {x : Str} {tx : Tok} {I : Addr} {num : Int} {t1 : Tok} {y : Str} (e1 : ¬ y = Str.ofString "number") (e2 : ¬ y = Str.ofString "tape") (e3 : ¬ y = Str.ofString "row") : letM x tx I num t1 y = none := by simp only [letM, e1, e2, e3, if_false]
theorem let_end {h₀ h : Heap} {L I : Addr} {x : Str} {tx : Tok} {num : Int} {t1 : Tok} {m : Str → Option Value} (F : Fr h₀ L h m)
    (m1 : m (Str.ofString "number") = some (.int num t1)) (m2 : m (Str.ofString "tape") = some (.ref I)) (m3 : m (Str.ofString "row") = some (.str x tx))
    (m7 : ∀ y, ¬ y = Str.ofString "number" → ¬ y = Str.ofString "tape" → ¬ y = Str.ofString "row" → m y = none) : Fr h₀ L h (letM x tx I num t1) := by
  have : m = letM x tx I num t1 := by
    funext y
    unfold letM
    split
    · next e => rw [e, m1]
    split
    · next e => rw [e, m2]
    split
    · next e => rw [e, m3]
    apply m7 <;> assumption
  exact this ▸ F
inductive TapeAt (n : Nat) (fin : Int) : Int → Nat → Nat → Prop
  | dots (j : Nat) : j ≤ n → TapeAt n fin 46 j (n - j + 1)
  | read : TapeAt n fin fin (n + 4) 0
noncomputable def letJ (n : Nat) (fin : Int) (h₀ : Heap) (L I D : Addr) (x : Str) (tx : Tok) (vs : List Value) (kk : Nat) (news : List (Addr × Obj)) (s : Shared) (k : Nat) (s' : Shared) : Prop :=
  ∃ h tk num t1 j, s' = { s with heap := h, toks := tk } ∧ Fr h₀ L h (letM x tx I num t1) ∧ News h₀ L h ((I, itO D j) :: (D, plainO vs kk) :: news) ∧ TapeAt n fin num j k
theorem tape_next {n l1 l2 l3 j : Nat} (h1 : isLetter l1 = true) (h2 : isLetter l2 = true) (h3 : isLetter l3 = true) (hj : j ≤ n) :
    ∃ b num j' k, (codesL 0 (List.replicate n 46 ++ [l1, l2, l3, 13]))[j]? = some b ∧ varL 5 (codesL 0 (List.replicate n 46 ++ [l1, l2, l3, 13])) (j + 1) b (Builtin.bitAnd b 63) = some (num, j') ∧ TapeAt n (valL l1 l2 l3) num j' k ∧ k < n - j + 1 := by
 walk_at "ST"
 case oTag =>
  rcases Nat.lt_or_ge j n with h | h
  · obtain ⟨a, b⟩ := var_dot (r := [l1, l2, l3, 13]) h
    exact ⟨_, _, _, _, a, b _, .dots (j + 1) h, by omega⟩
  · have : j = n := by omega
    subst this
    obtain ⟨a, b⟩ := var_letters (n := j) h1 h2 h3
    exact ⟨_, _, _, _, a, b, .read, by omega⟩
 walk_at "EN"
example : True := by
  k_with "!MY CALLED" => (guard_expr onLett =~ onLett; ((case kB => assumption); (case kF => assumption); (case kX => assumption); (case kN => assumption); (case kT => assumption); (case kf => exact rfl); (case kk => exact rfl); (case kd => (show _ < recursionLimit; (try dsimp only); omega)); (case ku => (show _ < cLine; (try dsimp only); omega)); k_whole))
  k_with "!call ref" => (guard_expr onLett =~ onLett; (k_here; (with_reducible show wpAny _ _ (call (Value.ref 63) [_]) _ _ _); k_dflt (refine' varint_call ?kB ?kF ?kX ?kN ?kT ?kf ?kk ?kd ?ku ?h1_31 ?h2_31 ?h3_31 ?h4_31 ?_; walk_at "MY CALLED"; (case h1_31 => assumption); (case h2_31 => assumption); (case h3_31 => assumption); (case h4_31 => assumption); intro hq''k tq''k tn''k F''k N''k)))
  trivial
theorem let_loop {w : World} {dp un : Nat} {gd : Option (List Code)} {env0 : Env} {outer : List Env} {A₀ : Around} {base : Heap} {E : Value → Shared → Prop} {s : Shared} {Q : Flow → Shared → Prop} {h₀ : Heap} {L I D : Addr} {news : List (Addr × Obj)} {vs : List Value} {kk n l1 l2 l3 j k : Nat} {x : Str} {tx : Tok} {num : Int} {t1 : Tok} {mean : ExcName → Option Value} {mg mb : Str → Option Value}
    (B : Below A₀ base outer h₀) (X : (KK w.params).In h₀) (T : Top qq LOOSE mean mg mb h₀) (he : env0 = envOf (Str.ofString "_law_letters") (scopeOf 74) L 189 (.ref 188)) (hd : dp + 10 < recursionLimit) (hu : un + 60 < cLine)
    (F : Fr h₀ L s.heap (letM x tx I num t1)) (N : News h₀ L s.heap ((I, itO D j) :: (D, plainO vs kk) :: news)) (hi : IntsAre vs (codesL 0 (List.replicate n 46 ++ [l1, l2, l3, 13]))) (hU : ∀ p ∈ ((D, plainO vs kk) :: news), p.1 ≠ I)
    (h1 : isLetter l1 = true) (h2 : isLetter l2 = true) (h3 : isLetter l3 = true) (hE : PassesOwn (model PW w) (AT dp un gd env0 outer) env0 E) (hr : TapeAt n (valL l1 l2 l3) num j k)
    (done : ∀ h' tk' t1', Fr h₀ L h' (letM x tx I (valL l1 l2 l3) t1') → News h₀ L h' ((I, itO D (n + 4)) :: (D, plainO vs kk) :: news) → Q .next { s with heap := h', toks := tk' }) :
    wpAny (model PW w) (AT dp un gd env0 outer) (exec (stmtIn 74 2) env0) Q E s := by
 walk_at "ST"
 case oTag =>
  have hv := valIs h1 h2 h3
  have hnext := fun j hj => tape_next (n := n) (j := j) h1 h2 h3 hj
  generalize valL l1 l2 l3 = fin at hv hnext hr done
  generalize codesL 0 (List.replicate n 46 ++ [l1, l2, l3, 13]) = cs at hi hnext
  with_unfolding_all refine while_J (letJ n fin h₀ L I D x tx vs kk news s) hE _ ⟨_, s.toks, _, _, _, rfl, F, N, hr⟩ ?_
  subst he
  rintro k s' W hW ⟨h, tk, num, t1, j, rfl, F, N, hr⟩
  clear hE
  cases hr with
  | dots _ hj =>
    obtain ⟨b, num', j', k', hb, hvr, ht, hk⟩ := hnext j hj
    k_steps
    · refine hW _ _ ?_
      exact ⟨k', hk, _, _, _, _, _, rfl, let_end ‹Fr _ _ _ _› rfl rfl rfl (fun y e1 e2 e3 => by (repeat (with_reducible refine upd_no (by assumption) ?_)); exact letM_no e1 e2 e3), ‹News _ _ _ _›, ht⟩
    all_goals exact absurd (by decide) ‹¬ _›
  | read =>
    have hne := hv.ne
    k_steps
    all_goals first
      | exact absurd ‹_› hne
      | exact done _ _ _ (let_end ‹Fr _ _ _ _› rfl rfl rfl (fun y e1 e2 e3 => by (repeat (with_reducible refine upd_no (by assumption) ?_)); exact letM_no e1 e2 e3)) ‹News _ _ _ _›
 walk_at "EN"
end
section
open ZL ZLetu
example : True := by
  k_with "!MY CALLED" => (guard_expr onLetu =~ onLetu; ((case kB => assumption); (case kF => assumption); (case kX => assumption); (case kN => assumption); (case kT => assumption); (case kf => exact rfl); (case kk => exact rfl); (case kd => (show _ < recursionLimit; (try dsimp only); omega)); (case ku => (show _ < cLine; (try dsimp only); omega)); k_whole))
  k_with "!call ref" => (guard_expr onLetu =~ onLetu; (k_here; (with_reducible show wpAny _ _ (call (Value.ref 63) [_]) _ _ _); k_dflt (refine' varint_call ?kB ?kF ?kX ?kN ?kT ?kf ?kk ?kd ?ku ?h1_33 ?h2_33 ?h3_33 ?h4_33 ?_; walk_at "MY CALLED"; (case h1_33 => assumption); (case h2_33 => assumption); (case h3_33 => assumption); (case h4_33 => assumption); intro hq''k tq''k tn''k F''k N''k)))
  k_with "!eval ListComp" => (guard_expr onLetu =~ onLetu; (k_here; k_dflt (refine' comp_pairs ?k1_34 ?k2_34 ?k3_34 ?k4_34 ?k5_34 ?k6_34 ?k7_34 ?k8_34 ?_ ?k9_34; (case k1_34 => exact rfl); (case k2_34 => decide); (case k3_34 => exact rfl); (case k4_34 => decide); (case k5_34 => exact rfl); (case k6_34 => exact rfl); (case k7_34 => decide); (case k8_34 => exact rfl); (case k9_34 => exact fun _ => rfl))))
  k_with "!call builtin:iter" => (guard_expr onLetu =~ onLetu; (k_here; (with_reducible show wpAny _ _ (call (Value.builtin "iter") [Value.ref _]) _ _ _); k_dflt (refine' iter_list ?k1_35 ?k2_35 ?k3_35 ?_; (case k1_35 => assumption); (case k2_35 => assumption); (case k3_35 => k_mem); k_whole; intro I''k h''k F''k N''k l1'k hU''k; k_lt l1'k)))
  trivial
theorem enum_call {w : World} {A : Around} {E : Value → Shared → Prop} {s : Shared} {env : Env} {h₀ : Heap} {m mg mb : Str → Option Value} {mean : ExcName → Option Value} {news : List (Addr × Obj)} {x : Str} {t : Tok} {scope : Scope} {cl : List (Str × Addr)} {Q : Value → Shared → Prop} {p1 p2 p3 p4 p5 p6 p7 p8 p9 : Pos} {n l1 l2 l3 : Nat}
    (hh : A.handled = none) (F : Fr h₀ env.locals s.heap m) (N : News h₀ env.locals s.heap news) (X : (KK w.params).In h₀) (T : Top qq LOOSE mean mg mb h₀) (hx : toL x = List.replicate n 46 ++ [l1, l2, l3, 13]) (hn : n ≤ 100)
    (hk : (relabel scope env).kind = .function) (hx1 : ∀ C, (compEnvC scope cl C env).kindOf (Str.ofString "sign") = some .local) (hx2 : ∀ C, (compEnvC scope cl C env).kindOf (Str.ofString "place") = some .local)
    (hx3 : ∀ C, (compEnvC scope cl C env).kindOf (Str.ofString "ord") = some .globalImplicit) (hg : env.globals = mainGlobals) (hb : env.builtins = builtinsNs)
    (done : ∀ D h' tk ys k, Fr h₀ env.locals h' m → News h₀ env.locals h' ((D, plainO ys k) :: news) → (∀ q ∈ news, @Ne Nat q.1 D) → IntsAre ys (codesL 0 (List.replicate n 46 ++ [l1, l2, l3, 13])) → Q (.ref D) { s with heap := h', toks := tk }) :
    wpAny (model PW w) A (call (.type "enumerate") [.str x t]) (fun xv s₁ => EnumAt PW w A env scope cl (Str.ofString "place") (Str.ofString "sign") (.BinOp (.Call (.Name (Str.ofString "ord") p1) [.Name (Str.ofString "sign") p2] [] p3) .Add (.BinOp (.Constant (.int 128) 0 p4) .Mult (.BinOp (.Name (Str.ofString "place") p5) .Mod (.Constant (.int 2) 0 p6) p7) p8) p9) Q E xv s₁) E s := by
 walk_at "ST"
 case oTag =>
  have hl : x.length = n + 4 := by
    have : (toL x).length = n + 4 := by rw [hx]; simp
    simpa [toL, Str.length] using this
  refine enumAt_str hh F N codeE (by rw [hl, sizeLine_eq]; omega) (fun C i c t u s₃ m₃ E' _ hns h1 h2 F' => letters_elem hk hx1 hx2 hx3 hg hb F' X T hns h1 h2) fun D h' tk ys k F' N' ne hi => done D h' tk ys k F' N' ne ?_
  rw [codesL_zip] at hi
  rwa [← hx]
 walk_at "EN"
example : True := by
  k_with "!call type:enumerate" => (guard_expr onLetu =~ onLetu; (k_here; k_dflt (with_unfolding_all refine' enum_call ?k0_36 ?k1_36 ?k2_36 ?k3_36 ?k4_36 ?k5_36 ?k6_36 ?k7_36 ?k8_36 ?k9_36 ?ka_36 ?kb_36 ?kc_36 ?_; (case k0_36 => exact rfl); (case k1_36 => assumption); (case k2_36 => assumption); (case k3_36 => assumption); (case k4_36 => assumption); (case k5_36 => assumption); (case k6_36 => assumption); (case k7_36 => exact rfl); (case k8_36 => exact fun _ => rfl); (case k9_36 => exact fun _ => rfl); (case ka_36 => exact fun _ => rfl); (case kb_36 => exact rfl); (case kc_36 => exact rfl); k_whole; intro D''k h''k tk''k ys''k k''k F''k N''k ne''k hi''k)))
  k_with "!exec" => (guard_expr onLetu =~ onLetu; (k_here; (with_reducible show wpAny _ _ (exec (Stmt.While _ _ _ _) _) _ _ _); refine Stop.mk ?_))
  trivial
structure FigAt (k : Int) (i : Nat) : Prop where
  eq : figsL.idxOf k = i
theorem index_figs {w : World} {A : Around} {E : Value → Shared → Prop} {s : Shared} {l : Addr} {vs : List Value} {k : Int} {t : Tok} {Q : Value → Shared → Prop} (hl : s.heap.IsList l vs.toArray) (hi : IntsAre vs figsL) (hk : k ∈ figsL)
    (h : ∀ (i : Nat) t tk, FigAt k i → Q (.int (i : Int) t) { s with toks := tk }) : wpAny (model PW w) A (call (.builtin "list.index") [.ref l, .int k t]) Q E s :=
  index_list_ints hl hi (by decide +kernel) hk (h _ _ _ ⟨rfl⟩)
example : True := by
  k_with "!call builtin:list.index" => (guard_expr onLetu =~ onLetu; (k_here; (with_reducible show wpAny _ _ (call (Value.builtin "list.index") [Value.ref _, Value.int _ _]) _ _ _); k_dflt (refine' index_figs ?k1_38 ?k2_38 ?k3_38 ?_; (case k3_38 => assumption); (case k1_38 => exact ⟨_, News.get (by k_asm) (by k_mem), rfl, 0, rfl⟩); (case k2_38 => repeat (first | exact .nil | refine .cons _ _ ?_)); k_whole; intro ii'k ti'k tki'k hii'k)))
  trivial
theorem allLt_mem {d : Nat} : ∀ (l : List (Addr × Obj)), AllLt d l → ∀ p ∈ l, @LT.lt Nat _ p.1 d
  | [], _, _, hp => nomatch hp
  | q :: r, h, p, hp => (List.mem_cons.mp hp).elim (fun e => e ▸ h.1) (fun hp => allLt_mem r h.2 p hp)
theorem letters_spec (w : World) (x : Str) (t : Tok) (n l1 l2 l3 : Nat) (news : List (Addr × Obj)) (hx : toL x = List.replicate n 46 ++ [l1, l2, l3]) (hn : n ≤ 100) (h1 : isLetter l1 = true) (h2 : isLetter l2 = true) (h3 : isLetter l3 = true) :
    Call2 w 189 [.str x t] news (fun v n' => ∃ D k t1 t2 t3, v = .ref D ∧ n' = (D, plainO [.int (ixL l1 : Int) t1, .int (ixL l2 : Int) t2, .int (ixL l3 : Int) t3] k) :: news ∧ ∀ p ∈ news, @LT.lt Nat _ p.1 D) := by
 walk_at "ST"
 case oTag =>
  unfold Call2
  intros; rename_i hret
  have hxl : x.length ≤ 103 := by
    have : (toL x).length = n + 3 := by rw [hx]; simp
    have e : x.length = (toL x).length := by simp [toL, Str.length]
    omega
  have hx' : toL (x ++ Str.ofString "\r") = List.replicate n 46 ++ [l1, l2, l3, 13] := by
    show (x ++ Str.ofString "\r").cps.toList = _
    rw [Str.app_list, show (Str.ofString "\r").cps.toList = [13] by decide +kernel]
    show toL x ++ [13] = _
    rw [hx]; simp
  obtain ⟨b, num', j', k', hb, hvr, ht, hk⟩ := tape_next (n := n) (j := 0) h1 h2 h3 (Nat.zero_le _)
  walk_at "MY ENTER"
  k_steps
  unfold Stop
  with_unfolding_all refine let_loop (n := n) (l1 := l1) (l2 := l2) (l3 := l3) (x := x) (tx := t) ‹Below _ _ _ _› ‹_› ‹_› rfl ?hd ?hu (let_end ‹Fr _ _ _ _› rfl rfl rfl ?m7) ‹News _ _ _ _› ‹IntsAre _ _› ‹∀ p : Addr × Obj, p ∈ _ → p.1 ≠ _› h1 h2 h3 (by passes_own) ht ?_
  case hd => show _ + 1 + 10 < recursionLimit; dsimp only; omega
  case hu => show _ + 3 + 60 < cLine; dsimp only; omega
  case m7 =>
    intro y e1 e2 e3
    simp only [upd, e1, e2, if_false]
    with_unfolding_all show List.lookup y [(Str.ofString "row", Value.str x t)] = none
    simp only [List.lookup, beq_false_of_ne e3]
  intro h' tk' t1' F' N'
  unfold letM at F'
  have hv := valIs h1 h2 h3
  obtain ⟨v1, v2, v3, v4, v5, v6, v7⟩ := hv
  generalize valL l1 l2 l3 = fin at *
  k_steps
  rename (@LT.lt Nat _ _ _ ∧ @LT.lt Nat _ _ _ ∧ @LT.lt Nat _ _ _ ∧ AllLt _ news) => hlt
  rename FigAt _ _ => g
  have f3 := g.eq.symm.trans v7
  clear g
  rename FigAt _ _ => g
  have f2 := g.eq.symm.trans v6
  clear g
  rename FigAt _ _ => g
  have f1 := g.eq.symm.trans v5
  rw [← f1, ← f2, ← f3] at hret
  exact hret _ _ _ _ ⟨_, _, _, _, _, rfl, rfl, allLt_mem _ hlt.2.2.2⟩ (by k_asm) (by walk_at "MY LEDGER")
 walk_at "EN"
end
section
noncomputable def curN (F i : Nat) : Nat := F / 2 ^ i * 2 ^ i
noncomputable def wordsTo (F i : Nat) : List Str := ((List.range i : List Nat).filter fun (j : Nat) => F.testBit j).map fun (j : Nat) => flagW (j : Int)
theorem cur_bit (F i j : Nat) : (curN F i).testBit j = (decide (i ≤ j) && F.testBit j) := by
  unfold curN
  rw [Nat.testBit_mul_two_pow, Nat.testBit_div_two_pow]
  by_cases h : i ≤ j
  · simp [h, Nat.sub_add_cancel h]
  · simp [h]
theorem cur_zero (F : Nat) : curN F 0 = F := by simp [curN]
theorem cur_and (F i : Nat) : curN F i &&& 2 ^ i = if F.testBit i then 2 ^ i else 0 := by
  refine Nat.eq_of_testBit_eq fun j => ?_
  rw [Nat.testBit_and, cur_bit, Nat.testBit_two_pow]
  by_cases hj : i = j
  · subst hj
    cases h : F.testBit i <;> simp [h]
  · cases h : F.testBit i <;> simp [hj]
theorem cur_or {F i : Nat} (h : F.testBit i = true) : curN F i ||| 2 ^ i = curN F i := by
  refine Nat.eq_of_testBit_eq fun j => ?_
  rw [Nat.testBit_or, cur_bit, Nat.testBit_two_pow]
  by_cases hj : i = j
  · subst hj; simp [h]
  · simp [hj]
theorem cur_down {F i : Nat} (h : F.testBit i = true) : curN F i = curN F (i + 1) + 2 ^ i := by
  have h1 : F / 2 ^ i % 2 = 1 := by rw [Nat.testBit_eq_decide_div_mod_eq] at h; simpa using h
  have h2 : F / 2 ^ (i + 1) = F / 2 ^ i / 2 := by rw [Nat.pow_succ, Nat.div_div_eq_div_mul]
  unfold curN
  rw [h2, Nat.pow_succ]
  generalize F / 2 ^ i = q at *
  generalize 2 ^ i = p
  have : q = 2 * (q / 2) + 1 := by omega
  generalize q / 2 = r at *
  subst this
  rw [Nat.add_mul, Nat.one_mul, Nat.mul_comm 2 r, Nat.mul_assoc, Nat.mul_comm 2 p]
theorem bitNot_not (a : Nat) : Builtin.bitNot (Builtin.bitNot (a : Int)) = (a : Int) := by unfold Builtin.bitNot; omega
theorem bitAnd_nat (a b : Nat) : Builtin.bitAnd (a : Int) (b : Int) = ((a &&& b : Nat) : Int) := by
  unfold Builtin.bitAnd
  simp
theorem bitOr_nat (a b : Nat) : Builtin.bitOr (a : Int) (b : Int) = ((a ||| b : Nat) : Int) := by
  unfold Builtin.bitOr Builtin.bitAnd
  have h1 : ¬ (0 ≤ Builtin.bitNot (a : Int)) := by unfold Builtin.bitNot; omega
  have h2 : ¬ (0 ≤ Builtin.bitNot (b : Int)) := by unfold Builtin.bitNot; omega
  simp only [h1, h2, decide_false, bitNot_not, Int.toNat_natCast]
theorem flag_and (F i : Nat) : Builtin.bitAnd (curN F i : Int) (2 ^ (i : Int).toNat) = if F.testBit i then 2 ^ i else 0 := by
  have : ((2 : Int) ^ (i : Int).toNat) = ((2 ^ i : Nat) : Int) := by simp
  rw [this, bitAnd_nat, cur_and]
  split <;> simp
theorem flag_xor {F i : Nat} (h : F.testBit i = true) : Builtin.bitXor (curN F i : Int) (2 ^ (i : Int).toNat) = (curN F (i + 1) : Int) := by
  have e : ((2 : Int) ^ (i : Int).toNat) = ((2 ^ i : Nat) : Int) := by simp
  unfold Builtin.bitXor
  rw [e, bitOr_nat, bitAnd_nat, cur_or h, cur_and, if_pos h, cur_down h]
  omega
theorem cur_skip {F i : Nat} (h : F.testBit i = false) : curN F (i + 1) = curN F i := by
  refine Nat.eq_of_testBit_eq fun j => ?_
  rw [cur_bit, cur_bit]
  by_cases hj : j = i
  · subst hj; simp [h]
  · by_cases h1 : i ≤ j
    · have : i + 1 ≤ j := by omega
      simp [h1, this]
    · have : ¬ i + 1 ≤ j := by omega
      simp [h1, this]
theorem cur_end {F : Nat} (h : F < 2 ^ 32) : curN F 32 = 0 := by
  unfold curN
  rw [Nat.div_eq_of_lt h, Nat.zero_mul]
theorem words_hit {F i : Nat} (h : F.testBit i = true) : wordsTo F (i + 1) = wordsTo F i ++ [flagW (i : Int)] := by
  unfold wordsTo
  rw [List.range_succ, List.filter_append, List.map_append]; simp [h]
theorem words_skip {F i : Nat} (h : F.testBit i = false) : wordsTo F (i + 1) = wordsTo F i := by
  unfold wordsTo
  rw [List.range_succ, List.filter_append, List.map_append]; simp [h]
theorem words_stop {F k : Nat} (h : curN F k = 0) : ∀ n, wordsTo F (k + n) = wordsTo F k
  | 0 => rfl
  | n + 1 => by
    have hb : F.testBit (k + n) = false := by
      have := cur_bit F k (k + n)
      rw [h] at this
      simpa using this.symm
    rw [show k + (n + 1) = k + n + 1 by omega, words_skip hb, words_stop h n]
end
section
noncomputable def LoopE (prog : Program) (w : World) (A : Around) (target : PySem.Expr) (body els : List Stmt) (env : Env) (I : Addr) (Q : Flow → Shared → Prop) (E : Value → Shared → Prop) (s : Shared) : Prop :=
  codeAny (model prog w) A (.forLoop target (.ref I) body els env) (fun r s' => match r with | .ok f => Q f s' | .error e => cameBackBy (model prog w) A env E e s') s
noncomputable def PeelE (prog : Program) (w : World) (A : Around) (target : PySem.Expr) (body els : List Stmt) (env : Env) (I : Addr) (Q : Flow → Shared → Prop) (E : Value → Shared → Prop) (f : Flow) (s : Shared) : Prop :=
  match f with
  | .next => LoopE prog w A target body els env I Q E s
  | .cont => LoopE prog w A target body els env I Q E s
  | .brk => Q .next s
  | .ret v => Q (.ret v) s
section
variable {prog : Program} {w : World} {A : Around} {E : Value → Shared → Prop} {s : Shared} {env : Env} {Q : Flow → Shared → Prop} {h₀ : Heap} {m : Str → Option Value} {news : List (Addr × Obj)} {target iter : PySem.Expr} {body els : List Stmt}
theorem for_headE {pos : Pos} (h : wpAny (model prog w) A (eval iter env) (fun x s₁ => wpAny (model prog w) A (pyIter x) (fun it s₂ => ∃ I, it = .ref I ∧ LoopE prog w A target body els env I Q E s₂) E s₁) E s)
    (hs : ∀ x, foldedSetIterable iter env x = pure x := by intro _; rfl) : wpAny (model prog w) A (exec (.For target iter body els pos) env) Q E s :=
  wpAny_For (wpAny_mono h (fun _ _ h₁ => wpAny_mono h₁ (fun _ _ h₂ => by obtain ⟨I, rfl, h⟩ := h₂; exact h) fun _ _ e => e) fun _ _ e => e) hs
theorem iter_rangeE {r : Addr} {a b : Int} {t u v : Tok} {ro : Obj} (F : Fr h₀ env.locals s.heap m) (N : News h₀ env.locals s.heap news) (hr : s.heap.get? r = some ro) (hro : ro = { cls := .type "range", dict := none, data := .fields #[.int a t, .int b u, .int 1 v], slots := #[] })
    (hsmall : Builtin.Range.small a b 1 = true) (hab : a ≤ b)
    (h : ∀ I h', Fr h₀ env.locals h' m → News h₀ env.locals h' ((I, rIt a (b - a)) :: news) → (∀ p ∈ news, p.1 ≠ I) → LoopE prog w A target body els env I Q E { s with heap := h' }) :
    wpAny (model prog w) A (pyIter (.ref r)) (fun it s₂ => ∃ I, it = .ref I ∧ LoopE prog w A target body els env I Q E s₂) E s := by
  subst hro
  refine wpAny_pyIter_range hr hsmall ⟨_, rfl, h _ _ (F.push _) ?_ fun p hp => Nat.ne_of_lt (Heap.lt_size (N p hp).1)⟩
  have := N.push F (rIt a (b - a))
  have e : Builtin.Range.rangeSize a b 1 = b - a := by
    unfold Builtin.Range.rangeSize
    simp only [Int.zero_lt_one, if_true]
    split <;> omega
  rw [e]
  exact this
theorem loop_itemE {I : Addr} {x left : Int} {g : Obj → List (Addr × Obj)} (F : Fr h₀ env.locals s.heap m) (N : News h₀ env.locals s.heap news) (U : UpdF I (rIt x left) news g) (hl : 0 < left)
    (hE : PassesOwn (model prog w) A env E) (ht : ∀ v, letOwnedTupleGo target (.ref I) v = pure ())
    (h : ∀ h' t tk', Fr h₀ env.locals h' m → News h₀ env.locals h' (g (rIt (x + 1) (left - 1))) →
      wpAny (model prog w) A (assign target env (.int x t)) (fun _ s₂ => wpAny (model prog w) A (execs body env) (PeelE prog w A target body els env I Q E) E s₂) E { s with heap := h', toks := tk' }) :
    LoopE prog w A target body els env I Q E s := by
 walk_at "ST"
 case oTag =>
  obtain ⟨pre, post, e1, e2, d1, d2⟩ := U.split
  have hI : (I, rIt x left) ∈ news := by rw [e1]; exact List.mem_append_right _ (.head _)
  have hit := (N _ hI).1
  refine codeAny_unfold ?_
  rw [Around.under_of_weight (by rfl) (by rfl)]
  show wpAny _ _ ((forTurn target (.ref I) body els env).onRaise (fun x => do noteFrame x env; theTreesLotGoes x)) _ _ s
  refine wpAny_noted ?_
  simp only [forTurn]
  refine wpAny_bind (wpAny_standAt (wpAny_bind (wpAny_onRaise ?_)))
  refine wpAny_pyNext_range_item hit hl fun h' hit' hs => ?_
  have ge : h'.get? I = some (rIt (x + 1) (left - 1)) := hit'
  have F' := F.change hs (N _ hI).2.1 (N _ hI).2.2
  have N' : News h₀ env.locals h' (g (rIt (x + 1) (left - 1))) := by
    rw [e2]
    rw [e1] at N
    exact news_set N d1 d2 hs ge
  have z := h h' s.toks (s.toks + 1) F' N'
  refine wpAny_bind (wpAny_of_eq (a := ()) (ht _) ?_)
  refine wpAny_bind (wpAny_mono (wpAny_passesOwn hE z) (fun _ s₂ h₂ => ?_) fun _ _ h' => h')
  refine wpAny_bind (wpAny_mono (wpAny_passesOwn hE h₂) (fun f s₃ h₃ => ?_) fun _ _ h' => h')
  cases f with
  | next => exact wpAny_pure ⟨rfl, h₃⟩
  | cont => exact wpAny_pure ⟨rfl, h₃⟩
  | brk => exact wpAny_pure h₃
  | ret v => exact wpAny_pure h₃
 walk_at "EN"
theorem loop_doneE {I : Addr} {x left : Int} {news' : List (Addr × Obj)} (hh : A.handled = none) (F : Fr h₀ env.locals s.heap m) (N : News h₀ env.locals s.heap news) (U : DelF I (rIt x left) news news') (hl : left ≤ 0) (hE : PassesOwn (model prog w) A env E)
    (h : ∀ h', Fr h₀ env.locals h' m → News h₀ env.locals h' news' → wpAny (model prog w) A (execs els env) Q E { s with heap := h' }) : LoopE prog w A target body els env I Q E s := by
 walk_at "ST"
 case oTag =>
  obtain ⟨hI, d1, d2⟩ := U.split
  have hit := (N _ hI).1
  refine codeAny_unfold ?_
  rw [Around.under_of_weight (by rfl) (by rfl)]
  show wpAny _ _ ((forTurn target (.ref I) body els env).onRaise (fun x => do noteFrame x env; theTreesLotGoes x)) _ _ s
  refine wpAny_noted ?_
  simp only [forTurn]
  refine wpAny_bind (wpAny_standAt (wpAny_bind (wpAny_onRaise ?_)))
  refine wpAny_pyNext_range_end hh hit hl fun h' hk => ?_
  have F' : Fr h₀ env.locals h' m := by
    obtain ⟨oL, a1, a2, hoL, a3⟩ := F.ns
    refine ⟨⟨oL, a1, a2, hk _ _ (fun e => (N _ hI).2.1 e.symm) hoL, a3⟩, fun b o e => hk b o (fun q => ?_) (F.keep b o e), F.above⟩
    have := (N _ hI).2.2
    rw [← q, e] at this
    cases this
  exact wpAny_pure ⟨rfl, codeAny_block (wpAny_passesOwn hE (h h' F' fun p hp => ⟨hk _ _ (d2 p hp) (N p (d1 p hp)).1, (N p (d1 p hp)).2⟩))⟩
 walk_at "EN"
theorem append_N {D : Addr} {ys : List Value} {n : Nat} {v : Value} {g : Obj → List (Addr × Obj)} {L : Addr} {Q : Value → Shared → Prop} (F : Fr h₀ L s.heap m) (N : News h₀ L s.heap news) (U : UpdF D (plainO ys n) news g) (hz : ys.length ≤ 1000)
    (h : ∀ h' k, Fr h₀ L h' m → News h₀ L h' (g (plainO (ys ++ [v]) k)) → Q .none { s with heap := h' }) : wpAny (model prog w) A (call (.builtin "list.append") [.ref D, v]) Q E s := by
 walk_at "ST"
 case oTag =>
  obtain ⟨pre, post, e1, e2, d1, d2⟩ := U.split
  have hI : (D, plainO ys n) ∈ news := by rw [e1]; exact List.mem_append_right _ (.head _)
  refine wpAny_list_append_plain (hsz := by rw [sizeLine_eq]; simp; omega) ⟨n, (N _ hI).1⟩ fun h' hl hs => ?_
  obtain ⟨k, hk⟩ := hl
  refine h h' k (F.change hs (N _ hI).2.1 (N _ hI).2.2) ?_
  rw [e2]
  rw [e1] at N
  refine news_set N d1 d2 hs ?_
  rw [hk]
  simp [plainO]
 walk_at "EN"
end
theorem count_ind (Lp : Nat → Shared → Prop) (J : Nat → Shared → Prop) (e : Nat) (turn : ∀ k s', k < e → J k s' → (∀ s'', J (k + 1) s'' → Lp (k + 1) s'') → Lp k s') (done : ∀ s', J e s' → Lp e s') : ∀ (n k : Nat) (s : Shared), k + n = e → J k s → Lp k s
  | 0, k, s, hn, h => by
    have : k = e := by omega
    subst this
    exact done s h
  | n + 1, k, s, hn, h => turn k s (by omega) h fun s'' h'' => count_ind Lp J e turn done n (k + 1) s'' (by omega) h''
end
section
open ZL
noncomputable def flagsD : List (Int × PyData) := (List.range 10).map fun (i : Nat) => ((2 ^ i : Nat), PyData.str (flagW (i : Int)))
noncomputable def flagEnts (P : Params) : List DictEntry := match (O_49 P).data with
  | .dict es _ => es.toList
  | _ => []
theorem flags_look (P : Params) : KTD.numsLook (flagEnts P) flagsD = true := by rfl
theorem flags_keyed (w : World) {h : Heap} (X : (KK w.params).In h) : KTD.Keyed h 49 flagsD := by
  intro prog w'
  obtain ⟨hk, kvs, hp, hf, hm⟩ := KTD.nums_of_look prog w' (flags_look w.params)
  refine ⟨by decide, kvs, ⟨O_49 w.params, (flagEnts w.params).toArray, 10, X 49 _ (by rfl), ⟨rfl, rfl, rfl⟩, rfl, fun e he => hk e (by simpa using he), hp, ?_⟩, hf⟩
  rw [hm]
  decide +kernel
structure PowAt (i : Nat) (p : Int) : Prop where
  eq : p = 2 ^ (i : Int).toNat
  lt : i < 32
open PySem.Builtin in
noncomputable def hexP (i : Nat) : Str := baseText "0x" 16 (2 ^ i : Nat)
noncomputable def getChk (i : Nat) : Bool := (match KTD.datumAt ((2 ^ i : Nat) : Int) flagsD with
  | some (.str x) => x == flagW (i : Int)
  | some _ => false
  | none => hexP i == flagW (i : Int)) && decide ((hexP i).length ≤ 20)
theorem getChk_all : ((List.range 32).all getChk) = true := by decide +kernel
theorem pow_cast (i : Nat) : ((2 : Int) ^ (i : Int).toNat) = ((2 ^ i : Nat) : Int) := by simp
section
variable {w : World} {A : Around} {E : Value → Shared → Prop} {s : Shared} {Q : Value → Shared → Prop} {h₀ : Heap} {L : Addr} {m : Str → Option Value} {i : Nat} {p : Int} {t u : Tok}
theorem shl_pow (hi : i < 32) (h : ∀ p t tk, PowAt i p → Q (.int p t) { s with toks := tk }) : wpAny (model PW w) A (binaryOp .LShift (.int 1 t) (.int (i : Int) u)) Q E s :=
  lshift_int_small (by omega) (by omega) (by decide) (h _ _ _ ⟨by rw [Int.one_mul], hi⟩)
structure HexAt (i : Nat) (x : Str) : Prop where
  eq : x = hexP i
theorem hex_pow (hp : PowAt i p) (h : ∀ x t tk, HexAt i x → Q (.str x t) { s with toks := tk }) : wpAny (model PW w) A (call (.builtin "hex") [.int p t]) Q E s := by
  have hc := List.all_eq_true.mp getChk_all i (List.mem_range.mpr hp.lt)
  unfold getChk at hc
  rw [Bool.and_eq_true, decide_eq_true_eq] at hc
  have e : p = ((2 ^ i : Nat) : Int) := hp.eq.trans (pow_cast i)
  subst e
  exact PySem.P.hex_of_int (h _ _ _ ⟨rfl⟩) (Nat.le_trans hc.2 (by decide +kernel))
structure WordAt (i : Nat) (x : Str) : Prop where
  eq : x = flagW (i : Int)
theorem get_flags {x : Str} (F : Fr h₀ L s.heap m) (X : (KK w.params).In h₀) (hp : PowAt i p) (hx : HexAt i x) (h : ∀ x t tk, WordAt i x → Q (.str x t) { s with toks := tk }) :
    wpAny (model PW w) A (call (.builtin "dict.get") [.ref 49, .int p t, .str x u]) Q E s := by
 walk_at "ST"
 case oTag =>
  have hc := List.all_eq_true.mp getChk_all i (List.mem_range.mpr hp.lt)
  unfold getChk at hc
  rw [Bool.and_eq_true] at hc
  have e : p = ((2 ^ i : Nat) : Int) := hp.eq.trans (pow_cast i)
  subst e
  rw [hx.eq]
  refine call_get2_intTab (dd := .str (hexP i)) (flags_keyed w (X.keeps F.keep) PW w) (.str _ _) fun v hv => ?_
  rw [KTD.lookup_keyed] at hv
  have hc1 := hc.1
  cases hd : KTD.datumAt ((2 ^ i : Nat) : Int) flagsD with
  | none =>
    rw [hd] at hv hc1
    have hv' : PyProof.V.Flat v (.str (hexP i)) := hv
    obtain ⟨t', rfl⟩ := hv'.str_inv
    exact h _ _ _ ⟨by simpa using hc1⟩
  | some d =>
    rw [hd] at hv hc1
    cases d with
    | str y =>
      have hv' : PyProof.V.Flat v (.str y) := hv
      obtain ⟨t', rfl⟩ := hv'.str_inv
      exact h _ _ _ ⟨by simpa using hc1⟩
    | _ => simp at hc1
 walk_at "EN"
theorem flags_method {pl : Sem Bool} {Q : Value × List Value → Shared → Prop} (F : Fr h₀ L s.heap m) (X : (KK w.params).In h₀) (h : Q (.builtin "dict.get", [.ref 49]) s) : wpAny (model PW w) A (getMethod (.ref 49) "get" pl) Q E s :=
  KTD.getMethod_keyed (flags_keyed w (X.keeps F.keep)) (fun _ _ e => e) h
end
noncomputable def preM (D : Addr) (cur : Int) (t1 : Tok) (vi vf : Option Value) : Str → Option Value := fun y =>
  if y = Str.ofString "names" then some (.ref D) else if y = Str.ofString "flags" then some (.int cur t1) else if y = Str.ofString "i" then vi else if y = Str.ofString "flag" then vf else none
theorem preM_no {D : Addr} {cur : Int} {t1 : Tok} {vi vf : Option Value} {y : Str} (e1 : ¬ y = Str.ofString "names") (e2 : ¬ y = Str.ofString "flags") (e3 : ¬ y = Str.ofString "i") (e4 : ¬ y = Str.ofString "flag") : preM D cur t1 vi vf y = none := by simp only [preM, e1, e2, e3, e4, if_false]
theorem pre_end {h₀ h : Heap} {L D : Addr} {cur : Int} {t1 : Tok} {vi vf : Option Value} {m : Str → Option Value} (F : Fr h₀ L h m)
    (m1 : m (Str.ofString "names") = some (.ref D)) (m2 : m (Str.ofString "flags") = some (.int cur t1)) (m3 : m (Str.ofString "i") = vi) (m4 : m (Str.ofString "flag") = vf)
    (m7 : ∀ y, ¬ y = Str.ofString "names" → ¬ y = Str.ofString "flags" → ¬ y = Str.ofString "i" → ¬ y = Str.ofString "flag" → m y = none) : Fr h₀ L h (preM D cur t1 vi vf) := by
  have : m = preM D cur t1 vi vf := by
    funext y
    unfold preM
    split
    · next e => rw [e, m1]
    split
    · next e => rw [e, m2]
    split
    · next e => rw [e, m3]
    split
    · next e => rw [e, m4]
    apply m7 <;> assumption
  exact this ▸ F
noncomputable def outW (F : Nat) : List Str := if F = 0 then [Str.ofString "0x0"] else wordsTo F 32
noncomputable def preJ (F : Nat) (h₀ : Heap) (L D I : Addr) (news : List (Addr × Obj)) (s : Shared) (i : Nat) (s' : Shared) : Prop :=
  ∃ h tk t1 vi vf ys k, s' = { s with heap := h, toks := tk } ∧ Fr h₀ L h (preM D (curN F i : Int) t1 vi vf) ∧ News h₀ L h ((I, rIt (i : Int) (32 - (i : Int))) :: (D, plainO ys k) :: news) ∧ StrsAre ys (wordsTo F i) ∧ ys.length ≤ i ∧ (F = 0 ∨ curN F i ≠ 0)
end
section
open ZL ZPre2
theorem flag_and0 {F k : Nat} {p : Int} (hp : PowAt k p) : Builtin.bitAnd (curN F k : Int) p = if F.testBit k then 2 ^ k else 0 := by
  rw [hp.eq, flag_and]
theorem bit_yes {F k : Nat} {p : Int} (hp : PowAt k p) (h : Builtin.bitAnd (curN F k : Int) p ≠ 0) : F.testBit k = true := by
  rw [flag_and0 hp] at h
  cases hb : F.testBit k with
  | true => rfl
  | false => rw [hb] at h; simp at h
theorem bit_no {F k : Nat} {p : Int} (hp : PowAt k p) (h : ¬ Builtin.bitAnd (curN F k : Int) p ≠ 0) : F.testBit k = false := by
  rw [flag_and0 hp] at h
  cases hb : F.testBit k with
  | false => rfl
  | true =>
    rw [hb, if_pos rfl, ne_eq, Decidable.not_not] at h
    have : (0 : Int) < 2 ^ k := Int.pow_pos (by decide)
    omega
theorem xor_at {F k : Nat} {p : Int} (hp : PowAt k p) (hb : F.testBit k = true) : Builtin.bitXor (curN F k : Int) p = (curN F (k + 1) : Int) := by
  rw [hp.eq, flag_xor hb]
theorem strs_snoc {vs : List Value} {ys : List Str} {x : Str} {t : Tok} (h : StrsAre vs ys) : StrsAre (vs ++ [.str x t]) (ys ++ [x]) := h.append' (.cons _ _ .nil)
theorem rIt_next (k : Nat) : rIt ((k : Int) + 1) (32 - (k : Int) - 1) = rIt ((k + 1 : Nat) : Int) (32 - ((k + 1 : Nat) : Int)) := by
  rw [show ((k + 1 : Nat) : Int) = (k : Int) + 1 by omega, show (32 : Int) - ((k : Int) + 1) = 32 - (k : Int) - 1 by omega]
example : True := by
  k_with "!binaryOp LShift int int" => (guard_expr onPre2 =~ onPre2; (k_here; k_dflt (refine' shl_pow ?k1_39 ?_; (case k1_39 => assumption); k_whole; intro pp'k tp'k tkp'k hpp'k)))
  k_with "!call builtin:hex" => (guard_expr onPre2 =~ onPre2; (k_here; k_dflt (refine' hex_pow ?k1_40 ?_; (case k1_40 => assumption); k_whole; intro xx'k tx'k tkx'k hxx'k)))
  k_with "!getMethod ref" => (guard_expr onPre2 =~ onPre2; (k_here; (with_reducible show wpAny _ _ (getMethod (Value.ref 49) _ _) _ _ _); refine flags_method (by k_asm) (by k_asm) ?_))
  k_with "!call builtin:dict.get" => (guard_expr onPre2 =~ onPre2; (k_here; (with_reducible show wpAny _ _ (call (Value.builtin "dict.get") [Value.ref 49, _, _]) _ _ _); k_dflt (refine' get_flags ?k1_42 ?k2_42 ?k3_42 ?k4_42 ?_; (case k1_42 => k_asm); (case k2_42 => k_asm); (case k3_42 => assumption); (case k4_42 => assumption); k_whole; intro xw'k tw'k tkw'k hww'k)))
  k_with "!call builtin:list.append" => (guard_expr onPre2 =~ onPre2; (k_here; (with_reducible show wpAny _ _ (call (Value.builtin "list.append") [Value.ref _, _]) _ _ _); k_dflt (refine' append_N ?k1_43 ?k2_43 ?k3_43 ?k4_43 ?_; (case k1_43 => assumption); (case k2_43 => assumption); (case k3_43 => exact UpdF.tail (by assumption) (UpdF.head (by assumption))); (case k4_43 => omega); k_whole; intro h''k ka'k F''k N''k)))
  trivial
theorem strs_word {vs : List Value} {F k : Nat} {x : Str} {t : Tok} (h : StrsAre vs (wordsTo F k)) (hb : F.testBit k = true) (hw : WordAt k x) : StrsAre (vs ++ [.str x t]) (wordsTo F (k + 1)) := by
  rw [words_hit hb, ← hw.eq]
  exact strs_snoc h
theorem out_word {F k : Nat} (hb : F.testBit k = true) (hk : k < 32) (hc : curN F (k + 1) = 0) : outW F = wordsTo F (k + 1) := by
  have h0 : F ≠ 0 := fun e => by rw [e] at hb; simp at hb
  unfold outW
  rw [if_neg h0]
  have := words_stop hc (31 - k)
  rwa [show k + 1 + (31 - k) = 32 by omega] at this
theorem pre_turn {w : World} {A : Around} {E : Value → Shared → Prop} {s : Shared} {Q : Flow → Shared → Prop} {h₀ : Heap} {L D I : Addr} {cd : Value} {news : List (Addr × Obj)} {F k : Nat} {mean : ExcName → Option Value} {mg mb : Str → Option Value}
    {target : PySem.Expr} {body els : List Stmt} {iter : PySem.Expr} {pos : Pos} (hst : stmtIn 7 1 = .For target iter body els pos)
    (X : (KK w.params).In h₀) (T : Top qq LOOSE mean mg mb h₀) (hD : ∀ p ∈ news, p.1 ≠ D) (hI : ∀ p ∈ news, p.1 ≠ I) (hDI : I ≠ D) (hk : k < 32)
    (hE : PassesOwn (model PW w) A (envOf (Str.ofString "pretty_flags") (scopeOf 7) L 56 cd) E)
    (done : ∀ h' tk' ys (i kk : Nat) t1 vi vf cur, Fr h₀ L h' (preM D cur t1 vi vf) → News h₀ L h' ((I, rIt (i : Int) (32 - (i : Int))) :: (D, plainO ys kk) :: news) → StrsAre ys (outW F) → Q .next { s with heap := h', toks := tk' })
    (s' : Shared) (hJ : preJ F h₀ L D I news s k s') (hnext : ∀ s'', preJ F h₀ L D I news s (k + 1) s'' → LoopE PW w A target body els (envOf (Str.ofString "pretty_flags") (scopeOf 7) L 56 cd) I Q E s'') :
    LoopE PW w A target body els (envOf (Str.ofString "pretty_flags") (scopeOf 7) L 56 cd) I Q E s' := by
 walk_at "ST"
 case oTag =>
  obtain ⟨h, tk, t1, vi, vf, ys, kk, rfl, F, N, hS, hl, hz⟩ := hJ
  have hst' := hst
  with_unfolding_all (injection hst' with e1 e2 e3 e4 e5)
  subst e1 e3 e4
  refine loop_itemE F N (.head fun p hp => ?_) (by omega) hE (fun _ => rfl) fun h' t' tk' F' N' => ?_
  · rcases List.mem_cons.mp hp with rfl | hp
    · exact fun e => hDI e.symm
    · exact hI p hp
  rw [rIt_next] at N'
  clear F N hst
  have hl' : ys.length ≤ 1000 := by omega
  k_steps
  · have hb := bit_yes ‹PowAt k _› ‹Builtin.bitAnd _ _ ≠ 0›
    have hx := xor_at ‹PowAt k _› hb
    refine hnext _ ⟨_, _, _, _, _, _, _, rfl, pre_end ‹Fr _ _ _ _› rfl (by rw [← hx]; exact rfl) rfl rfl (fun y e1 e2 e3 e4 => by (repeat (with_reducible refine upd_no (by assumption) ?_)); exact preM_no e1 e2 e3 e4), ‹News _ _ _ _›, strs_word hS hb ‹_›, by simp; omega, .inr fun e => ?_⟩
    have hne := ‹Builtin.bitXor _ _ ≠ 0›
    rw [hx, e] at hne
    exact hne rfl
  · have hb := bit_yes ‹PowAt k _› ‹Builtin.bitAnd _ _ ≠ 0›
    have hx := xor_at ‹PowAt k _› hb
    have hc : curN F (k + 1) = 0 := by
      have := hx.symm.trans ‹Builtin.bitXor _ _ = 0›
      omega
    refine done _ _ _ (k + 1) _ _ _ _ _ (pre_end ‹Fr _ _ _ _› rfl rfl rfl rfl (fun y e1 e2 e3 e4 => by (repeat (with_reducible refine upd_no (by assumption) ?_)); exact preM_no e1 e2 e3 e4)) ‹News _ _ _ _› ?_
    rw [out_word hb hk hc]
    exact strs_word hS hb ‹_›
  · have hb := bit_no ‹PowAt k _› (fun h => h ‹Builtin.bitAnd _ _ = 0›)
    refine hnext _ ⟨_, _, _, _, _, _, _, rfl, pre_end ‹Fr _ _ _ _› rfl (by rw [cur_skip hb]; exact rfl) rfl rfl (fun y e1 e2 e3 e4 => by (repeat (with_reducible refine upd_no (by assumption) ?_)); exact preM_no e1 e2 e3 e4), ‹News _ _ _ _›, by rw [words_skip hb]; exact hS, by omega, ?_⟩
    rw [cur_skip hb]
    exact hz
 walk_at "EN"
example : True := by
  k_with "!pyIter ref" => (guard_expr onPre2 =~ onPre2; (k_here; k_dflt (refine' iter_rangeE ?k1_44 ?k2_44 ?k3_44 ?k4_44 ?k5_44 ?k6_44 ?_; (case k1_44 => k_asm); (case k2_44 => k_asm); (case k3_44 => first | assumption | (exact News.get (by k_asm) (by k_mem))); (case k4_44 => exact rfl); (case k5_44 => decide +kernel); (case k6_44 => decide); k_whole; intro I''k h''k F''k N''k l1'k)))
  k_with "!LoopE" => (guard_expr onPre2 =~ onPre2; (refine Stop.mk ?_))
  trivial
open PySem.Builtin in
theorem hex0 {w : World} {A : Around} {E : Value → Shared → Prop} {s : Shared} {Q : Value → Shared → Prop} {t : Tok} (h : ∀ t tk, Q (.str (Str.ofString "0x0") t) { s with toks := tk }) : wpAny (model PW w) A (call (.builtin "hex") [.int 0 t]) Q E s := by
  refine PySem.P.hex_of_int ?_ (by decide +kernel)
  rw [show baseText "0x" 16 0 = Str.ofString "0x0" by decide +kernel]
  exact h _ _
example : True := by
  k_with "!call builtin:hex" => (guard_expr onPre2 =~ onPre2; (k_here; (with_reducible show wpAny _ _ (call (Value.builtin "hex") [Value.int 0 _]) _ _ _); k_dflt (refine' hex0 ?_; k_whole; intro tx'k tkx'k)))
  k_with "!call builtin:list.append" => (guard_expr onPre2 =~ onPre2; (k_here; (with_reducible show wpAny _ _ (call (Value.builtin "list.append") [Value.ref _, _]) _ _ _); k_dflt (refine' append_N ?k1_47 ?k2_47 ?k3_47 ?k4_47 ?_; (case k1_47 => assumption); (case k2_47 => assumption); (case k3_47 => exact UpdF.head (by assumption)); (case k4_47 => omega); k_whole; intro h''k ka'k F''k N''k)))
  trivial
theorem pre_loop {w : World} {A : Around} {E : Value → Shared → Prop} {s : Shared} {Q : Flow → Shared → Prop} {h₀ : Heap} {L D : Addr} {cd : Value} {news : List (Addr × Obj)} {F k : Nat} {t1 : Tok} {mean : ExcName → Option Value} {mg mb : Str → Option Value}
    (hh : A.handled = none) (X : (KK w.params).In h₀) (T : Top qq LOOSE mean mg mb h₀) (hD : ∀ p ∈ news, p.1 ≠ D) (hF : F < 2 ^ 32)
    (hE : PassesOwn (model PW w) A (envOf (Str.ofString "pretty_flags") (scopeOf 7) L 56 cd) E) (FF : Fr h₀ L s.heap (preM D (F : Int) t1 none none)) (N : News h₀ L s.heap ((D, plainO [] k) :: news))
    (done : ∀ h' tk' ys (kk : Nat) t1 vi vf cur, Fr h₀ L h' (preM D cur t1 vi vf) → News h₀ L h' ((D, plainO ys kk) :: news) → StrsAre ys (outW F) → Q .next { s with heap := h', toks := tk' }) :
    wpAny (model PW w) A (exec (stmtIn 7 1) (envOf (Str.ofString "pretty_flags") (scopeOf 7) L 56 cd)) Q E s := by
 walk_at "ST"
 case oTag =>
  with_unfolding_all refine for_headE ?_
  k_steps
  unfold Stop
  rename (∀ p ∈ (_ :: _ : List (Addr × Obj)), p.1 ≠ _) => hI
  rename Addr => I
  have hDI : I ≠ D := fun e => hI _ (.head _) e.symm
  have hI' : ∀ p ∈ news, p.1 ≠ I := fun p hp => hI p (.tail _ hp)
  refine count_ind (fun _ s => LoopE PW w A _ _ _ _ I Q E s) (preJ F h₀ L D I news s) 32 (fun k s' hk hJ hn => ?_) (fun s' hJ => ?_) 32 0 _ rfl ?_
  · exact pre_turn (by with_unfolding_all rfl) X T hD hI' hDI hk hE (fun h' tk' ys i kk t1 vi vf cur F' N' hS => done h' tk' ys kk t1 vi vf cur F' (fun p hp => N' p (.tail _ hp)) hS) s' hJ hn
  · obtain ⟨h, tk, t1, vi, vf, ys, kk, rfl, F', N', hS, hl, hz⟩ := hJ
    have hF0 : F = 0 := by
      rcases hz with h | h
      · exact h
      · exact absurd (cur_end hF) h
    subst hF0
    refine loop_doneE hh F' N' (.head fun p hp => ?_) (by decide) hE fun h' F' N' => ?_
    · rcases List.mem_cons.mp hp with rfl | hp
      · exact fun e => hDI e.symm
      · exact hI' p hp
    have hl' : ys.length ≤ 1000 := by omega
    have hw : ys = [] := by
      have : wordsTo 0 32 = [] := by decide +kernel
      rw [this] at hS
      cases hS
      rfl
    subst hw
    rw [show ((curN 0 32 : Nat) : Int) = 0 by decide +kernel] at F'
    k_steps
    exact done _ _ _ _ _ _ _ _ (pre_end ‹Fr _ _ _ _› rfl rfl rfl rfl (fun y e1 e2 e3 e4 => by (repeat (with_reducible refine upd_no (by assumption) ?_)); exact preM_no e1 e2 e3 e4)) ‹News _ _ _ _› (.cons _ _ .nil)
  · exact ⟨_, _, _, _, _, _, _, rfl, pre_end ‹Fr _ _ _ _› rfl (by rw [cur_zero]; exact rfl) rfl rfl (fun y e1 e2 e3 e4 => by (repeat (with_reducible refine upd_no (by assumption) ?_)); exact preM_no e1 e2 e3 e4), ‹News _ _ _ ((I, _) :: _)›, .nil, Nat.le_refl _, (Nat.eq_zero_or_pos F).imp id fun h => by rw [cur_zero]; omega⟩
 walk_at "EN"
theorem outW_len {F : Nat} : (outW F).length ≤ 32 := by
  unfold outW
  split
  · decide
  · unfold wordsTo
    rw [List.length_map]
    exact Nat.le_trans (List.length_filter_le _ _) (by simp)
theorem flagW_len : ((List.range 32).all fun (i : Nat) => decide ((flagW (i : Int)).length ≤ 30)) = true := by decide +kernel
theorem outW_sum {F : Nat} : ((outW F).map (·.length)).sum ≤ 960 := by
  have key : ∀ l : List Str, (∀ x ∈ l, x.length ≤ 30) → (l.map (·.length)).sum ≤ 30 * l.length := by
    intro l
    induction l with
    | nil => simp
    | cons x l ih =>
      intro h
      have := ih fun y hy => h y (.tail _ hy)
      have := h x (.head _)
      simp only [List.map_cons, List.sum_cons, List.length_cons]; omega
  have := key (outW F) (fun x hx => by
    unfold outW at hx
    split at hx
    · rw [List.mem_singleton.mp hx]; decide
    · unfold wordsTo at hx
      obtain ⟨j, hj, rfl⟩ := List.mem_map.mp hx
      have := List.all_eq_true.mp flagW_len j (List.mem_filter.mp hj).1
      simpa using this)
  have := outW_len (F := F)
  omega
example : True := by
  k_with "!exec" => (guard_expr onPre2 =~ onPre2; (k_here; (with_reducible show wpAny _ _ (exec (Stmt.For _ _ _ _ _) _) _ _ _); refine Stop.mk ?_))
  trivial
theorem join_out {w : World} {A : Around} {E : Value → Shared → Prop} {s : Shared} {Q : Value → Shared → Prop} {D : Addr} {ys : List Value} {F : Nat} {t : Tok} (hl : s.heap.IsList D ys.toArray) (hS : StrsAre ys (outW F))
    (h : ∀ t tk, Q (.str (Txt.join (Str.ofString ", ") (outW F)) t) { s with toks := tk }) : wpAny (model PW w) A (call (.builtin "str.join") [.str (Str.ofString ", ") t, .ref D]) Q E s := by
  refine join_list hl (by simpa using hS) ?_ h
  have h1 := outW_sum (F := F)
  have h2 := outW_len (F := F)
  have h3 : (Str.ofString ", ").length = 2 := by decide +kernel
  rw [h3]; omega
example : True := by
  k_with "!call builtin:str.join" => (guard_expr onPre2 =~ onPre2; (k_here; k_dflt (refine' join_out ?k1_49 ?k2_49 ?_; (case k2_49 => assumption); (case k1_49 => exact ⟨_, News.get (by k_asm) (by k_mem), rfl, _, rfl⟩); k_whole; intro tj'k tkj'k)))
  trivial
theorem pretty_spec (w : World) (F : Nat) (t : Tok) (news : List (Addr × Obj)) (hF : F < 2 ^ 32) : Call1 w 56 [.int (F : Int) t] news (fun v n' => n' = news ∧ ∃ t, v = .str (Txt.join (Str.ofString ", ") (outW F)) t) := by
 walk_at "ST"
 case oTag =>
  unfold Call1
  intros; rename_i hret
  walk_at "MY ENTER"
  k_steps
  unfold Stop
  rename (∀ p ∈ news, p.1 < _) => hlt
  with_unfolding_all refine pre_loop (k := 0) rfl ‹_› ‹_› (fun p hp => Nat.ne_of_lt (hlt p hp)) hF (by passes_own) (pre_end ‹Fr _ _ _ _› rfl rfl rfl rfl ?m7) ‹News _ _ _ _› ?_
  case m7 =>
    intro y e1 e2 e3 e4
    simp only [upd, e1, if_false]
    with_unfolding_all show List.lookup y [(Str.ofString "flags", Value.int (F : Int) t)] = none
    simp only [List.lookup, beq_false_of_ne e2]
  intro h' tk' ys kk t1' vi vf cur F' N' hS
  unfold preM at F'
  k_steps
  exact hret _ _ _ _ ⟨rfl, _, rfl⟩ (by k_asm) (by walk_at "MY LEDGER")
 walk_at "EN"
end
section
noncomputable def tv (p f s k : Int) : Int := if p = k then 2 else if f = k ∨ s = k then -1 else 0
theorem tab_elem {w : World} {A : Around} {e : Env} {E' : Value → Shared → Prop} {s₃ : Shared} {h₀ : Heap} {L : Addr} {m₃ : Str → Option Value} {sc2 : Scope} {cl2 : List (Str × Addr)} {C cp cn a bp : Addr} {op on : Obj} {p f s k : Int} {tp tk tf ts : Tok} {items : Array Value} {news : List (Addr × Obj)} {n1 n2 : Nat} {p1 p2 p3 p4 p5 p6 p7 p8 p9 pa pb pc pd pe : Pos}
    (hk : (relabel sc2 e).kind = .function) (hx : (compEnvC sc2 cl2 C e).kindOf (Str.ofString "other") = some .local) (hp : (compEnvC sc2 cl2 C e).kindOf (Str.ofString "place") = some .cell) (hn : (compEnvC sc2 cl2 C e).kindOf (Str.ofString "net") = some .cell)
    (hc1 : cl2.lookup (Str.ofString "place") = some cp) (hc2 : cl2.lookup (Str.ofString "net") = some cn) (N : News h₀ L s₃.heap news)
    (hm1 : (cp, op) ∈ news) (hd1 : op.data = .cell (some (.int p tp))) (hm2 : (cn, on) ∈ news) (hd2 : on.data = .cell (some (.ref a))) (hm3 : (a, W.listOf items n1) ∈ news) (h0 : 0 ≤ p) (h9 : p < 100) (hi : items[p.toNat]? = some (.ref bp)) (hm4 : (bp, W.listOf #[.int f tf, .int s ts] n2) ∈ news)
    (hns : s₃.heap.Ns C m₃) (hx' : m₃ (Str.ofString "other") = some (.int k tk)) :
    wpAny (model PW w) A (eval (.IfExp (.Compare (.Name (Str.ofString "place") p1) [.Eq] [.Name (Str.ofString "other") p2] p3) (.Constant (.int 2) 0 p4)
      (.IfExp (.Compare (.Name (Str.ofString "other") p5) [.In] [.Subscript (.Name (Str.ofString "net") p6) (.Name (Str.ofString "place") p7) p8] p9) (.UnaryOp .USub (.Constant (.int 1) 0 pa) pb) (.Constant (.int 0) 0 pc) pd) pe) (compEnvC sc2 cl2 C e)) (fun y s₄ => (∃ t, y = .int (tv p f s k) t) ∧ Keeps s₃ s₄) E' s₃ := by
 walk_at "ST"
 case oTag =>
  have l1 : ∀ {pos : Pos} {Q' E' : Value → Shared → Prop} {s' : Shared}, s'.heap = s₃.heap → Q' (.int k tk) s' → wpAny (model PW w) A (eval (.Name (Str.ofString "other") pos) (compEnvC sc2 cl2 C e)) Q' E' s' :=
    fun e h => wpAny_Name (wpAny_loadName_local hk hx (e ▸ hns) hx' h) (by decide)
  have l2 : ∀ {pos : Pos} {Q' E' : Value → Shared → Prop} {s' : Shared}, s'.heap = s₃.heap → Q' (.int p tp) s' → wpAny (model PW w) A (eval (.Name (Str.ofString "place") pos) (compEnvC sc2 cl2 C e)) Q' E' s' :=
    fun e h => wpAny_Name (wpAny_loadName_cell hk hp hc1 ⟨op, e ▸ N.get hm1, hd1⟩ h) (by decide)
  have l3 : ∀ {pos : Pos} {Q' E' : Value → Shared → Prop} {s' : Shared}, s'.heap = s₃.heap → Q' (.ref a) s' → wpAny (model PW w) A (eval (.Name (Str.ofString "net") pos) (compEnvC sc2 cl2 C e)) Q' E' s' :=
    fun e h => wpAny_Name (wpAny_loadName_cell hk hn hc2 ⟨on, e ▸ N.get hm2, hd2⟩ h) (by decide)
  have hla : s₃.heap.IsList a items := ⟨_, N.get hm3, rfl, _, rfl⟩
  have hlb : s₃.heap.IsList bp [Value.int f tf, Value.int s ts].toArray := ⟨_, N.get hm4, rfl, _, rfl⟩
  refine wpAny_IfExp (wpAny_isTrue_Compare1 (l2 rfl (l1 rfl (eq_int (wpAny_truthy_bool ?_)))))
  by_cases hpk : p = k
  · rw [if_pos (by simpa using hpk)]
    exact wpAny_Constant_int ⟨⟨_, by rw [tv, if_pos hpk]⟩, _, _, rfl, fun _ _ e => e⟩
  rw [if_neg (by simpa using hpk)]
  refine wpAny_IfExp (wpAny_isTrue_Compare1 (l1 rfl (wpAny_Subscript_Name (T := "list") slot_list_getitem.lookup (l3 rfl (l2 rfl ⟨hla.typeIs, wpAny_getItem_list hla h0 (by omega) hi (in_list_ints hlb (.cons _ _ (.cons _ _ .nil)) (wpAny_truthy_bool ?_))⟩)))))
  by_cases hin : f = k ∨ s = k
  · rw [if_pos (by simpa using hin)]
    exact wpAny_UnaryOp (wpAny_Constant_int (neg_int ⟨⟨_, by rw [tv, if_neg hpk, if_pos hin]⟩, _, _, rfl, fun _ _ e => e⟩))
  · rw [if_neg (by simpa using hin)]
    exact wpAny_Constant_int ⟨⟨_, by rw [tv, if_neg hpk, if_neg hin]⟩, _, _, rfl, fun _ _ e => e⟩
 walk_at "EN"
end
section
structure NetAt (news : List (Addr × Obj)) (a b0 b1 b2 b3 b4 : Addr) (f0 s0 f1 s1 f2 s2 : Int) : Prop where
  top : (a, W.listOf #[.ref b0, .ref b1, .ref b2, .ref b3, .ref b4] 0) ∈ news
  r0 : ∃ t u, (b0, W.listOf #[.int f0 t, .int s0 u] 0) ∈ news
  r1 : ∃ t u, (b1, W.listOf #[.int f1 t, .int s1 u] 0) ∈ news
  r2 : ∃ t u, (b2, W.listOf #[.int f2 t, .int s2 u] 0) ∈ news
noncomputable def pick3 {α : Type} (x y z : α) (p : Int) : α := if p = 0 then x else if p = 1 then y else z
theorem row_comp {w : World} {A : Around} {e : Env} {E : Value → Shared → Prop} {s : Shared} {Q : Value → Shared → Prop} {h₀ : Heap} {m mg mb : Str → Option Value} {mean : ExcName → Option Value} {sc2 : Scope} {cl2 : List (Str × Addr)} {cp cn a bp : Addr} {op on : Obj} {p f s' : Int} {tp tf ts : Tok} {items : Array Value} {news : List (Addr × Obj)} {n1 n2 : Nat} {p1 p2 p3 p4 p5 p6 p7 p8 p9 pa pb pc pd pe pf pg ph pi pj : Pos}
    (hh : A.handled = none) (F : Fr h₀ e.locals s.heap m) (N : News h₀ e.locals s.heap news) (X : (KK w.params).In h₀) (T : Top qq LOOSE mean mg mb h₀)
    (hclos : closureFor sc2 e = pure cl2) (hcell : ∀ y ∈ sc2.names, y.2 ≠ .cell) (hkind : sc2.kind = .function) (hnames : ∀ y ∈ sc2.names, y.2 = .local → sc2.names.lookup y.1 = some .local) (hxo : sc2.names.lookup (Str.ofString "other") = some .local)
    (hek : e.scope.kind = .function) (her : e.kindOf (Str.ofString "range") = some .globalImplicit) (hg : e.globals = mainGlobals) (hb : e.builtins = builtinsNs)
    (hk : (relabel sc2 e).kind = .function) (hx : ∀ C, (compEnvC sc2 cl2 C e).kindOf (Str.ofString "other") = some .local) (hp : ∀ C, (compEnvC sc2 cl2 C e).kindOf (Str.ofString "place") = some .cell) (hn : ∀ C, (compEnvC sc2 cl2 C e).kindOf (Str.ofString "net") = some .cell)
    (hc1 : cl2.lookup (Str.ofString "place") = some cp) (hc2 : cl2.lookup (Str.ofString "net") = some cn)
    (hm1 : (cp, op) ∈ news) (hd1 : op.data = .cell (some (.int p tp))) (hm2 : (cn, on) ∈ news) (hd2 : on.data = .cell (some (.ref a))) (hm3 : (a, W.listOf items n1) ∈ news) (h0 : 0 ≤ p) (h9 : p < 100) (hi : items[p.toNat]? = some (.ref bp)) (hm4 : (bp, W.listOf #[.int f tf, .int s' ts] n2) ∈ news)
    (done : ∀ D h' tk ys n, Fr h₀ e.locals h' m → News h₀ e.locals h' ((D, plainO ys n) :: news) → (∀ q ∈ news, @Ne Nat q.1 D) → IntsAre ys [tv p f s' 0, tv p f s' 1, tv p f s' 2] → Q (.ref D) { s with heap := h', toks := tk }) :
    wpAny (model PW w) A (eval (.ListComp (.IfExp (.Compare (.Name (Str.ofString "place") p1) [.Eq] [.Name (Str.ofString "other") p2] p3) (.Constant (.int 2) 0 p4)
      (.IfExp (.Compare (.Name (Str.ofString "other") p5) [.In] [.Subscript (.Name (Str.ofString "net") p6) (.Name (Str.ofString "place") p7) p8] p9) (.UnaryOp .USub (.Constant (.int 1) 0 pa) pb) (.Constant (.int 0) 0 pc) pd) pe)
      [⟨.Name (Str.ofString "other") pf, .Call (.Name (Str.ofString "range") pg) [.Constant (.int 3) 0 ph] [] pi, [], 0⟩] sc2 pj) e) Q E s := by
 walk_at "ST"
 case oTag =>
  refine comp_go hclos hcell hkind hnames hxo ?_ (fun _ => rfl)
  refine Call_Name1 (Name_function_global hek her (loadGlobal_builtin (env := e) (by rw [hg]; exact T.g.keeps F.keep) (mg_none_of X T.g rfl) (by rw [hb]; exact T.b.keeps F.keep) ((T.builtins _ (by decide)).trans rfl) ?_) (by decide))
  refine PySem.callWith_type1 (wpAny_Constant_int (call_range_1 ?_))
  refine compAt_range hh (F.push _) (N.grown fun b o e => Heap.get?_push_of_some _ e) (Heap.get?_push_size _ rfl) rfl (by decide +kernel) 3 (by decide) (by decide +kernel) (fun _ => true) (fun v y => ∀ k t, v = .int k t → ∃ t, y = .int (tv p f s' k) t) ?_ ?_ ?_
  · intro C k t s₃ m₃ E' _ _ _ _ _ _
    simp only [List.forIn_nil]
    exact wpAny_pure ⟨rfl, _, _, rfl, fun _ _ e => e⟩
  · intro C k t s₃ m₃ E' _ _ _ hns hx' F' N'
    refine wpAny_mono (tab_elem hk (hx C) (hp C) (hn C) hc1 hc2 N' hm1 hd1 hm2 hd2 hm3 h0 h9 hi hm4 hns hx') (fun y s₄ h => ⟨fun k' t' e => ?_, h.2⟩) fun _ _ e => e
    injection e with e1 _
    exact e1 ▸ h.1
  · intro D h' tk ys n vs F' N' ne hvs hpair
    refine done D h' tk ys n F' N' ne ?_
    have hf : vs.filter (fun _ => true) = vs := List.filter_eq_self.mpr fun _ _ => rfl
    rw [hf] at hpair
    rw [show intsTo 0 ((3 : Int) - 0).toNat = [0, 1, 2] by decide +kernel] at hvs
    cases hvs with
    | cons _ t0 hvs => cases hvs with
      | cons _ t1 hvs => cases hvs with
        | cons _ t2 hvs => cases hvs with
          | nil =>
            cases hpair with
            | cons a0 hpair => cases hpair with
              | cons a1 hpair => cases hpair with
                | cons a2 hpair => cases hpair with
                  | nil =>
                    obtain ⟨u0, rfl⟩ := a0 _ _ rfl
                    obtain ⟨u1, rfl⟩ := a1 _ _ rfl
                    obtain ⟨u2, rfl⟩ := a2 _ _ rfl
                    exact .cons _ _ (.cons _ _ (.cons _ _ .nil))
 walk_at "EN"
end
section
noncomputable def CompK (w : World) (A : Around) (elt iter : PySem.Expr) (x : Str) (px : Pos) (scope : Scope) (pos : Pos) (I D : Addr) (cenv : Env) (R : Result → Shared → Prop) (s : Shared) : Prop :=
  codeAny (model PW w) A (.compLoop (.ListComp elt [⟨.Name x px, iter, [], 0⟩] scope pos) 0 (.ref I) (.ref D) cenv) R s
section
variable {w : World} {A : Around} {s : Shared} {h₀ : Heap} {elt iter : PySem.Expr} {x : Str} {px pos : Pos} {scope : Scope} {cenv : Env} {R : Result → Shared → Prop} {mC : Str → Option Value} {rest : List (Addr × Obj)} {I D c : Addr} {k : Int} {ys : List Value} {n : Nat} {co : Obj}
theorem turn_cell (hkind : cenv.scope.kind = .function) (hkx : cenv.kindOf x = some .cell) (hcx : cenv.cells.lookup x = some c) (hk : 0 < 3 - k) (hys : ys.length ≤ 1000)
    (F : Fr h₀ cenv.locals s.heap mC) (N : News h₀ cenv.locals s.heap ((I, rIt k (3 - k)) :: (D, plainO ys n) :: (c, co) :: rest)) (v0 : Option Value) (hco : co.data = .cell v0)
    (hID : @Ne Nat I D) (hIc : @Ne Nat I c) (hDc : @Ne Nat D c) (hr : ∀ p ∈ rest, @Ne Nat p.1 I ∧ @Ne Nat p.1 D ∧ @Ne Nat p.1 c)
    (T : List Value → Prop)
    (helt : ∀ h' tk' co' t E' (Q' : Value → Shared → Prop), Fr h₀ cenv.locals h' mC → News h₀ cenv.locals h' ((I, rIt (k + 1) (3 - k - 1)) :: (D, plainO ys n) :: (c, co') :: rest) → co'.data = .cell (some (.int k t)) →
      (∀ r row h'' tk'' nr, Fr h₀ cenv.locals h'' mC → News h₀ cenv.locals h'' ((r, plainO row nr) :: (I, rIt (k + 1) (3 - k - 1)) :: (D, plainO ys n) :: (c, co') :: rest) →
        (∀ q ∈ ((I, rIt (k + 1) (3 - k - 1)) :: (D, plainO ys n) :: (c, co') :: rest), @Ne Nat q.1 r) → T row → Q' (.ref r) { s with heap := h'', toks := tk'' }) →
      wpAny (model PW w) A (eval elt cenv) Q' E' { s with heap := h', toks := tk' })
    (next : ∀ h' tk' r row nr n' co' t, Fr h₀ cenv.locals h' mC → News h₀ cenv.locals h' ((I, rIt (k + 1) (3 - k - 1)) :: (D, plainO (ys ++ [.ref r]) n') :: (c, co') :: (r, plainO row nr) :: rest) → co'.data = .cell (some (.int k t)) →
      (∀ p ∈ ((r, plainO row nr) :: rest), @Ne Nat p.1 I ∧ @Ne Nat p.1 D ∧ @Ne Nat p.1 c) → T row → (∀ p ∈ rest, @Ne Nat p.1 r) → CompK w A elt iter x px scope pos I D cenv R { s with heap := h', toks := tk' }) :
    CompK w A elt iter x px scope pos I D cenv R s := by
 walk_at "ST"
 case oTag =>
  have hit := (N _ (.head _)).1
  refine codeAny_unfold ?_
  rw [Around.under_of_weight (by rfl) (by rfl)]
  show wpAny _ A ((compTurn (.ListComp elt [⟨.Name x px, iter, [], 0⟩] scope pos) 0 (.ref I) (.ref D) cenv).onRaise (fun x => do noteFrame x cenv; theTreesLotGoes x)) _ _ _
  refine wpAny_noted ?_
  rw [compTurn_list]
  refine wpAny_bind (wpAny_standAt (wpAny_bind ?_))
  refine wpAny_pyNext_range_item hit hk fun h₁ hit₁ hs₁ => ?_
  have ge : h₁.get? I = some (rIt (k + 1) (3 - k - 1)) := hit₁
  have F₁ := F.change hs₁ (N _ (.head _)).2.1 (N _ (.head _)).2.2
  have N₁ : News h₀ cenv.locals h₁ ((I, rIt (k + 1) (3 - k - 1)) :: (D, plainO ys n) :: (c, co) :: rest) := by
    refine news_set (pre := []) N (fun p hp => nomatch hp) (fun p hp => ?_) hs₁ ge
    rcases List.mem_cons.mp hp with rfl | hp
    · exact fun e => hID e.symm
    · rcases List.mem_cons.mp hp with rfl | hp
      · exact fun e => hIc e.symm
      · exact (hr p hp).1
  refine wpAny_bind (wpAny_of_eq (a := ()) rfl ?_)
  have hcell : h₁.IsCell c v0 := ⟨co, (N₁ _ (.tail _ (.tail _ (.head _)))).1, hco⟩
  refine wpAny_bind (wpAny_assign_Name (wpAny_storeName_cell hkind hkx hcx hcell fun h₂ hc₂ hs₂ => ?_))
  obtain ⟨co', hco', hd'⟩ := hc₂
  have F₂ := F₁.change hs₂ (N₁ _ (.tail _ (.tail _ (.head _)))).2.1 (N₁ _ (.tail _ (.tail _ (.head _)))).2.2
  have N₂ : News h₀ cenv.locals h₂ ((I, rIt (k + 1) (3 - k - 1)) :: (D, plainO ys n) :: (c, co') :: rest) := by
    refine news_set (pre := [(I, rIt (k + 1) (3 - k - 1)), (D, plainO ys n)]) N₁ (fun p hp => ?_) (fun p hp => (hr p hp).2.2) hs₂ hco'
    rcases List.mem_cons.mp hp with rfl | hp
    · exact hIc
    · rw [List.mem_singleton.mp hp]; exact hDc
  simp only [List.forIn_nil]
  refine wpAny_bind (wpAny_pure ?_)
  refine wpAny_bind (wpAny_bind (helt _ _ co' _ _ _ F₂ N₂ hd' fun r row h₃ tk₃ nr F₃ N₃ hne hT => ?_))
  refine wpAny_bind (append_N F₃ N₃ (.tail (hne (D, plainO ys n) (.tail _ (.head _))).symm (.tail hID (.head fun p hp => ?_))) hys fun h₄ n' F₄ N₄ => ?_)
  · rcases List.mem_cons.mp hp with rfl | hp
    · exact fun e => hDc e.symm
    · exact (hr p hp).2.1
  refine wpAny_pure (wpAny_pure ⟨rfl, next h₄ tk₃ r row nr n' co' _ F₄ (fun p hp => N₄ p ?_) hd' (fun p hp => ?_) hT (fun p hp => hne p (.tail _ (.tail _ (.tail _ hp))))⟩)
  · rcases List.mem_cons.mp hp with rfl | hp
    · exact .tail _ (.head _)
    · rcases List.mem_cons.mp hp with rfl | hp
      · exact .tail _ (.tail _ (.head _))
      · rcases List.mem_cons.mp hp with rfl | hp
        · exact .tail _ (.tail _ (.tail _ (.head _)))
        · rcases List.mem_cons.mp hp with rfl | hp
          · exact .head _
          · exact .tail _ (.tail _ (.tail _ (.tail _ hp)))
  · rcases List.mem_cons.mp hp with rfl | hp
    · exact ⟨(hne _ (.head _)).symm, (hne _ (.tail _ (.head _))).symm, (hne _ (.tail _ (.tail _ (.head _)))).symm⟩
    · exact hr p hp
 walk_at "EN"
end
end
section
theorem newEnv_one {w : World} {A : Around} {s : Shared} {env : Env} {scope : Scope} {cl : List (Str × Addr)} {g : Addr} {q : Str} {Q : Env → Shared → Prop} {E : Value → Shared → Prop} {x : Str}
    (hcf : ∀ n, cellsFrom n scope.names cl = (x, n) :: cl) (hpc : ∀ h, pushCells h scope.names = h.push { cls := .type "cell", data := .cell none })
    (h : Q { scope, locals := s.heap.objs.size, globals := g, cells := (x, s.heap.objs.size + 1) :: cl, qual := q, func := none, code := env.code, frame := env.frame, builtins := env.builtins }
      { s with heap := (s.heap.push { cls := .type "dict", data := .dict #[] }).push { cls := .type "cell", data := .cell none } }) :
    wpAny (model PW w) A (newFunctionEnv scope g cl [] q none .none (some env)) Q E s := by
 walk_at "ST"
 case oTag =>
  simp only [newFunctionEnv, Option.isSome_some, if_true]
  refine wpAny_bind (wpAny_alloc ?_)
  refine wpAny_bind (wpAny_layCells _ (fun name kind cells => by cases hkc : kind == NameKind.cell <;> simp [hkc]) _ _ _ _ ?_)
  rw [hcf, hpc]
  simp only [List.forIn_nil]
  refine wpAny_bind (wpAny_pure (wpAny_pure ?_))
  rw [show ({ s with heap := s.heap.push { cls := .type "dict", data := .dict #[] } } : Shared).heap.objs.size = s.heap.objs.size + 1 from Heap.size_push ..]
  exact h
 walk_at "EN"
theorem comp_doneK {w : World} {A : Around} {s : Shared} {elt iter : PySem.Expr} {x : Str} {px pos : Pos} {scope : Scope} {cenv : Env} {R : Result → Shared → Prop} {I D : Addr} {k left : Int} (hh : A.handled = none) (hit : s.heap.get? I = some (rIt k left)) (hl : left ≤ 0)
    (h : ∀ h', (∀ b o, b ≠ I → s.heap.get? b = some o → h'.get? b = some o) → R (.ok .next) { s with heap := h' }) : CompK w A elt iter x px scope pos I D cenv R s := by
  refine codeAny_unfold ?_
  rw [Around.under_of_weight (by rfl) (by rfl)]
  show wpAny _ A ((compTurn (.ListComp elt [⟨.Name x px, iter, [], 0⟩] scope pos) 0 (.ref I) (.ref D) cenv).onRaise (fun x => do noteFrame x cenv; theTreesLotGoes x)) _ _ _
  refine wpAny_noted ?_
  rw [compTurn_list]
  refine wpAny_bind (wpAny_standAt (wpAny_bind ?_))
  refine wpAny_pyNext_range_end hh hit hl fun h' hk => ?_
  exact wpAny_pure (h h' hk)
theorem cell_rest {w : World} {A : Around} {s : Shared} {h₀ : Heap} {elt iter : PySem.Expr} {x : Str} {px pos : Pos} {scope : Scope} {cenv : Env} {R : Result → Shared → Prop} {mC : Str → Option Value} {rest : List (Addr × Obj)} {I D c : Addr} {co : Obj}
    (hh : A.handled = none) (hkind : cenv.scope.kind = .function) (hkx : cenv.kindOf x = some .cell) (hcx : cenv.cells.lookup x = some c)
    (F : Fr h₀ cenv.locals s.heap mC) (N : News h₀ cenv.locals s.heap ((I, rIt 0 (3 - 0)) :: (D, plainO [] 0) :: (c, co) :: rest)) (hco : co.data = .cell none)
    (hID : @Ne Nat I D) (hIc : @Ne Nat I c) (hDc : @Ne Nat D c) (hr : ∀ p ∈ rest, @Ne Nat p.1 I ∧ @Ne Nat p.1 D ∧ @Ne Nat p.1 c) (P : Int → List Value → Prop)
    (helt : ∀ (k : Int) (co : Obj) (t : Tok) (h' : Heap) (tk' : Nat) (led : List (Addr × Obj)) (E' : Value → Shared → Prop) (Q' : Value → Shared → Prop), 0 ≤ k → k < 3 → Fr h₀ cenv.locals h' mC → News h₀ cenv.locals h' led → (c, co) ∈ led → co.data = .cell (some (.int k t)) → (∀ p ∈ rest, p ∈ led) →
      (∀ r row h'' tk'' nr, Fr h₀ cenv.locals h'' mC → News h₀ cenv.locals h'' ((r, plainO row nr) :: led) → (∀ q ∈ led, @Ne Nat q.1 r) → P k row → Q' (.ref r) { s with heap := h'', toks := tk'' }) →
      wpAny (model PW w) A (eval elt cenv) Q' E' { s with heap := h', toks := tk' })
    (fin : ∀ h' tk r0 r1 r2 w0 w1 w2 k0 k1 k2 k, Fr h₀ cenv.locals h' mC → News h₀ cenv.locals h' ((D, plainO [.ref r0, .ref r1, .ref r2] k) :: (r2, plainO w2 k2) :: (r1, plainO w1 k1) :: (r0, plainO w0 k0) :: rest) → P 0 w0 → P 1 w1 → P 2 w2 → (∀ p ∈ rest, @Ne Nat p.1 r0 ∧ @Ne Nat p.1 r1 ∧ @Ne Nat p.1 r2) → R (.ok .next) { s with heap := h', toks := tk }) :
    codeAny (model PW w) A (.compStart (.ListComp elt [⟨.Name x px, iter, [], 0⟩] scope pos) 0 (.ref I) (.ref D) cenv) R s := by
 walk_at "ST"
 case oTag =>
  have main : CompK w A elt iter x px scope pos I D cenv R s := by
    refine turn_cell hkind hkx hcx (by decide) (by simp) F N _ hco hID hIc hDc hr (P 0) (fun h' tk' co' t E' Q' F' N' hd hq => helt 0 co' t h' tk' _ E' Q' (by decide) (by decide) F' N' (.tail _ (.tail _ (.head _))) hd (fun p hp => .tail _ (.tail _ (.tail _ hp))) fun r row h'' tk'' nr F'' N'' hne hP => hq r row h'' tk'' nr F'' N'' hne hP) ?_
    intro h1 tk1 r0 w0 k0 n1 co1 t1 F1 N1 hc1 hr1 hP0 ne0
    refine turn_cell (s := { s with heap := h1, toks := tk1 }) (k := 0 + 1) hkind hkx hcx (by decide) (by simp) F1 N1 _ hc1 hID hIc hDc hr1 (P 1) (fun h' tk' co' t E' Q' F' N' hd hq => helt 1 co' t h' tk' _ E' Q' (by decide) (by decide) F' N' (.tail _ (.tail _ (.head _))) hd (fun p hp => .tail _ (.tail _ (.tail _ (.tail _ hp)))) fun r row h'' tk'' nr F'' N'' hne hP => hq r row h'' tk'' nr F'' N'' hne hP) ?_
    intro h2 tk2 r1 w1 k1 n2 co2 t2 F2 N2 hc2 hr2 hP1 ne1
    refine turn_cell (s := { s with heap := h2, toks := tk2 }) (k := 0 + 1 + 1) hkind hkx hcx (by decide) (by simp) F2 N2 _ hc2 hID hIc hDc hr2 (P 2) (fun h' tk' co' t E' Q' F' N' hd hq => helt 2 co' t h' tk' _ E' Q' (by decide) (by decide) F' N' (.tail _ (.tail _ (.head _))) hd (fun p hp => .tail _ (.tail _ (.tail _ (.tail _ (.tail _ hp))))) fun r row h'' tk'' nr F'' N'' hne hP => hq r row h'' tk'' nr F'' N'' hne hP) ?_
    intro h3 tk3 r2 w2 k2 n3 co3 t3 F3 N3 hc3 hr3 hP2 ne2
    have hI := N3 _ (.head _)
    refine comp_doneK (s := { s with heap := h3, toks := tk3 }) hh hI.1 (by decide) fun h4 hk => ?_
    refine fin h4 tk3 r0 r1 r2 w0 w1 w2 k0 k1 k2 n3 ?_ ?_ hP0 hP1 hP2 (fun p hp => ⟨ne0 p hp, ne1 p (.tail _ hp), ne2 p (.tail _ (.tail _ hp))⟩)
    · obtain ⟨oL, a1, a2, hoL, a3⟩ := F3.ns
      refine ⟨⟨oL, a1, a2, hk _ _ (fun e => hI.2.1 e.symm) hoL, a3⟩, fun b o e => hk b o (fun q => ?_) (F3.keep b o e), F3.above⟩
      have := hI.2.2
      rw [← q, e] at this
      cases this
    · intro p hp
      have hp' : p ∈ ((D, plainO ([] ++ [Value.ref r0] ++ [Value.ref r1] ++ [Value.ref r2]) n3) :: (c, co3) :: (r2, plainO w2 k2) :: (r1, plainO w1 k1) :: (r0, plainO w0 k0) :: rest) := by
        rcases List.mem_cons.mp hp with rfl | hp
        · exact .head _
        · exact .tail _ (.tail _ hp)
      have z := N3 p (.tail _ hp')
      refine ⟨hk _ _ ?_ z.1, z.2⟩
      rcases List.mem_cons.mp hp' with rfl | hp'
      · exact fun e => hID e.symm
      · rcases List.mem_cons.mp hp' with rfl | hp'
        · exact fun e => hIc e.symm
        · exact (hr3 p hp').1
  exact codeAny_compStart_list main (wpAny_pyIter_rangeiter (x := 0) (left := 3) (step := 1) (N _ (.head _)).1 main)
 walk_at "EN"
theorem cell_comp {w : World} {A : Around} {env : Env} {E : Value → Shared → Prop} {s : Shared} {Q : Value → Shared → Prop} {h₀ : Heap} {m mg mb : Str → Option Value} {mean : ExcName → Option Value} {sc1 : Scope} {cl1 : List (Str × Addr)} {news : List (Addr × Obj)} {elt : PySem.Expr} {x : Str} {px pg ph pi pj : Pos}
    (hh : A.handled = none) (F : Fr h₀ env.locals s.heap m) (N : News h₀ env.locals s.heap news) (X : (KK w.params).In h₀) (T : Top qq LOOSE mean mg mb h₀)
    (hclos : closureFor sc1 env = pure cl1) (hkind : sc1.kind = .function) (hnames : ∀ y ∈ sc1.names, y.2 = .local → sc1.names.lookup y.1 = some .local)
    (hcf : ∀ n, cellsFrom n sc1.names cl1 = (x, n) :: cl1) (hpc : ∀ h, pushCells h sc1.names = h.push { cls := .type "cell", data := .cell none })
    (hek : env.scope.kind = .function) (her : env.kindOf (Str.ofString "range") = some .globalImplicit) (hg : env.globals = mainGlobals) (hb : env.builtins = builtinsNs)
    (hck : (relabel sc1 env).kind = .function) (hcx : ∀ C c, (compEnvC sc1 ((x, c) :: cl1) C env).kindOf x = some .cell)
    (P : Int → List Value → Prop)
    (helt : ∀ (k : Int) (C c : Addr) (co : Obj) (t : Tok) (h' : Heap) (tk' : Nat) (mC : Str → Option Value) (led : List (Addr × Obj)) (E' : Value → Shared → Prop) (Q' : Value → Shared → Prop), 0 ≤ k → k < 3 → Fr h₀ C h' mC → News h₀ C h' led → (c, co) ∈ led → co.data = .cell (some (.int k t)) → (∀ p ∈ news, p ∈ led) →
      (∀ r row h'' tk'' nr, Fr h₀ C h'' mC → News h₀ C h'' ((r, plainO row nr) :: led) → (∀ q ∈ led, @Ne Nat q.1 r) → P k row → Q' (.ref r) { s with heap := h'', toks := tk'' }) →
      wpAny (model PW w) A (eval elt (compEnvC sc1 ((x, c) :: cl1) C env)) Q' E' { s with heap := h', toks := tk' })
    (done : ∀ D h' tk r0 r1 r2 w0 w1 w2 k0 k1 k2 k, Fr h₀ env.locals h' m → News h₀ env.locals h' ((D, plainO [.ref r0, .ref r1, .ref r2] k) :: (r2, plainO w2 k2) :: (r1, plainO w1 k1) :: (r0, plainO w0 k0) :: news) → P 0 w0 → P 1 w1 → P 2 w2 → (∀ p ∈ news, @Ne Nat p.1 D) → (∀ p ∈ news, @Ne Nat p.1 r0) → (∀ p ∈ news, @Ne Nat p.1 r1) → (∀ p ∈ news, @Ne Nat p.1 r2) → Q (.ref D) { s with heap := h', toks := tk }) :
    wpAny (model PW w) A (eval (.ListComp elt [⟨.Name x px, .Call (.Name (Str.ofString "range") pg) [.Constant (.int 3) 0 ph] [] pi, [], 0⟩] sc1 pj) env) Q E s := by
 walk_at "ST"
 case oTag =>
  rw [eval_ListComp]
  refine wpAny_comprehension_free (use := none) rfl (fun _ => rfl) hclos hkind hnames ?_
  refine Call_Name1 (Name_function_global hek her (loadGlobal_builtin (env := env) (by rw [hg]; exact T.g.keeps F.keep) (mg_none_of X T.g rfl) (by rw [hb]; exact T.b.keeps F.keep) ((T.builtins _ (by decide)).trans rfl) ?_) (by decide))
  refine PySem.callWith_type1 (wpAny_Constant_int (call_range_1 ?_))
  refine wpAny_pyIter_range (Heap.get?_push_size _ rfl) (by decide +kernel) ?_
  refine wpAny_newObj_type (newEnv_one hcf hpc ?_)
  obtain ⟨oL, es, ep, hL, hLd, hLk, hLf⟩ := id F.ns
  generalize hO1 : ({ cls := .type "range", data := .fields #[.int 0 ({ s with toks := s.toks + 1 } : Shared).toks, .int 3 s.toks, .int 1 (({ s with toks := s.toks + 1 } : Shared).toks + 1)] } : Obj) = o1
  have hI5 : ∀ H : Heap, H = s.heap → ∀ S : Nat, S = H.objs.size →
      let H1 := H.push o1
      let H2 := H1.push (rIt 0 3)
      let H3 := H2.push (plainO [] 0)
      let H4 := H3.push { cls := .type "dict", data := .dict #[] }
      let H5 := H4.push { cls := .type "cell", data := .cell none }
      (@LT.lt Nat _ H1.objs.size H2.objs.size ∧ @LT.lt Nat _ H2.objs.size H3.objs.size ∧ @LT.lt Nat _ S H1.objs.size) ∧ (∀ b o, H.get? b = some o → H5.get? b = some o) ∧ H5.get? H1.objs.size = some (rIt 0 3) ∧ H5.get? H2.objs.size = some (plainO [] 0) ∧ H5.Ns H3.objs.size (fun _ => none) ∧ H5.get? (H3.objs.size + 1) = some { cls := .type "cell", data := .cell none } := by
    intro H _ S hS H1 H2 H3 H4 H5
    have z1 : H1.objs.size = S + 1 := by show (H.push o1).objs.size = _; rw [Heap.size_push, hS]
    have z2 : H2.objs.size = S + 2 := by show (H1.push _).objs.size = _; rw [Heap.size_push, z1]
    have z3 : H3.objs.size = S + 3 := by show (H2.push _).objs.size = _; rw [Heap.size_push, z2]
    have z4 : H4.objs.size = S + 4 := by show (H3.push _).objs.size = _; rw [Heap.size_push, z3]
    have up1 : ∀ b o, H.get? b = some o → H1.get? b = some o := fun b o e => Heap.get?_push_of_some _ e
    have up2 : ∀ b o, H1.get? b = some o → H2.get? b = some o := fun b o e => Heap.get?_push_of_some _ e
    have up3 : ∀ b o, H2.get? b = some o → H3.get? b = some o := fun b o e => Heap.get?_push_of_some _ e
    have up4 : ∀ b o, H3.get? b = some o → H4.get? b = some o := fun b o e => Heap.get?_push_of_some _ e
    have up5 : ∀ b o, H4.get? b = some o → H5.get? b = some o := fun b o e => Heap.get?_push_of_some _ e
    have g1 : H2.get? H1.objs.size = some (rIt 0 3) := Heap.get?_push_size H1 (o := rIt 0 3) rfl
    have g2 : H3.get? H2.objs.size = some (plainO [] 0) := Heap.get?_push_size H2 (o := plainO [] 0) rfl
    have g3 : H4.Ns H3.objs.size (fun _ => none) := Heap.Ns.new H3 (.type "dict")
    have g4 : H5.get? (H3.objs.size + 1) = some { cls := .type "cell", data := .cell none } := by
      have := Heap.get?_push_size H4 (o := { cls := .type "cell", data := .cell none }) rfl
      rwa [show H4.objs.size = H3.objs.size + 1 from Heap.size_push ..] at this
    exact ⟨⟨by rw [z1, z2]; exact Nat.lt_succ_self _, by rw [z2, z3]; exact Nat.lt_succ_self _, by rw [z1]; exact Nat.lt_succ_self _⟩, fun b o e => up5 _ _ (up4 _ _ (up3 _ _ (up2 _ _ (up1 _ _ e)))), up5 _ _ (up4 _ _ (up3 _ _ g1)), up5 _ _ (up4 _ _ g2), g3.keeps up5, g4⟩
  obtain ⟨⟨z1, z2, z3⟩, up, gI, gD, gC, gc⟩ := hI5 s.heap rfl s.heap.objs.size rfl
  have hLs : @LT.lt Nat _ env.locals s.heap.objs.size := F.ns.lt
  have hab : h₀.objs.size ≤ env.locals := F.above
  have nn : ∀ b : Nat, s.heap.objs.size ≤ b → h₀.get? b = none := fun b hb => Heap.get?_none_of_le (by show @LE.le Nat _ _ _; omega)
  have NL : ∀ p ∈ ((env.locals, oL) :: news), @LT.lt Nat _ p.1 s.heap.objs.size ∧ s.heap.get? p.1 = some p.2 ∧ h₀.get? p.1 = none := by
    intro p hp
    rcases List.mem_cons.mp hp with rfl | hp
    · exact ⟨hLs, hL, Heap.get?_none_of_le hab⟩
    · exact ⟨Heap.lt_size (N p hp).1, (N p hp).1, (N p hp).2.2⟩
  refine cell_rest (cenv := compEnvC sc1 ((x, _) :: cl1) _ env) (rest := (env.locals, oL) :: news) (mC := fun _ => none) (co := { cls := .type "cell", data := .cell none }) hh hck (hcx _ _) ?lk ⟨gC, fun b o e => up b o (F.keep b o e), ?ab⟩ ?N rfl (Nat.ne_of_lt z1) (Nat.ne_of_lt (Nat.lt_succ_of_lt (Nat.lt_trans z1 z2))) (Nat.ne_of_lt (Nat.lt_succ_of_lt z2)) ?d4 P ?helt ?fin
  case lk => simp [compEnvC]
  case ab => exact Nat.le_of_lt (Nat.lt_of_le_of_lt hab (Nat.lt_trans hLs (Nat.lt_trans z3 (Nat.lt_trans z1 z2))))
  case N =>
    intro p hp
    rcases List.mem_cons.mp hp with rfl | hp
    · exact ⟨gI, Nat.ne_of_lt (Nat.lt_trans z1 z2), nn _ (Nat.le_of_lt z3)⟩
    · rcases List.mem_cons.mp hp with rfl | hp
      · exact ⟨gD, Nat.ne_of_lt z2, nn _ (Nat.le_of_lt (Nat.lt_trans z3 z1))⟩
      · rcases List.mem_cons.mp hp with rfl | hp
        · exact ⟨gc, Nat.ne_of_gt (Nat.lt_succ_self _), nn _ (Nat.le_of_lt (Nat.lt_succ_of_lt (Nat.lt_trans z3 (Nat.lt_trans z1 z2))))⟩
        · have := NL p hp
          exact ⟨up _ _ this.2.1, Nat.ne_of_lt (Nat.lt_trans this.1 (Nat.lt_trans z3 (Nat.lt_trans z1 z2))), this.2.2⟩
  case d4 =>
    intro p hp
    have := (NL p hp).1
    exact ⟨Nat.ne_of_lt (Nat.lt_trans this z3), Nat.ne_of_lt (Nat.lt_trans this (Nat.lt_trans z3 z1)), Nat.ne_of_lt (Nat.lt_succ_of_lt (Nat.lt_trans this (Nat.lt_trans z3 (Nat.lt_trans z1 z2))))⟩
  case helt =>
    intro k co t h' tk' led E' Q' h0 h3 F' N' hm hd hsub hq
    exact helt k _ _ co t h' tk' _ led E' Q' h0 h3 F' N' hm hd (fun p hp => hsub p (.tail _ hp)) hq
  case fin =>
    intro h' tk r0 r1 r2 w0 w1 w2 k0 k1 k2 k F' N' hP0 hP1 hP2 hrs
    refine ⟨_, F'.ns, fun h'' hs'' => ?_⟩
    have hne : ∀ p ∈ ((_, plainO [.ref r0, .ref r1, .ref r2] k) :: (r2, plainO w2 k2) :: (r1, plainO w1 k1) :: (r0, plainO w0 k0) :: (env.locals, oL) :: news : List (Addr × Obj)), h''.get? p.1 = some p.2 ∧ h₀.get? p.1 = none := fun p hp => by
      have z := N' p hp
      exact ⟨hs''.extBut _ _ z.2.1 z.1, z.2.2⟩
    have gL : h''.get? env.locals = some oL := (hne (env.locals, oL) (.tail _ (.tail _ (.tail _ (.tail _ (.head _)))))).1
    have nl : ∀ (r : Addr) (ys : List Value) (n : Nat), h''.get? r = some (plainO ys n) → r ≠ env.locals := by
      rintro r ys n e rfl
      rw [gL] at e
      injection e with e
      rw [e] at hLd
      cases hLd
    refine done _ h'' tk r0 r1 r2 w0 w1 w2 k0 k1 k2 k ⟨⟨oL, es, ep, gL, hLd, hLk, hLf⟩, fun b o e => hs''.extBut b o (fun q => ?_) (F'.keep b o e), F.above⟩ (fun p hp => ?_) hP0 hP1 hP2 (fun p hp => Nat.ne_of_lt (Nat.lt_trans (NL p (.tail _ hp)).1 (Nat.lt_trans z3 z1))) (fun p hp => (hrs p (.tail _ hp)).1) (fun p hp => (hrs p (.tail _ hp)).2.1) (fun p hp => (hrs p (.tail _ hp)).2.2)
    · subst q
      exact nomatch (e.symm.trans (nn _ (Nat.le_of_lt (Nat.lt_trans z3 (Nat.lt_trans z1 z2)))) : some o = none)
    · rcases List.mem_cons.mp hp with rfl | hp
      · have z := hne _ (.head _)
        exact ⟨z.1, nl _ _ _ z.1, z.2⟩
      · rcases List.mem_cons.mp hp with rfl | hp
        · have z := hne _ (.tail _ (.head _))
          exact ⟨z.1, nl _ _ _ z.1, z.2⟩
        · rcases List.mem_cons.mp hp with rfl | hp
          · have z := hne _ (.tail _ (.tail _ (.head _)))
            exact ⟨z.1, nl _ _ _ z.1, z.2⟩
          · rcases List.mem_cons.mp hp with rfl | hp
            · have z := hne _ (.tail _ (.tail _ (.tail _ (.head _))))
              exact ⟨z.1, nl _ _ _ z.1, z.2⟩
            · have z := hne p (.tail _ (.tail _ (.tail _ (.tail _ (.tail _ hp)))))
              exact ⟨z.1, (N p hp).2.1, z.2⟩
 walk_at "EN"
end
section
noncomputable def rowP (f0 s0 f1 s1 f2 s2 : Int) (k : Int) (row : List Value) : Prop := IntsAre row [tv k (pick3 f0 f1 f2 k) (pick3 s0 s1 s2 k) 0, tv k (pick3 f0 f1 f2 k) (pick3 s0 s1 s2 k) 1, tv k (pick3 f0 f1 f2 k) (pick3 s0 s1 s2 k) 2]
theorem table_comp {w : World} {A : Around} {env : Env} {E : Value → Shared → Prop} {s : Shared} {Q : Value → Shared → Prop} {h₀ : Heap} {m mg mb : Str → Option Value} {mean : ExcName → Option Value} {sc1 sc2 : Scope} {cn a b0 b1 b2 b3 b4 : Addr} {on : Obj} {f0 s0 f1 s1 f2 s2 : Int} {news : List (Addr × Obj)}
    {p1 p2 p3 p4 p5 p6 p7 p8 p9 pa pb pc pd pe pf pg ph pi pj qa qb qc qd qe : Pos}
    (hh : A.handled = none) (F : Fr h₀ env.locals s.heap m) (N : News h₀ env.locals s.heap news) (X : (KK w.params).In h₀) (T : Top qq LOOSE mean mg mb h₀) (hnet : NetAt news a b0 b1 b2 b3 b4 f0 s0 f1 s1 f2 s2) (hm2 : (cn, on) ∈ news) (hd2 : on.data = .cell (some (.ref a)))
    (hclos : closureFor sc1 env = pure [(Str.ofString "net", cn)]) (hkind : sc1.kind = .function) (hnames : ∀ y ∈ sc1.names, y.2 = .local → sc1.names.lookup y.1 = some .local)
    (hcf : ∀ n, cellsFrom n sc1.names [(Str.ofString "net", cn)] = [(Str.ofString "place", n), (Str.ofString "net", cn)]) (hpc : ∀ h, pushCells h sc1.names = h.push { cls := .type "cell", data := .cell none })
    (hek : env.scope.kind = .function) (her : env.kindOf (Str.ofString "range") = some .globalImplicit) (hg : env.globals = mainGlobals) (hb : env.builtins = builtinsNs)
    (hck : (relabel sc1 env).kind = .function) (hcx : ∀ C c, (compEnvC sc1 [(Str.ofString "place", c), (Str.ofString "net", cn)] C env).kindOf (Str.ofString "place") = some .cell)
    (hcr : ∀ C c, (compEnvC sc1 [(Str.ofString "place", c), (Str.ofString "net", cn)] C env).kindOf (Str.ofString "range") = some .globalImplicit)
    (hclos2 : ∀ C c, closureFor sc2 (compEnvC sc1 [(Str.ofString "place", c), (Str.ofString "net", cn)] C env) = pure [(Str.ofString "place", c), (Str.ofString "net", cn)]) (hcell2 : ∀ y ∈ sc2.names, y.2 ≠ .cell) (hkind2 : sc2.kind = .function) (hnames2 : ∀ y ∈ sc2.names, y.2 = .local → sc2.names.lookup y.1 = some .local) (hxo : sc2.names.lookup (Str.ofString "other") = some .local)
    (hk : ∀ C c, (relabel sc2 (compEnvC sc1 [(Str.ofString "place", c), (Str.ofString "net", cn)] C env)).kind = .function)
    (hx : ∀ C c C2, (compEnvC sc2 [(Str.ofString "place", c), (Str.ofString "net", cn)] C2 (compEnvC sc1 [(Str.ofString "place", c), (Str.ofString "net", cn)] C env)).kindOf (Str.ofString "other") = some .local)
    (hp : ∀ C c C2, (compEnvC sc2 [(Str.ofString "place", c), (Str.ofString "net", cn)] C2 (compEnvC sc1 [(Str.ofString "place", c), (Str.ofString "net", cn)] C env)).kindOf (Str.ofString "place") = some .cell)
    (hn : ∀ C c C2, (compEnvC sc2 [(Str.ofString "place", c), (Str.ofString "net", cn)] C2 (compEnvC sc1 [(Str.ofString "place", c), (Str.ofString "net", cn)] C env)).kindOf (Str.ofString "net") = some .cell)
    (done : ∀ D h' tk r0 r1 r2 w0 w1 w2 k0 k1 k2 k, Fr h₀ env.locals h' m → News h₀ env.locals h' ((D, plainO [.ref r0, .ref r1, .ref r2] k) :: (r2, plainO w2 k2) :: (r1, plainO w1 k1) :: (r0, plainO w0 k0) :: news) → rowP f0 s0 f1 s1 f2 s2 0 w0 → rowP f0 s0 f1 s1 f2 s2 1 w1 → rowP f0 s0 f1 s1 f2 s2 2 w2 →
      (∀ p ∈ news, @Ne Nat p.1 D) → (∀ p ∈ news, @Ne Nat p.1 r0) → (∀ p ∈ news, @Ne Nat p.1 r1) → (∀ p ∈ news, @Ne Nat p.1 r2) → Q (.ref D) { s with heap := h', toks := tk }) :
    wpAny (model PW w) A (eval (.ListComp (.ListComp (.IfExp (.Compare (.Name (Str.ofString "place") p1) [.Eq] [.Name (Str.ofString "other") p2] p3) (.Constant (.int 2) 0 p4)
      (.IfExp (.Compare (.Name (Str.ofString "other") p5) [.In] [.Subscript (.Name (Str.ofString "net") p6) (.Name (Str.ofString "place") p7) p8] p9) (.UnaryOp .USub (.Constant (.int 1) 0 pa) pb) (.Constant (.int 0) 0 pc) pd) pe)
      [⟨.Name (Str.ofString "other") pf, .Call (.Name (Str.ofString "range") pg) [.Constant (.int 3) 0 ph] [] pi, [], 0⟩] sc2 pj)
      [⟨.Name (Str.ofString "place") qa, .Call (.Name (Str.ofString "range") qb) [.Constant (.int 3) 0 qc] [] qd, [], 0⟩] sc1 qe) env) Q E s := by
 walk_at "ST"
 case oTag =>
  refine cell_comp hh F N X T hclos hkind hnames hcf hpc hek her hg hb hck hcx (rowP f0 s0 f1 s1 f2 s2) ?_ done
  intro k C c co t h' tk' mC led E' Q' h0 h3 F' N' hm hd hsub hq
  have row : ∀ (f s' : Int) (tf ts : Tok) (bp : Addr), pick3 f0 f1 f2 k = f → pick3 s0 s1 s2 k = s' → (#[Value.ref b0, .ref b1, .ref b2, .ref b3, .ref b4] : Array Value)[k.toNat]? = some (.ref bp) → (bp, W.listOf #[.int f tf, .int s' ts] 0) ∈ news →
      wpAny (model PW w) A (eval (.ListComp (.IfExp (.Compare (.Name (Str.ofString "place") p1) [.Eq] [.Name (Str.ofString "other") p2] p3) (.Constant (.int 2) 0 p4)
      (.IfExp (.Compare (.Name (Str.ofString "other") p5) [.In] [.Subscript (.Name (Str.ofString "net") p6) (.Name (Str.ofString "place") p7) p8] p9) (.UnaryOp .USub (.Constant (.int 1) 0 pa) pb) (.Constant (.int 0) 0 pc) pd) pe)
      [⟨.Name (Str.ofString "other") pf, .Call (.Name (Str.ofString "range") pg) [.Constant (.int 3) 0 ph] [] pi, [], 0⟩] sc2 pj) (compEnvC sc1 [(Str.ofString "place", c), (Str.ofString "net", cn)] C env)) Q' E' { s with heap := h', toks := tk' } := by
    intro f s' tf ts bp e1 e2 hi hm4
    refine row_comp (p1 := p1) (p2 := p2) (p3 := p3) (p4 := p4) (p5 := p5) (p6 := p6) (p7 := p7) (p8 := p8) (p9 := p9) (pa := pa) (pb := pb) (pc := pc) (pd := pd) (pe := pe) (pf := pf) (pg := pg) (ph := ph) (pi := pi) (pj := pj) hh F' N' X T (hclos2 C c) hcell2 hkind2 hnames2 hxo hck (hcr C c) hg hb (hk C c) (hx C c) (hp C c) (hn C c) (by rfl) (by rfl) hm hd (hsub _ hm2) hd2 (hsub _ hnet.top) h0 (by omega) hi (hsub _ hm4) ?_
    intro D h'' tk'' ys n F'' N'' ne hys
    refine hq D ys h'' tk'' n F'' N'' ne ?_
    unfold rowP
    rw [e1, e2]
    exact hys
  have hk3 : k = 0 ∨ k = 1 ∨ k = 2 := by omega
  rcases hk3 with rfl | rfl | rfl
  · obtain ⟨t, u, hm4⟩ := hnet.r0
    exact row f0 s0 t u b0 rfl rfl rfl hm4
  · obtain ⟨t, u, hm4⟩ := hnet.r1
    exact row f1 s1 t u b1 rfl rfl rfl hm4
  · obtain ⟨t, u, hm4⟩ := hnet.r2
    exact row f2 s2 t u b2 rfl rfl rfl hm4
 walk_at "EN"
end
section
structure PickIs (k : Int) (f0 s0 f1 s1 f2 s2 : Int) (n v : Int) : Prop where
  eq : v = tv k (pick3 f0 f1 f2 k) (pick3 s0 s1 s2 k) n
  abs : v.natAbs ≤ 2
theorem tv_abs (p f s k : Int) : (tv p f s k).natAbs ≤ 2 := by
  unfold tv
  split
  · decide
  · split <;> decide
noncomputable def sumL (f0 s0 f1 s1 f2 s2 r c0 c1 c2 : Int) : List Int := [tv 0 (pick3 f0 f1 f2 0) (pick3 s0 s1 s2 0) r * c0, tv 1 (pick3 f0 f1 f2 1) (pick3 s0 s1 s2 1) r * c1, tv 2 (pick3 f0 f1 f2 2) (pick3 s0 s1 s2 2) r * c2]
theorem sum_comp {w : World} {A : Around} {env : Env} {E : Value → Shared → Prop} {s : Shared} {Q : Value → Shared → Prop} {h₀ : Heap} {m : Str → Option Value} {scope : Scope} {cl : List (Str × Addr)} {dst : Option Str} {r : Addr} {ro : Obj} {t u v : Tok} {news : List (Addr × Obj)} {ct cf cc D dc r0 r1 r2 : Addr} {ot of oc : Obj} {w0 w1 w2 : List Value} {n0 n1 n2 nd nc : Nat} {f0 s0 f1 s1 f2 s2 fr c0 c1 c2 : Int} {tf : Tok} {cs : Array Value} {p1 p2 p3 p4 p5 p6 p7 p8 p9 : Pos}
    (hh : A.handled = none) (F : Fr h₀ env.locals s.heap m) (N : News h₀ env.locals s.heap news) (hr : s.heap.get? r = some ro)
    (hro : ro = { cls := .type "range", dict := none, data := .fields #[.int 0 t, .int 3 u, .int 1 v], slots := #[] })
    (hk : (relabel scope env).kind = .function) (hx : ∀ C, (compEnvC scope cl C env).kindOf (Str.ofString "place") = some .local)
    (hy1 : ∀ C, (compEnvC scope cl C env).kindOf (Str.ofString "table") = some .cell) (hy2 : ∀ C, (compEnvC scope cl C env).kindOf (Str.ofString "fed_row") = some .cell) (hy3 : ∀ C, (compEnvC scope cl C env).kindOf (Str.ofString "cofactors") = some .cell)
    (hc1 : cl.lookup (Str.ofString "table") = some ct) (hm1 : (ct, ot) ∈ news) (hd1 : ot.data = .cell (some (.ref D)))
    (hc2 : cl.lookup (Str.ofString "fed_row") = some cf) (hm2 : (cf, of) ∈ news) (hd2 : of.data = .cell (some (.int fr tf)))
    (hc3 : cl.lookup (Str.ofString "cofactors") = some cc) (hm3 : (cc, oc) ∈ news) (hd3 : oc.data = .cell (some (.ref dc)))
    (hD : (D, plainO [.ref r0, .ref r1, .ref r2] nd) ∈ news) (h0 : (r0, plainO w0 n0) ∈ news) (h1 : (r1, plainO w1 n1) ∈ news) (h2 : (r2, plainO w2 n2) ∈ news)
    (i0 : rowP f0 s0 f1 s1 f2 s2 0 w0) (i1 : rowP f0 s0 f1 s1 f2 s2 1 w1) (i2 : rowP f0 s0 f1 s1 f2 s2 2 w2) (hdc : (dc, W.listOf cs nc) ∈ news) (hcs : IntsAre cs.toList [c0, c1, c2]) (hf0 : 0 ≤ fr) (hf3 : fr < 3)
    (done : ∀ D h' tk ys n, Fr h₀ env.locals h' (match dst with | some y => fun z => if z = y then some (.ref D) else m z | none => m) → News h₀ env.locals h' ((D, plainO ys n) :: news) → (∀ q ∈ news, @Ne Nat q.1 D) →
      IntsAre ys (sumL f0 s0 f1 s1 f2 s2 fr c0 c1 c2) → Q (.ref D) { s with heap := h', toks := tk }) :
    CompAt PW w A env scope cl (Str.ofString "place") [] (.BinOp (.Subscript (.Subscript (.Name (Str.ofString "table") p1) (.Name (Str.ofString "place") p2) p3) (.Name (Str.ofString "fed_row") p4) p5) .Mult (.Subscript (.Name (Str.ofString "cofactors") p6) (.Name (Str.ofString "place") p7) p8) p9) dst Q E (.ref r) s := by
 walk_at "ST"
 case oTag =>
  refine compAt_range hh F N hr hro (by decide +kernel) 3 (by decide) (by decide +kernel) (fun _ => true) (fun v y => ∀ k t, v = .int k t → ∃ t, y = .int ((sumL f0 s0 f1 s1 f2 s2 fr c0 c1 c2).getD k.toNat 0) t) ?_ ?_ ?_
  · intro C k t s₃ m₃ E' _ _ _ _ _ _
    simp only [List.forIn_nil]
    exact wpAny_pure ⟨rfl, _, _, rfl, fun _ _ e => e⟩
  · intro C k tk s₃ m₃ E' hk0 hk3 _ hns hx' F' N'
    have l1 : ∀ {pos : Pos} {Q' E' : Value → Shared → Prop} {s' : Shared}, s'.heap = s₃.heap → Q' (.int k tk) s' → wpAny (model PW w) A (eval (.Name (Str.ofString "place") pos) (compEnvC scope cl C env)) Q' E' s' :=
      fun e h => wpAny_Name (wpAny_loadName_local hk (hx C) (e ▸ hns) hx' h) (by decide)
    have l2 : ∀ {pos : Pos} {Q' E' : Value → Shared → Prop} {s' : Shared}, s'.heap = s₃.heap → Q' (.ref D) s' → wpAny (model PW w) A (eval (.Name (Str.ofString "table") pos) (compEnvC scope cl C env)) Q' E' s' :=
      fun e h => wpAny_Name (wpAny_loadName_cell hk (hy1 C) hc1 ⟨ot, e ▸ N'.get hm1, hd1⟩ h) (by decide)
    have l3 : ∀ {pos : Pos} {Q' E' : Value → Shared → Prop} {s' : Shared}, s'.heap = s₃.heap → Q' (.int fr tf) s' → wpAny (model PW w) A (eval (.Name (Str.ofString "fed_row") pos) (compEnvC scope cl C env)) Q' E' s' :=
      fun e h => wpAny_Name (wpAny_loadName_cell hk (hy2 C) hc2 ⟨of, e ▸ N'.get hm2, hd2⟩ h) (by decide)
    have l4 : ∀ {pos : Pos} {Q' E' : Value → Shared → Prop} {s' : Shared}, s'.heap = s₃.heap → Q' (.ref dc) s' → wpAny (model PW w) A (eval (.Name (Str.ofString "cofactors") pos) (compEnvC scope cl C env)) Q' E' s' :=
      fun e h => wpAny_Name (wpAny_loadName_cell hk (hy3 C) hc3 ⟨oc, e ▸ N'.get hm3, hd3⟩ h) (by decide)
    have main : ∀ (rk : Addr) (wk : List Value) (nk : Nat) (c : Int), (#[Value.ref r0, .ref r1, .ref r2] : Array Value)[k.toNat]? = some (.ref rk) → (rk, plainO wk nk) ∈ news → rowP f0 s0 f1 s1 f2 s2 k wk → [c0, c1, c2][k.toNat]? = some c → (sumL f0 s0 f1 s1 f2 s2 fr c0 c1 c2).getD k.toNat 0 = tv k (pick3 f0 f1 f2 k) (pick3 s0 s1 s2 k) fr * c →
        wpAny (model PW w) A (eval (.BinOp (.Subscript (.Subscript (.Name (Str.ofString "table") p1) (.Name (Str.ofString "place") p2) p3) (.Name (Str.ofString "fed_row") p4) p5) .Mult (.Subscript (.Name (Str.ofString "cofactors") p6) (.Name (Str.ofString "place") p7) p8) p9) (compEnvC scope cl C env)) (fun y s₄ => (∀ k' t, Value.int k tk = .int k' t → ∃ t, y = .int ((sumL f0 s0 f1 s1 f2 s2 fr c0 c1 c2).getD k'.toNat 0) t) ∧ Keeps s₃ s₄) E' s₃ := by
      intro rk wk nk c e1 e2 e3 e4 e5
      have hlD : s₃.heap.IsList D #[Value.ref r0, .ref r1, .ref r2] := ⟨_, N'.get hD, rfl, _, rfl⟩
      have hlr : s₃.heap.IsList rk wk.toArray := ⟨_, N'.get e2, rfl, _, rfl⟩
      have hlc : s₃.heap.IsList dc cs := ⟨_, N'.get hdc, rfl, _, rfl⟩
      have hn : fr = 0 ∨ fr = 1 ∨ fr = 2 := by omega
      obtain ⟨ta, ha⟩ := e3.get fr.toNat (tv k (pick3 f0 f1 f2 k) (pick3 s0 s1 s2 k) fr) (by rcases hn with rfl | rfl | rfl <;> rfl)
      obtain ⟨tb, hb⟩ := hcs.get k.toNat c e4
      refine wpAny_BinOp (Subscript_ (wpAny_Subscript_Name (T := "list") slot_list_getitem.lookup (l2 rfl (l1 rfl ⟨hlD.typeIs, wpAny_getItem_list hlD hk0 (by omega) e1 (l3 rfl (tail_any hlr.typeIs slot_list_getitem.lookup (wpAny_getItem_list hlr hf0 (by omega) (by simpa using ha) ?_) (ops := [.ref rk, .int fr tf]) (by with_unfolding_all rfl)))⟩))))
      refine wpAny_Subscript_Name (T := "list") slot_list_getitem.lookup (l4 rfl (l1 rfl ⟨hlc.typeIs, wpAny_getItem_list hlc hk0 (by omega) (by simpa using hb) ?_⟩))
      refine mul_int ⟨fun k' t' e => ?_, _, _, rfl, fun _ _ e => e⟩ (IntMulOk.of_left (intBits_le (Nat.lt_of_le_of_lt (tv_abs _ _ _ _) (by decide +kernel))))
      injection e with e _
      subst e
      exact ⟨_, by rw [e5]⟩
    have hn : k = 0 ∨ k = 1 ∨ k = 2 := by omega
    rcases hn with rfl | rfl | rfl
    · exact main r0 w0 n0 c0 rfl h0 i0 rfl rfl
    · exact main r1 w1 n1 c1 rfl h1 i1 rfl rfl
    · exact main r2 w2 n2 c2 rfl h2 i2 rfl rfl
  · intro D h' tk ys n vs F' N' ne hvs hpair
    refine done D h' tk ys n F' N' ne ?_
    have hf : vs.filter (fun _ => true) = vs := List.filter_eq_self.mpr fun _ _ => rfl
    rw [hf] at hpair
    rw [show intsTo 0 ((3 : Int) - 0).toNat = [0, 1, 2] by decide +kernel] at hvs
    cases hvs with
    | cons _ t0 hvs => cases hvs with
      | cons _ t1 hvs => cases hvs with
        | cons _ t2 hvs => cases hvs with
          | nil =>
            cases hpair with
            | cons a0 hpair => cases hpair with
              | cons a1 hpair => cases hpair with
                | cons a2 hpair => cases hpair with
                  | nil =>
                    obtain ⟨u0, rfl⟩ := a0 _ _ rfl
                    obtain ⟨u1, rfl⟩ := a1 _ _ rfl
                    obtain ⟨u2, rfl⟩ := a2 _ _ rfl
                    exact .cons _ _ (.cons _ _ (.cons _ _ .nil))
 walk_at "EN"
end
section
open ZL ZTolda
section
variable {w : World} {A : Around} {E : Value → Shared → Prop} {s : Shared} {env : Env} {Q : Flow → Shared → Prop} {h₀ : Heap} {m : Str → Option Value} {news : List (Addr × Obj)} {target iter : PySem.Expr} {body els : List Stmt} {I D : Addr} {vs : List Value} {n j : Nat}
theorem iter_listE (F : Fr h₀ env.locals s.heap m) (N : News h₀ env.locals s.heap news) (hp : (D, W.listOf vs.toArray n) ∈ news)
    (h : ∀ I h', Fr h₀ env.locals h' m → News h₀ env.locals h' ((I, itO D 0) :: news) → (∀ p ∈ news, p.1 ≠ I) → LoopE PW w A target body els env I Q E { s with heap := h' }) :
    wpAny (model PW w) A (pyIter (.ref D)) (fun it s₂ => ∃ I, it = .ref I ∧ LoopE PW w A target body els env I Q E s₂) E s :=
  wpAny_pyIter_list (items := vs.toArray) ⟨_, (N _ hp).1, rfl, n, rfl⟩ ⟨_, rfl, h _ _ (F.push _) (News.push F N (itO D 0) rfl) fun p hp => Nat.ne_of_lt (Heap.lt_size (N p hp).1)⟩
theorem pyNext_exact {it l : Addr} {i : Nat} {items : Array Value} {x : Value} {Q : Option Value → Shared → Prop} (ho : s.heap.get? it = some (itO l i)) (hl : s.heap.IsList l items) (hx : items[i]? = some x)
    (hQ : ∀ h', h'.get? it = some (itO l (i + 1)) → Heap.SameBut it s.heap h' → Q (some x) { s with heap := h' }) : wpAny (model PW w) A (pyNext (.ref it)) Q E s := by
  unfold pyNext
  exact wpAny_bind (wpAny_attempt (next_special ho hl hx fun h' a b => wpAny_pure (hQ h' a b)))
theorem loop_itemL {x : Value} {g : Obj → List (Addr × Obj)} (F : Fr h₀ env.locals s.heap m) (N : News h₀ env.locals s.heap news) (U : UpdF I (itO D j) news g) (hp : (D, W.listOf vs.toArray n) ∈ news) (hx : vs[j]? = some x)
    (hE : PassesOwn (model PW w) A env E) (ht : ∀ v, letOwnedTupleGo target (.ref I) v = pure ())
    (h : ∀ h', Fr h₀ env.locals h' m → News h₀ env.locals h' (g (itO D (j + 1))) →
      wpAny (model PW w) A (assign target env x) (fun _ s₂ => wpAny (model PW w) A (execs body env) (PeelE PW w A target body els env I Q E) E s₂) E { s with heap := h' }) :
    LoopE PW w A target body els env I Q E s := by
 walk_at "ST"
 case oTag =>
  obtain ⟨pre, post, e1, e2, d1, d2⟩ := U.split
  have hI : (I, itO D j) ∈ news := by rw [e1]; exact List.mem_append_right _ (.head _)
  have hit := (N _ hI).1
  have hl : s.heap.IsList D vs.toArray := ⟨_, (N _ hp).1, rfl, n, rfl⟩
  refine codeAny_unfold ?_
  rw [Around.under_of_weight (by rfl) (by rfl)]
  show wpAny _ _ ((forTurn target (.ref I) body els env).onRaise (fun x => do noteFrame x env; theTreesLotGoes x)) _ _ s
  refine wpAny_noted ?_
  simp only [forTurn]
  refine wpAny_bind (wpAny_standAt (wpAny_bind (wpAny_onRaise ?_)))
  refine pyNext_exact hit hl (by simpa using hx) fun h' hit' hs => ?_
  have F' := F.change hs (N _ hI).2.1 (N _ hI).2.2
  have N' : News h₀ env.locals h' (g (itO D (j + 1))) := by
    rw [e2]
    rw [e1] at N
    exact news_set N d1 d2 hs hit'
  refine wpAny_bind (wpAny_of_eq (a := ()) (ht _) ?_)
  refine wpAny_bind (wpAny_mono (wpAny_passesOwn hE (h h' F' N')) (fun _ s₂ h₂ => ?_) fun _ _ h' => h')
  refine wpAny_bind (wpAny_mono (wpAny_passesOwn hE h₂) (fun f s₃ h₃ => ?_) fun _ _ h' => h')
  cases f with
  | next => exact wpAny_pure ⟨rfl, h₃⟩
  | cont => exact wpAny_pure ⟨rfl, h₃⟩
  | brk => exact wpAny_pure h₃
  | ret v => exact wpAny_pure h₃
 walk_at "EN"
theorem loop_doneL {news' : List (Addr × Obj)} (hh : A.handled = none) (F : Fr h₀ env.locals s.heap m) (N : News h₀ env.locals s.heap news) (U : DelF I (itO D j) news news') (hp : (D, W.listOf vs.toArray n) ∈ news) (hx : vs[j]? = none)
    (hE : PassesOwn (model PW w) A env E)
    (h : ∀ h', Fr h₀ env.locals h' m → News h₀ env.locals h' news' → wpAny (model PW w) A (execs els env) Q E { s with heap := h' }) : LoopE PW w A target body els env I Q E s := by
 walk_at "ST"
 case oTag =>
  obtain ⟨hI, d1, d2⟩ := U.split
  have hit := (N _ hI).1
  have hl : s.heap.IsList D vs.toArray := ⟨_, (N _ hp).1, rfl, n, rfl⟩
  refine codeAny_unfold ?_
  rw [Around.under_of_weight (by rfl) (by rfl)]
  show wpAny _ _ ((forTurn target (.ref I) body els env).onRaise (fun x => do noteFrame x env; theTreesLotGoes x)) _ _ s
  refine wpAny_noted ?_
  simp only [forTurn]
  refine wpAny_bind (wpAny_standAt (wpAny_bind (wpAny_onRaise ?_)))
  refine wpAny_pyNext_list_end hh ⟨_, hit, rfl, rfl⟩ hl (by simpa using hx) fun h' hk => ?_
  have F' : Fr h₀ env.locals h' m := by
    obtain ⟨oL, a1, a2, hoL, a3⟩ := F.ns
    refine ⟨⟨oL, a1, a2, hk _ _ (fun e => (N _ hI).2.1 e.symm) hoL, a3⟩, fun b o e => hk b o (fun q => ?_) (F.keep b o e), F.above⟩
    have := (N _ hI).2.2
    rw [← q, e] at this
    cases this
  exact wpAny_pure ⟨rfl, codeAny_block (wpAny_passesOwn hE (h h' F' fun p hp => ⟨hk _ _ (d2 p hp) (N p (d1 p hp)).1, (N p (d1 p hp)).2⟩))⟩
 walk_at "EN"
end
noncomputable def gcdI : Nat → Int → Int → Option Int
  | 0, _, _ => none
  | n + 1, c, p => if p = 0 then some c else gcdI n p (c.fmod p)
noncomputable def restIn (i j : Nat) : List Stmt := match PW.main.body[i + 1]? with
  | some (.FunctionDef _ _ b _ _ _ _ _ _ _) => b.drop j
  | _ => []
noncomputable def forBody : Stmt → List Stmt
  | .For _ _ b _ _ => b
  | _ => []
noncomputable def tEnv (L : Addr) : Env := envOfC (Str.ofString "_law_told") { kind := ScopeKind.function, names := [(Str.ofString "net", NameKind.cell), (Str.ofString "fed_row", NameKind.cell), (Str.ofString "place", NameKind.local), (Str.ofString "table", NameKind.cell), (Str.ofString "near", NameKind.local), (Str.ofString "far", NameKind.local), (Str.ofString "cofactors", NameKind.cell), (Str.ofString "one", NameKind.local), (Str.ofString "two", NameKind.local), (Str.ofString "whole", NameKind.local), (Str.ofString "common", NameKind.cell), (Str.ofString "part", NameKind.local), (Str.ofString "range", NameKind.globalImplicit), (Str.ofString "sum", NameKind.globalImplicit)], isGenerator := false, isCoroutine := false, more := [(Str.ofString "fast", Const.str (Str.ofString "net")), (Str.ofString "fast", Const.str (Str.ofString "fed_row")), (Str.ofString "fast", Const.str (Str.ofString "place")), (Str.ofString "fast", Const.str (Str.ofString "other")), (Str.ofString "fast", Const.str (Str.ofString "table")), (Str.ofString "fast", Const.str (Str.ofString "near")), (Str.ofString "fast", Const.str (Str.ofString "far")), (Str.ofString "fast", Const.str (Str.ofString "cofactors")), (Str.ofString "fast", Const.str (Str.ofString "one")), (Str.ofString "fast", Const.str (Str.ofString "two")), (Str.ofString "fast", Const.str (Str.ofString "whole")), (Str.ofString "fast", Const.str (Str.ofString "common")), (Str.ofString "fast", Const.str (Str.ofString "part"))] } L 199 (.ref 198)
noncomputable def gcdJ (g : Int) (h₀ : Heap) (L cm : Addr) (m : Str → Option Value) (rest : List (Addr × Obj)) (s : Shared) (n : Nat) (s' : Shared) : Prop :=
  ∃ h tk c p om t1 t2, s' = { s with heap := h, toks := tk } ∧ Fr h₀ L h (fun y => if y = Str.ofString "part" then some (.int p t1) else m y) ∧ News h₀ L h ((cm, om) :: rest) ∧ om.data = .cell (some (.int c t2)) ∧ gcdI n c p = some g
theorem unpack_two {w : World} {A : Around} {E : Value → Shared → Prop} {s : Shared} {env : Env} {Q : Unit → Shared → Prop} {h₀ : Heap} {L : Addr} {m : Str → Option Value} {news : List (Addr × Obj)} {x y : Str} {px py pos : Pos} {k : Nat} {T : Addr} {o : Obj} {va vb : Value}
    (hh : A.handled = none) (F : Fr h₀ L s.heap m) (N : News h₀ L s.heap news) (hp : (T, o) ∈ news) (ho : s.heap.get? T = some o → s.heap.IsTuple T #[va, vb])
    (h : ∀ h', Fr h₀ L h' m → News h₀ L h' news → wpAny (model PW w) A (assign (.Name x px) env va) (fun _ s₁ => wpAny (model PW w) A (assign (.Name y py) env vb) Q E s₁) E { s with heap := h' }) :
    wpAny (model PW w) A (assign (.Tuple [.Name x px, .Name y py] k pos) env (.ref T)) Q E s := by
  refine wpAny_assign_Tuple hh (ho (N _ hp).1) rfl rfl fun h₁ hx₁ => ?_
  have old : ∀ b o, s.heap.get? b = some o → h₁.get? b = some o := fun b o e => hx₁ b o (Nat.ne_of_lt (Heap.lt_size e)) e
  show wpAny _ _ (do holding [vb] (assign (.Name x px) env va); do holding [] (assign (.Name y py) env vb); pure ()) _ _ _
  refine wpAny_bind (wpAny_holding (wpAny_mono (h h₁ (F.keeps old) (N.grown old)) (fun _ s₁ h₁ => ?_) fun _ _ e => e))
  exact wpAny_bind (wpAny_holding (wpAny_mono h₁ (fun _ s₂ h₂ => wpAny_pure h₂) fun _ _ e => e))
example : True := by
  k_with "!assign Tuple" => (guard_expr onTolda =~ onTolda; (k_here; k_dflt (refine' unpack_two ?k0_50 ?k1_50 ?k2_50 ?k3_50 ?k4_50 ?_; (case k0_50 => first | assumption | exact rfl); (case k1_50 => assumption); (case k2_50 => assumption); (case k3_50 => k_mem); (case k4_50 => exact fun e => ⟨_, e, rfl, _, rfl⟩); k_whole; intro h''k F''k N''k)))
  k_with "!MY ALL" => (guard_expr onTolda =~ onTolda; assumption)
  trivial
theorem part_end {h₀ h : Heap} {L : Addr} {m m' : Str → Option Value} {v : Value} (F : Fr h₀ L h m') (e : m' (Str.ofString "part") = some v) (e2 : ∀ y, ¬ y = Str.ofString "part" → m' y = m y) : Fr h₀ L h (fun y => if y = Str.ofString "part" then some v else m y) := by
  have : m' = fun y => if y = Str.ofString "part" then some v else m y := by
    funext y
    split
    · next q => rw [q, e]
    · next q => exact e2 y q
  exact this ▸ F
set_option maxHeartbeats 400000 in
theorem gcd_loop {w : World} {A : Around} {E : Value → Shared → Prop} {s : Shared} {Q : Flow → Shared → Prop} {h₀ : Heap} {L : Addr} {m : Str → Option Value} {rest : List (Addr × Obj)} {om : Obj} {c p g : Int} {t1 t2 : Tok} {n : Nat} {mean : ExcName → Option Value} {mg mb : Str → Option Value}
    (hh : A.handled = none) (X : (KK w.params).In h₀) (T : Top qq LOOSE mean mg mb h₀) (F : Fr h₀ L s.heap (fun y => if y = Str.ofString "part" then some (.int p t1) else m y)) (N : News h₀ L s.heap ((L + 1 + 1 + 1 + 1 + 1, om) :: rest)) (hd : om.data = .cell (some (.int c t2))) (hr : ∀ q ∈ rest, q.1 ≠ L + 1 + 1 + 1 + 1 + 1)
    (hE : PassesOwn (model PW w) A (tEnv L) E) (hg : gcdI n c p = some g)
    (done : ∀ h' tk' om' p' t1' t2', Fr h₀ L h' (fun y => if y = Str.ofString "part" then some (.int p' t1') else m y) → News h₀ L h' ((L + 1 + 1 + 1 + 1 + 1, om') :: rest) → om'.data = .cell (some (.int g t2')) → Q .next { s with heap := h', toks := tk' }) :
    wpAny (model PW w) A (exec ((forBody (stmtIn 76 6)).headD (.Pass default)) (tEnv L)) Q E s := by
 walk_at "ST"
 case oTag =>
  with_unfolding_all refine while_J (gcdJ g h₀ L (L + 1 + 1 + 1 + 1 + 1) m rest s) hE _ ⟨_, s.toks, _, _, _, _, _, rfl, F, N, hd, hg⟩ ?_
  rintro n s' W hW ⟨h, tk, c, p, om, t1, t2, rfl, F, N, hd, hg⟩
  clear hE
  cases n with
  | zero => cases hg
  | succ n =>
    by_cases hp : p = 0
    · unfold gcdI at hg
      rw [if_pos hp] at hg
      cases hg
      unfold tEnv
      k_steps
      all_goals try exact absurd hp ‹_›
      · exact done _ _ _ _ _ _ F N hd
    · unfold gcdI at hg
      rw [if_neg hp] at hg
      unfold tEnv
      k_steps
      · refine hW _ _ ?_
        exact ⟨n, Nat.lt_succ_self n, _, _, _, _, _, _, _, rfl, part_end ‹Fr _ _ _ _› rfl (fun y q => by simp only [upd, q, if_false]), fun p hp => ‹News _ _ _ _› p (.tail _ hp), ‹_›, hg⟩
      all_goals exact absurd ‹_› hp
 walk_at "EN"
end
section
open ZL ZToldc
example : True := by
  k_with "!exec" => (guard_expr onToldc =~ onToldc; (k_here; (with_reducible show wpAny _ _ (exec (Stmt.While _ _ _ _) _) _ _ _); refine Stop.mk ?_))
  trivial
theorem gcd_turn {w : World} {A : Around} {E : Value → Shared → Prop} {s : Shared} {Q : Flow → Shared → Prop} {h₀ : Heap} {L I dc : Addr} {m m' : Str → Option Value} {rest : List (Addr × Obj)} {om : Obj} {c p g : Int} {t t2 : Tok} {n j nc : Nat} {cs : Array Value} {mean : ExcName → Option Value} {mg mb : Str → Option Value} {px : Pos}
    (hh : A.handled = none) (X : (KK w.params).In h₀) (T : Top qq LOOSE mean mg mb h₀) (hE : PassesOwn (model PW w) A (tEnv L) E) (F : Fr h₀ L s.heap m') (hm' : ∀ y, ¬ y = Str.ofString "part" → m' y = m y)
    (N : News h₀ L s.heap ((I, itO dc j) :: (L + 1 + 1 + 1 + 1 + 1, om) :: rest)) (hd : om.data = .cell (some (.int c t2))) (hp : (dc, W.listOf cs nc) ∈ rest) (hx : cs.toList[j]? = some (.int p t)) (hg : gcdI n c p = some g)
    (hIc : L + 1 + 1 + 1 + 1 + 1 ≠ I) (hI : ∀ q ∈ rest, q.1 ≠ I) (hr : ∀ q ∈ rest, q.1 ≠ L + 1 + 1 + 1 + 1 + 1)
    (next : ∀ h' tk' om' p' t1' t2', Fr h₀ L h' (fun y => if y = Str.ofString "part" then some (.int p' t1') else m y) → News h₀ L h' ((I, itO dc (j + 1)) :: (L + 1 + 1 + 1 + 1 + 1, om') :: rest) → om'.data = .cell (some (.int g t2')) →
      LoopE PW w A (.Name (Str.ofString "part") px) (forBody (stmtIn 76 6)) [] (tEnv L) I Q E { s with heap := h', toks := tk' }) :
    LoopE PW w A (.Name (Str.ofString "part") px) (forBody (stmtIn 76 6)) [] (tEnv L) I Q E s := by
 walk_at "ST"
 case oTag =>
  refine loop_itemL (vs := cs.toList) (n := nc) F N (.head fun q hq => ?_) (.tail _ (.tail _ hp)) hx hE (fun _ => rfl) fun h' F' N' => ?_
  · rcases List.mem_cons.mp hq with rfl | hq
    · exact hIc
    · exact hI q hq
  have hn : ∀ f s₂, (f = .next → LoopE PW w A (.Name (Str.ofString "part") px) (forBody (stmtIn 76 6)) [] (tEnv L) I Q E s₂) → f = Flow.next → PeelE PW w A (.Name (Str.ofString "part") px) (forBody (stmtIn 76 6)) [] (tEnv L) I Q E f s₂ := by
    rintro f s₂ h rfl
    exact h rfl
  have hb : forBody (stmtIn 76 6) = [(forBody (stmtIn 76 6)).headD (.Pass default)] := by with_unfolding_all rfl
  have go : ∀ h1 tk1 t1, Fr h₀ L h1 (fun y => if y = Str.ofString "part" then some (.int p t1) else m y) → News h₀ L h1 ((I, itO dc (j + 1)) :: (L + 1 + 1 + 1 + 1 + 1, om) :: rest) →
      wpAny (model PW w) A (execs (forBody (stmtIn 76 6)) (tEnv L)) (PeelE PW w A (.Name (Str.ofString "part") px) (forBody (stmtIn 76 6)) [] (tEnv L) I Q E) E { s with heap := h1, toks := tk1 } := by
    intro h1 tk1 t1 F1 N1
    rw [hb]
    refine wpAny_execs_cons ?_
    rw [← hb]
    refine gcd_loop (rest := (I, itO dc (j + 1)) :: rest) hh X T F1 (fun q hq => N1 q ?_) hd (fun q hq => ?_) hE hg fun h2 tk2 om' p' t1' t2' F2 N2 hd2 => ?_
    · rcases List.mem_cons.mp hq with rfl | hq
      · exact .tail _ (.head _)
      · rcases List.mem_cons.mp hq with rfl | hq
        · exact .head _
        · exact .tail _ (.tail _ hq)
    · rcases List.mem_cons.mp hq with rfl | hq
      · exact hIc.symm
      · exact hr q hq
    · refine wpAny_execs_nil ?_
      refine next h2 tk2 om' p' t1' t2' F2 (fun q hq => N2 q ?_) hd2
      rcases List.mem_cons.mp hq with rfl | hq
      · exact .tail _ (.head _)
      · rcases List.mem_cons.mp hq with rfl | hq
        · exact .head _
        · exact .tail _ (.tail _ hq)
  refine wpAny_assign_Name (wpAny_storeName_local (by rfl) F'.ns (fun h2 hn2 hs2 => ?_) (by rfl))
  have F2 : Fr h₀ L h2 (fun y => if y = Str.ofString "part" then some (.int p t) else m' y) := ⟨hn2, fun b o e => ?_, F'.above⟩
  · refine go h2 _ t (part_end F2 (by simp) fun y q => by simp only [q, if_false]; exact hm' y q) fun q hq => ?_
    have z := N' q hq
    exact ⟨hs2.extBut _ _ z.2.1 z.1, z.2⟩
  · exact hs2.extBut b o (fun q => by
      have h1 : h₀.get? L = none := Heap.get?_none_of_le F'.above
      have h2 : h₀.get? L = some o := by rw [← show b = L from q]; exact e
      rw [h1] at h2; cases h2) (F'.keep b o e)
 walk_at "EN"
theorem gcd_for {w : World} {A : Around} {E : Value → Shared → Prop} {s : Shared} {Q : Flow → Shared → Prop} {h₀ : Heap} {L dc : Addr} {m : Str → Option Value} {rest : List (Addr × Obj)} {om oc : Obj} {c c0 c1 c2 g0 g1 g2 : Int} {t2 : Tok} {n nc : Nat} {cs : Array Value} {mean : ExcName → Option Value} {mg mb : Str → Option Value}
    (hh : A.handled = none) (X : (KK w.params).In h₀) (T : Top qq LOOSE mean mg mb h₀) (hE : PassesOwn (model PW w) A (tEnv L) E) (F : Fr h₀ L s.heap m)
    (N : News h₀ L s.heap ((L + 1 + 1 + 1 + 1 + 1, om) :: rest)) (hd : om.data = .cell (some (.int c t2))) (hp : (dc, W.listOf cs nc) ∈ rest) (ho : (L + 1 + 1 + 1 + 1, oc) ∈ rest) (hoc : oc.data = .cell (some (.ref dc))) (hcs : IntsAre cs.toList [c0, c1, c2])
    (hg0 : gcdI n c c0 = some g0) (hg1 : gcdI n g0 c1 = some g1) (hg2 : gcdI n g1 c2 = some g2) (hr : ∀ q ∈ rest, q.1 ≠ L + 1 + 1 + 1 + 1 + 1)
    (done : ∀ h' tk' om' p' t1' t2', Fr h₀ L h' (fun y => if y = Str.ofString "part" then some (.int p' t1') else m y) → News h₀ L h' ((L + 1 + 1 + 1 + 1 + 1, om') :: rest) → om'.data = .cell (some (.int g2 t2')) → Q .next { s with heap := h', toks := tk' }) :
    wpAny (model PW w) A (exec (stmtIn 76 6) (tEnv L)) Q E s := by
 walk_at "ST"
 case oTag =>
  obtain ⟨ta, hx0⟩ := hcs.get 0 c0 rfl
  obtain ⟨tb, hx1⟩ := hcs.get 1 c1 rfl
  obtain ⟨tc, hx2⟩ := hcs.get 2 c2 rfl
  have hx3 : cs.toList[3]? = none := by
    have := hcs.length
    exact List.getElem?_eq_none (by rw [this]; simp)
  with_unfolding_all refine for_headE (body := forBody (stmtIn 76 6)) (els := []) (target := .Name (Str.ofString "part") _) ?_
  refine wpAny_Name (wpAny_loadName_cell (by rfl) (by rfl) (c := L + 1 + 1 + 1 + 1) (by rfl) ⟨oc, N.get (.tail _ ho), hoc⟩ ?_) (by decide)
  refine iter_listE (vs := cs.toList) (n := nc) F N (.tail _ hp) fun I h' F' N' hI => ?_
  have hIc : L + 1 + 1 + 1 + 1 + 1 ≠ I := hI _ (.head _)
  have hI' : ∀ q ∈ rest, q.1 ≠ I := fun q hq => hI q (.tail _ hq)
  refine gcd_turn hh X T hE F' (fun _ _ => rfl) N' hd hp hx0 hg0 hIc hI' hr fun h1 tk1 om1 p1 a1 b1 F1 N1 hd1 => ?_
  refine gcd_turn (s := { s with heap := h1, toks := tk1 }) (m := m) hh X T hE F1 (fun y q => by simp only [q, if_false]) N1 hd1 hp hx1 hg1 hIc hI' hr fun h2 tk2 om2 p2 a2 b2 F2 N2 hd2 => ?_
  refine gcd_turn (s := { s with heap := h2, toks := tk2 }) (m := m) hh X T hE F2 (fun y q => by simp only [q, if_false]) N2 hd2 hp hx2 hg2 hIc hI' hr fun h3 tk3 om3 p3 a3 b3 F3 N3 hd3 => ?_
  refine loop_doneL (vs := cs.toList) (n := nc) (s := { s with heap := h3, toks := tk3 }) hh F3 N3 (.head fun q hq => ?_) (.tail _ (.tail _ hp)) hx3 hE fun h4 F4 N4 => wpAny_execs_nil ?_
  · rcases List.mem_cons.mp hq with rfl | hq
    · exact hIc
    · exact hI' q hq
  · exact done h4 tk3 om3 p3 a3 b3 F4 N4 hd3
 walk_at "EN"
end
section
theorem quot_comp {w : World} {A : Around} {env : Env} {E : Value → Shared → Prop} {s : Shared} {Q : Value → Shared → Prop} {h₀ : Heap} {m : Str → Option Value} {scope : Scope} {cl : List (Str × Addr)} {dst : Option Str} {news : List (Addr × Obj)} {cm dc : Addr} {om : Obj} {nc : Nat} {g c0 c1 c2 : Int} {tg : Tok} {cs : Array Value} {p1 p2 p3 : Pos}
    (hh : A.handled = none) (F : Fr h₀ env.locals s.heap m) (N : News h₀ env.locals s.heap news)
    (hk : (relabel scope env).kind = .function) (hx : ∀ C, (compEnvC scope cl C env).kindOf (Str.ofString "part") = some .local)
    (hy1 : ∀ C, (compEnvC scope cl C env).kindOf (Str.ofString "common") = some .cell)
    (hc1 : cl.lookup (Str.ofString "common") = some cm) (hm1 : (cm, om) ∈ news) (hd1 : om.data = .cell (some (.int g tg))) (hg : g ≠ 0)
    (hdc : (dc, W.listOf cs nc) ∈ news) (hcs : IntsAre cs.toList [c0, c1, c2]) (hgb : -1000 ≤ g ∧ g ≤ 1000)
    (done : ∀ D h' tk ys n, Fr h₀ env.locals h' (match dst with | some y => fun z => if z = y then some (.ref D) else m z | none => m) → News h₀ env.locals h' ((D, plainO ys n) :: news) → (∀ q ∈ news, @Ne Nat q.1 D) →
      IntsAre ys [c0.fdiv g, c1.fdiv g, c2.fdiv g] → Q (.ref D) { s with heap := h', toks := tk }) :
    CompAt PW w A env scope cl (Str.ofString "part") [] (.BinOp (.Name (Str.ofString "part") p1) .FloorDiv (.Name (Str.ofString "common") p2) p3) dst Q E (.ref dc) s := by
 walk_at "ST"
 case oTag =>
  refine compAt_list (vs := cs.toList) hh F N ⟨_, N.get hdc, rfl, nc, rfl⟩ (by rw [hcs.length]; show 3 ≤ _; decide +kernel) (fun _ => true) (fun v y => ∀ k t, v = .int k t → ∃ t, y = .int (k.fdiv g) t) ?_ ?_ ?_
  · intro C v s₃ m₃ E' _ _ _ _ _
    simp only [List.forIn_nil]
    exact wpAny_pure ⟨rfl, _, _, rfl, fun _ _ e => e⟩
  · intro C v s₃ m₃ E' hv _ hns hx' F' N'
    have hint : ∃ k t, v = .int k t ∧ k ∈ [c0, c1, c2] := by
      have key : ∀ {vs : List Value} {ns : List Int}, IntsAre vs ns → ∀ v ∈ vs, ∃ k t, v = .int k t ∧ k ∈ ns := by
        intro vs ns h
        induction h with
        | nil => intro v hv; cases hv
        | cons k t _ ih =>
          intro v hv
          rcases List.mem_cons.mp hv with rfl | hv
          · exact ⟨_, _, rfl, .head _⟩
          · obtain ⟨a, b, e, h⟩ := ih v hv
            exact ⟨a, b, e, .tail _ h⟩
      exact key hcs v hv
    obtain ⟨k, tk, rfl, _⟩ := hint
    have l1 : ∀ {pos : Pos} {Q' E' : Value → Shared → Prop} {s' : Shared}, s'.heap = s₃.heap → Q' (.int k tk) s' → wpAny (model PW w) A (eval (.Name (Str.ofString "part") pos) (compEnvC scope cl C env)) Q' E' s' :=
      fun e h => wpAny_Name (wpAny_loadName_local hk (hx C) (e ▸ hns) hx' h) (by decide)
    have l2 : ∀ {pos : Pos} {Q' E' : Value → Shared → Prop} {s' : Shared}, s'.heap = s₃.heap → Q' (.int g tg) s' → wpAny (model PW w) A (eval (.Name (Str.ofString "common") pos) (compEnvC scope cl C env)) Q' E' s' :=
      fun e h => wpAny_Name (wpAny_loadName_cell hk (hy1 C) hc1 ⟨om, e ▸ N'.get hm1, hd1⟩ h) (by decide)
    refine wpAny_BinOp (l1 rfl (l2 rfl (floordiv_int (hp := Or.inl (PyProof.noPylong_small (by omega))) hg ⟨fun k' t' e => ?_, _, _, rfl, fun _ _ e => e⟩)))
    injection e with e _
    subst e
    exact ⟨_, rfl⟩
  · intro D h' tk ys n F' N' ne hpair
    refine done D h' tk ys n F' N' ne ?_
    have hf : cs.toList.filter (fun _ => true) = cs.toList := List.filter_eq_self.mpr fun _ _ => rfl
    rw [hf] at hpair
    generalize cs.toList = vs at hcs hpair
    cases hcs with
    | cons _ t0 hvs => cases hvs with
      | cons _ t1 hvs => cases hvs with
        | cons _ t2 hvs => cases hvs with
          | nil =>
            cases hpair with
            | cons a0 hpair => cases hpair with
              | cons a1 hpair => cases hpair with
                | cons a2 hpair => cases hpair with
                  | nil =>
                    obtain ⟨u0, rfl⟩ := a0 _ _ rfl
                    obtain ⟨u1, rfl⟩ := a1 _ _ rfl
                    obtain ⟨u2, rfl⟩ := a2 _ _ rfl
                    exact .cons _ _ (.cons _ _ (.cons _ _ .nil))
 walk_at "EN"
end
section
open ZL ZC ZToldb
structure NeAll (d : Addr) (news : List (Addr × Obj)) : Prop where
  all : ∀ p ∈ news, @Ne Nat p.1 d
theorem ne_r {d c : Addr} {o : Obj} {news : List (Addr × Obj)} (h : NeAll d news) (hm : (c, o) ∈ news) : d ≠ c := fun e => h.all _ hm e.symm
theorem ne_l {d c : Addr} {o : Obj} {news : List (Addr × Obj)} (h : NeAll d news) (hm : (c, o) ∈ news) : c ≠ d := fun e => h.all _ hm e
example : True := by
  k_with "!MY NE" => (guard_expr onToldb =~ onToldb; first | (refine' ne_r ?hh_53 ?hm_53; (case hh_53 => assumption); (case hm_53 => k_mem)) | (refine' ne_l ?hh_53 ?hm_53; (case hh_53 => assumption); (case hm_53 => k_mem)) | (refine neN ?_; (try dsimp only); omega))
  k_with "!MY ALL" => (guard_expr onToldb =~ onToldb; assumption)
  k_with "!CompAt" => (guard_expr onToldb =~ onToldb; (k_here; k_dflt (refine' sum_comp ?k0_55 ?kF_55 ?kN_55 ?kr_55 ?ko_55 ?kk_55 ?kx_55 ?y1_55 ?y2_55 ?y3_55 ?c1_55 ?m1_55 ?d1_55 ?c2_55 ?m2_55 ?d2_55 ?c3_55 ?m3_55 ?d3_55 ?hD_55 ?h0_55 ?h1_55 ?h2_55 ?i0_55 ?i1_55 ?i2_55 ?hdc_55 ?hcs_55 ?hf0_55 ?hf3_55 ?_; (case k0_55 => first | assumption | exact rfl); (case kF_55 => k_asm); (case kN_55 => k_asm); (case kr_55 => first | assumption | (exact News.get (by k_asm) (by k_mem))); (case ko_55 => exact rfl); (case kk_55 => exact rfl); (case kx_55 => exact fun _ => rfl); (case y1_55 => exact fun _ => rfl); (case y2_55 => exact fun _ => rfl); (case y3_55 => exact fun _ => rfl); (case c1_55 => exact rfl); (case c2_55 => exact rfl); (case c3_55 => exact rfl); (case m1_55 => k_mem); (case m2_55 => k_mem); (case m3_55 => k_mem); (case d1_55 => k_asm); (case d2_55 => k_asm); (case d3_55 => k_asm); (case hD_55 => k_mem); (case h0_55 => k_mem); (case h1_55 => k_mem); (case h2_55 => k_mem); (case i0_55 => assumption); (case i1_55 => assumption); (case i2_55 => assumption); (case hdc_55 => k_mem); (case hcs_55 => assumption); (case hf0_55 => assumption); (case hf3_55 => assumption); k_whole; intro D''k h''k tk''k ys''k n''k F''k N''k ne''k hi''k; (have ne''k := NeAll.mk ne''k); (try dsimp only at F''k N''k); (try dsimp only))))
  trivial
structure SumIs (ns : List Int) (v : Int) : Prop where
  eq : v = ns.sum
theorem sum_N {w : World} {A : Around} {E : Value → Shared → Prop} {s : Shared} {Q : Value → Shared → Prop} {h₀ : Heap} {L : Addr} {m : Str → Option Value} {news : List (Addr × Obj)} {D : Addr} {ys : List Value} {ns : List Int}
    (hh : A.handled = none) (F : Fr h₀ L s.heap m) (N : News h₀ L s.heap news) (hl : s.heap.IsList D ys.toArray) (hi : IntsAre ys ns)
    (h : ∀ v h' tk t, SumIs ns v → Fr h₀ L h' m → News h₀ L h' news → Q (.int v t) { s with heap := h', toks := tk }) : wpAny (model PW w) A (call (.builtin "sum") [.ref D]) Q E s := by
  obtain ⟨xs, hx⟩ := hi.allInts.items
  have hn : (xs.toList.map fun x => x.1) = ns := by
    rw [← nums_intItems, ← hx]
    exact hi.numsOf
  rw [hx] at hl
  refine sum_intListG hh hl fun h' tk t' hk => h _ h' tk t' ⟨?_⟩ (F.keeps hk) (N.grown hk)
  rw [preSum_eq, hn, List.take_of_length_le (by rw [← hn]; simp)]
example : True := by
  k_with "!call builtin:sum" => (guard_expr onToldb =~ onToldb; (k_here; (with_reducible show wpAny _ _ (call (Value.builtin "sum") [Value.ref _]) _ _ _); k_dflt (refine' sum_N ?k0_56 ?k1_56 ?k2_56 ?k3_56 ?k4_56 ?_; (case k0_56 => first | assumption | exact rfl); (case k1_56 => assumption); (case k2_56 => assumption); (case k4_56 => assumption); (case k3_56 => exact ⟨_, News.get (by k_asm) (by k_mem), rfl, _, rfl⟩); k_whole; intro vs''k h''k tk''k ts''k hvs''k F''k N''k)))
  k_with "!exec For Name Name cons nil" => (guard_expr onToldb =~ onToldb; (k_here; refine Stop.mk ?_))
  k_with "!CompAt" => (guard_expr onToldb =~ onToldb; (k_here; (with_reducible show CompAt _ _ _ _ _ _ (Str.ofString "part") _ _ _ _ _ _ _); k_dflt (refine' quot_comp ?k0_58 ?kF_58 ?kN_58 ?kk_58 ?kx_58 ?y1_58 ?c1_58 ?m1_58 ?d1_58 ?hg_58 ?hdc_58 ?hcs_58 ?hgb_58 ?_; (case k0_58 => first | assumption | exact rfl); (case kF_58 => k_asm); (case kN_58 => k_asm); (case kk_58 => exact rfl); (case kx_58 => exact fun _ => rfl); (case y1_58 => exact fun _ => rfl); (case c1_58 => exact rfl); (case m1_58 => k_mem); (case d1_58 => k_asm); (case hg_58 => assumption); (case hgb_58 => assumption); (case hdc_58 => k_mem); (case hcs_58 => assumption); k_whole; intro D''k h''k tk''k ys''k n''k F''k N''k ne''k hi''k; (have ne''k := NeAll.mk ne''k); (try dsimp only at F''k N''k); (try dsimp only))))
  trivial
theorem news_told {h₀ h : Heap} {L : Addr} {a b c d e f : Addr × Obj} {news : List (Addr × Obj)} (N : News h₀ L h (a :: b :: c :: d :: e :: f :: news)) : News h₀ L h (a :: b :: news) := fun p hp => N p (by
  rcases List.mem_cons.mp hp with rfl | hp
  · exact .head _
  · rcases List.mem_cons.mp hp with rfl | hp
    · exact .tail _ (.head _)
    · exact .tail _ (.tail _ (.tail _ (.tail _ (.tail _ (.tail _ hp))))))
theorem told_rest {w : World} {A : Around} {E : Value → Shared → Prop} {s : Shared} {Q : Flow → Shared → Prop} {h₀ : Heap} {L : Addr} {m : Str → Option Value} {news : List (Addr × Obj)} {D dc r0 r1 r2 a : Addr} {om oc ot of on : Obj} {w0 w1 w2 : List Value} {n0 n1 n2 nd nc : Nat} {f0 s0 f1 s1 f2 s2 fr c0 c1 c2 : Int} {tf : Tok} {cs : Array Value} {mean : ExcName → Option Value} {mg mb : Str → Option Value}
    (hh : A.handled = none) (X : (KK w.params).In h₀) (T : Top qq LOOSE mean mg mb h₀) (F : Fr h₀ L s.heap m)
    (N : News h₀ L s.heap ((dc, W.listOf cs nc) :: (D, plainO [.ref r0, .ref r1, .ref r2] nd) :: (r2, plainO w2 n2) :: (r1, plainO w1 n1) :: (r0, plainO w0 n0) :: (L + 1 + 1 + 1 + 1 + 1, om) :: (L + 1 + 1 + 1 + 1, oc) :: (L + 1 + 1 + 1, ot) :: (L + 1 + 1, of) :: (L + 1, on) :: news))
    (dm : om.data = .cell none) (d3 : oc.data = .cell (some (.ref dc))) (d1 : ot.data = .cell (some (.ref D))) (d2 : of.data = .cell (some (.int fr tf)))
    (i0 : rowP f0 s0 f1 s1 f2 s2 0 w0) (i1 : rowP f0 s0 f1 s1 f2 s2 1 w1) (i2 : rowP f0 s0 f1 s1 f2 s2 2 w2) (hcs : IntsAre cs.toList [c0, c1, c2]) (hf0 : 0 ≤ fr) (hf3 : fr < 3)
    (hne : NeAll (L + 1 + 1 + 1 + 1 + 1) ((dc, W.listOf cs nc) :: (D, plainO [.ref r0, .ref r1, .ref r2] nd) :: (r2, plainO w2 n2) :: (r1, plainO w1 n1) :: (r0, plainO w0 n0) :: (L + 1 + 1 + 1 + 1, oc) :: (L + 1 + 1 + 1, ot) :: (L + 1 + 1, of) :: (L + 1, on) :: news))
    (hE : PassesOwn (model PW w) A (tEnv L) E) (n : Nat) (g0 g1 g2 : Int) (hg0 : gcdI n (sumL f0 s0 f1 s1 f2 s2 fr c0 c1 c2).sum c0 = some g0) (hg1 : gcdI n g0 c1 = some g1) (hg2 : gcdI n g1 c2 = some g2) (hgz : g2 ≠ 0) (hgb : -1000 ≤ g2 ∧ g2 ≤ 1000)
    (done : ∀ h' tk' m' Tp D2 ys k2 td, Fr h₀ L h' m' → News h₀ L h' ((Tp, { cls := .type "tuple", data := .seq #[.int ((sumL f0 s0 f1 s1 f2 s2 fr c0 c1 c2).sum.fdiv g2) td, .ref D2] 0 }) :: (D2, plainO ys k2) :: news) → IntsAre ys [c0.fdiv g2, c1.fdiv g2, c2.fdiv g2] → Q (.ret (.ref Tp)) { s with heap := h', toks := tk' }) :
    wpAny (model PW w) A (execs (restIn 76 4) (tEnv L)) Q E s := by
 walk_at "ST"
 case oTag =>
  have hs : restIn 76 4 = [stmtIn 76 4, stmtIn 76 5, stmtIn 76 6, stmtIn 76 7] := by rfl
  unfold tEnv
  with_unfolding_all show wpAny _ _ (execs (_ :: _) _) _ _ _
  clear hs
  have hnews : ∀ p ∈ news, p.1 ≠ L + 1 + 1 + 1 + 1 + 1 := fun p hp => hne.all p (by repeat (first | assumption | refine List.Mem.tail _ ?_))
  k_steps
  unfold Stop
  rename SumIs _ _ => hsum
  have hse := hsum.eq
  refine gcd_for (rest := (D, plainO [.ref r0, .ref r1, .ref r2] nd) :: (dc, W.listOf cs nc) :: (L + 1 + 1 + 1 + 1, oc) :: news) (n := n) (g0 := g0) (g1 := g1) (g2 := g2) hh X T hE ‹Fr _ _ _ _› (fun p hp => ‹News _ _ _ ((_, plainO _ _) :: _)› p ?mm) ‹_› (.tail _ (.head _)) (.tail _ (.tail _ (.head _))) d3 hcs (by rw [hse]; exact hg0) hg1 hg2 ?hr ?_
  case mm =>
    simp only [List.mem_cons] at hp ⊢
    rcases hp with h | h | h | h | h <;> simp [h]
  case hr =>
    intro q hq
    refine hne.all q ?_
    simp only [List.mem_cons] at hq ⊢
    rcases hq with h | h | h | h <;> simp [h]
  intro h' tk' om' p' t1' t2' F' N' hd'
  rw [← hse] at done
  clear hsum hse
  k_steps
  rename IntsAre _ [c0.fdiv g2, c1.fdiv g2, c2.fdiv g2] => hfin
  exact done _ _ _ _ _ _ _ _ ‹Fr _ _ _ _› (news_told ‹News _ _ _ _›) hfin
 walk_at "EN"
end
section
open ZL ZC ZTold
example : True := by
  k_with "!MY NE" => (guard_expr onTold =~ onTold; first | (refine' ne_r ?hh_59 ?hm_59; (case hh_59 => assumption); (case hm_59 => k_mem)) | (refine' ne_l ?hh_59 ?hm_59; (case hh_59 => assumption); (case hm_59 => k_mem)) | (refine neN ?_; (try dsimp only); omega))
  trivial
theorem item_row {w : World} {A : Around} {E : Value → Shared → Prop} {s : Shared} {D : Addr} {value slice : PySem.Expr} {vs : List Value} {k f0 s0 f1 s1 f2 s2 n : Int} {u : Tok} {Q : Value → Shared → Prop}
    (hl : s.heap.IsList D vs.toArray) (hi : rowP f0 s0 f1 s1 f2 s2 k vs) (h0 : 0 ≤ n) (h1 : n < 3) (h : ∀ v t, PickIs k f0 s0 f1 s1 f2 s2 n v → Q (.int v t) s)
    (hs : subscripted slice false (.ref D) (.int n u) = operate [.ref D, .int n u] (getItem (.ref D) (.int n u)) := by with_unfolding_all rfl) :
    wpAny (model PW w) A (subscriptTail value slice (.ref D) (.int n u)) Q E s := by
  have hn : n = 0 ∨ n = 1 ∨ n = 2 := by omega
  obtain ⟨t, ht⟩ := hi.get n.toNat (tv k (pick3 f0 f1 f2 k) (pick3 s0 s1 s2 k) n) (by rcases hn with rfl | rfl | rfl <;> rfl)
  exact tail_any hl.typeIs slot_list_getitem.lookup (wpAny_getItem_list hl h0 (by omega) (by simpa using ht) (h _ t ⟨rfl, tv_abs ..⟩)) hs
theorem mul_pick {w : World} {A : Around} {E : Value → Shared → Prop} {s : Shared} {Q : Value → Shared → Prop} {k f0 s0 f1 s1 f2 s2 n a b : Int} {t u : Tok} (ha : PickIs k f0 s0 f1 s1 f2 s2 n a) (h : ∀ t tk, Q (.int (a * b) t) { s with toks := tk }) :
    wpAny (model PW w) A (binaryOp .Mult (.int a t) (.int b u)) Q E s :=
  mul_int (h _ _) (IntMulOk.of_left (intBits_le (Nat.lt_of_le_of_lt ha.abs (by decide +kernel))))
example : True := by
  k_with "!binaryOp Mult int int" => (guard_expr onTold =~ onTold; (k_here; k_dflt (refine' mul_pick ?ha_60 ?_; (case ha_60 => assumption); k_whole; intro tm'k tkm'k)))
  k_with "!subscriptTail Name Name ref int" => (guard_expr onTold =~ onTold; (k_here; k_dflt (refine' item_row ?k1_61 ?k2_61 ?k3_61 ?k4_61 ?_; (case k1_61 => exact ⟨_, News.get (by k_asm) (by k_mem), rfl, _, rfl⟩); (case k2_61 => assumption); (case k3_61 => first | assumption | exact fmod_lo _ (by decide)); (case k4_61 => first | assumption | exact fmod_hi _ (by decide)); k_whole; intro vp'k tp'k hvp'k)))
  k_with "!eval ListComp" => (guard_expr onTold =~ onTold; (k_here; (with_reducible show wpAny _ _ (eval (Expr.ListComp (Expr.ListComp _ _ _ _) _ _ _) _) _ _ _); k_dflt (with_unfolding_all refine' table_comp (cn := _) ?k0_62 ?k1_62 ?k2_62 ?k3_62 ?k4_62 ?k5_62 ?k6_62 ?k7_62 ?k8_62 ?k9_62 ?ka_62 ?kb_62 ?kc_62 ?kd_62 ?ke_62 ?kf_62 ?kg_62 ?kh_62 ?ki_62 ?kj_62 ?kk_62 ?kl_62 ?km_62 ?kn_62 ?ko_62 ?kp_62 ?kq_62 ?kr_62 ?ks_62 ?_; (case k8_62 => exact rfl); (case k0_62 => exact rfl); (case k1_62 => assumption); (case k2_62 => assumption); (case k3_62 => assumption); (case k4_62 => assumption); (case k6_62 => k_mem); (case k7_62 => assumption); (case k5_62 => exact ⟨by k_mem, ⟨_, _, by k_mem⟩, ⟨_, _, by k_mem⟩, ⟨_, _, by k_mem⟩⟩); (case k9_62 => exact rfl); (case ka_62 => decide); (case kb_62 => exact fun _ => rfl); (case kc_62 => exact fun _ => rfl); (case kd_62 => exact rfl); (case ke_62 => exact rfl); (case kf_62 => exact rfl); (case kg_62 => exact rfl); (case kh_62 => exact rfl); (case ki_62 => exact fun _ _ => rfl); (case kj_62 => exact fun _ _ => rfl); (case kk_62 => exact fun _ _ => rfl); (case kl_62 => decide); (case km_62 => exact rfl); (case kn_62 => decide); (case ko_62 => exact rfl); (case kp_62 => exact fun _ _ => rfl); (case kq_62 => exact fun _ _ _ => rfl); (case kr_62 => exact fun _ _ _ => rfl); (case ks_62 => exact fun _ _ _ => rfl); k_whole; intro D''k h''k tk''k r0''k r1''k r2''k w0''k w1''k w2''k k0''k k1''k k2''k kk''k F''k N''k hw0'k hw1'k hw2'k ne'k ne0'k ne1'k ne2'k; (have ne'k := NeAll.mk ne'k); (have ne0'k := NeAll.mk ne0'k); (have ne1'k := NeAll.mk ne1'k); (have ne2'k := NeAll.mk ne2'k))))
  k_with "!exec Assign cons ListComp" => (guard_expr onTold =~ onTold; (k_here; with_reducible refine plainObj_wpAny_Assign_Name ?_))
  k_with "!exec For Name Call cons nil" => (guard_expr onTold =~ onTold; (k_here; k_dflt (with_unfolding_all refine for_head ?_ (fun _ => rfl))))
  k_with "!pyIter ref" => (guard_expr onTold =~ onTold; walk_at "MY ITER")
  k_with "!execs cons" => (guard_expr onTold =~ onTold; (k_here; (with_reducible show wpAny _ _ (execs (Stmt.Assign _ (Expr.Call _ _ _ _) _ :: _) _) _ _ _); refine Stop.mk ?_))
  trivial
noncomputable def cofs (f0 s0 f1 s1 f2 s2 r : Int) : List Int :=
  let T := fun k n => tv k (pick3 f0 f1 f2 k) (pick3 s0 s1 s2 k) n
  let a := (r + 1).fmod 3
  let b := (r + 2).fmod 3
  [T 1 a * T 2 b - T 1 b * T 2 a, T 2 a * T 0 b - T 2 b * T 0 a, T 0 a * T 1 b - T 0 b * T 1 a]
theorem news_told3 {h₀ h : Heap} {L : Addr} {a b c d : Addr × Obj} {news : List (Addr × Obj)} (N : News h₀ L h (a :: b :: c :: d :: news)) : News h₀ L h (d :: news) := fun p hp => N p (by
  rcases List.mem_cons.mp hp with rfl | hp
  · exact .tail _ (.tail _ (.tail _ (.head _)))
  · exact .tail _ (.tail _ (.tail _ (.tail _ hp))))
theorem news_del2 {h₀ h : Heap} {L : Addr} {a b : Addr × Obj} {news : List (Addr × Obj)} (N : News h₀ L h (a :: b :: news)) : News h₀ L h (a :: news) := fun p hp => N p (by
  rcases List.mem_cons.mp hp with rfl | hp
  · exact .head _
  · exact .tail _ (.tail _ hp))
theorem ne_data {h₀ h : Heap} {L c d : Addr} {o o' : Obj} {big : List (Addr × Obj)} (N : News h₀ L h big) (hm : (c, o) ∈ big) (hm' : (d, o') ∈ big) (hd : o.data ≠ o'.data) : @Ne Nat c d := by
  intro e
  have e : c = d := e
  subst e
  have h1 := (N _ hm).1
  rw [(N _ hm').1] at h1
  injection h1 with h1
  exact hd (congrArg Obj.data h1).symm
theorem seq_ne {xs : Array Value} {n : Nat} : Data.seq xs n ≠ Data.cell none := by
  intro h
  cases h
theorem ne_cell {h₀ h : Heap} {L c d : Addr} {o' : Obj} {xs : Array Value} {n : Nat} {cl : Value} {big : List (Addr × Obj)} (N : News h₀ L h big) (hm' : (d, o') ∈ big) (hd : o'.data = .cell none) (hm : (c, { cls := cl, data := .seq xs n }) ∈ big) : @Ne Nat c d :=
  ne_data N hm hm' (by rw [hd]; exact seq_ne)
theorem ne_lt {x y : Nat} (h : x < y) : x ≠ y + 1 + 1 + 1 + 1 + 1 := by omega
noncomputable def toldR (news : List (Addr × Obj)) (fed : Int) (out : List Int) (v : Value) (n' : List (Addr × Obj)) : Prop :=
  ∃ Tp D2 ys k2 td, v = .ref Tp ∧ n' = (Tp, { cls := .type "tuple", data := .seq #[.int fed td, .ref D2] 0 }) :: (D2, plainO ys k2) :: news ∧ IntsAre ys out
theorem told_spec (w : World) (a b0 b1 b2 b3 b4 : Addr) (f0 s0 f1 s1 f2 s2 r : Int) (t0 u0 t1 u1 t2 u2 tr : Tok) (news : List (Addr × Obj)) (c0 c1 c2 g0 g1 g2 : Int) (n : Nat) (hr0 : 0 ≤ r) (hr3 : r < 3)
    (hc : [c0, c1, c2] = cofs f0 s0 f1 s1 f2 s2 r) (hg0 : gcdI n (sumL f0 s0 f1 s1 f2 s2 r c0 c1 c2).sum c0 = some g0) (hg1 : gcdI n g0 c1 = some g1) (hg2 : gcdI n g1 c2 = some g2) (hgz : g2 ≠ 0) (hgb : -1000 ≤ g2 ∧ g2 ≤ 1000) :
    Call2 w 199 [.ref a, .int r tr] ((a, W.listOf #[.ref b0, .ref b1, .ref b2, .ref b3, .ref b4] 0) :: (b0, W.listOf #[.int f0 t0, .int s0 u0] 0) :: (b1, W.listOf #[.int f1 t1, .int s1 u1] 0) :: (b2, W.listOf #[.int f2 t2, .int s2 u2] 0) :: news)
      (toldR ((a, W.listOf #[.ref b0, .ref b1, .ref b2, .ref b3, .ref b4] 0) :: (b0, W.listOf #[.int f0 t0, .int s0 u0] 0) :: (b1, W.listOf #[.int f1 t1, .int s1 u1] 0) :: (b2, W.listOf #[.int f2 t2, .int s2 u2] 0) :: news)
        ((sumL f0 s0 f1 s1 f2 s2 r c0 c1 c2).sum.fdiv g2) [c0.fdiv g2, c1.fdiv g2, c2.fdiv g2]) := by
 walk_at "ST"
 case oTag =>
  unfold Call2
  intros; rename_i hret
  walk_at "MY ENTERC"
  rename (_ ∧ _ ∧ _ ∧ _ ∧ AllLt _ news) => hl1
  have hnews := allLt_mem _ hl1.2.2.2.2
  rename Fr _ _ _ (bindL _ _ _) => hFo
  obtain ⟨mB, hFB⟩ := Exists.intro (p := fun m => Fr _ _ _ m) _ hFo
  clear hFo
  k_with "!exec For Name Call cons nil" => (guard_expr onTold =~ onTold; refine Stop.mk ?_)
  k_steps
  unfold Stop
  rename News _ _ _ _ => hN0
  revert hN0
  repeat (rename News _ _ _ _ => hO; clear hO)
  rename Fr _ _ _ _ => hF0
  revert hF0
  have hr1 := fmod_lo (r + 1) (n := 3) (by decide)
  have hr2 := fmod_hi (r + 1) (n := 3) (by decide)
  have hr4 := fmod_lo (r + 2) (n := 3) (by decide)
  have hr5 := fmod_hi (r + 2) (n := 3) (by decide)
  obtain ⟨near, hnr⟩ : ∃ x, x = Int.fmod (r + 1) 3 := ⟨_, rfl⟩
  obtain ⟨far, hfr⟩ : ∃ x, x = Int.fmod (r + 2) 3 := ⟨_, rfl⟩
  rw [← hnr] at hr1 hr2 ⊢
  rw [← hfr] at hr4 hr5 ⊢
  intro hF0 hN0
  have hN1 := news_del2 hN0
  clear hN0
  have hnwl := allLt_mem ((a, PySem.W.listOf #[.ref b0, .ref b1, .ref b2, .ref b3, .ref b4] 0) :: (b0, PySem.W.listOf #[.int f0 t0, .int s0 u0] 0) :: (b1, PySem.W.listOf #[.int f1 t1, .int s1 u1] 0) :: (b2, PySem.W.listOf #[.int f2 t2, .int s2 u2] 0) :: news) hl1
  obtain ⟨nw, hnw⟩ : ∃ x, x = ((a, PySem.W.listOf #[.ref b0, .ref b1, .ref b2, .ref b3, .ref b4] 0) :: (b0, PySem.W.listOf #[.int f0 t0, .int s0 u0] 0) :: (b1, PySem.W.listOf #[.int f1 t1, .int s1 u1] 0) :: (b2, PySem.W.listOf #[.int f2 t2, .int s2 u2] 0) :: news) := ⟨_, rfl⟩
  rw [← hnw] at hN1 hnwl
  with_unfolding_all refine for_head ?_ (fun _ => rfl)
  k_steps
  repeat (refine ‹∀ f s₃, PeelPost _ _ _ _ _ _ _ _ _ _ _ f s₃ → _› _ _ ?_; k_steps)
  unfold Stop
  rename News _ _ _ _ => hN
  have hN2 := news_told3 hN
  clear hN
  with_unfolding_all refine' told_rest (a := a) (n := n) (f0 := f0) (s0 := s0) (f1 := f1) (s1 := s1) (f2 := f2) (s2 := s2) (c0 := c0) (c1 := c1) (c2 := c2) (g0 := g0) (g1 := g1) (g2 := g2) ?hh ?X ?T ?F hN2 ?dm ?d3 ?d1 ?d2 ?i0 ?i1 ?i2 ?hcs hr0 hr3 ?hne ?hE hg0 hg1 hg2 hgz hgb ?done
  case hh => exact rfl
  case X => k_asm
  case T => k_asm
  case F => k_asm
  case dm => assumption
  case d3 => assumption
  case d1 => assumption
  case d2 => assumption
  case i0 => assumption
  case i1 => assumption
  case i2 => assumption
  case hcs =>
    clear hN2
    repeat (rename News _ _ _ _ => hO; clear hO)
    repeat (rename PickIs _ _ _ _ _ _ _ _ _ => hq; have hq' := hq.eq; clear hq; subst hq')
    rw [hc]
    subst hnr hfr
    exact .cons _ _ (.cons _ _ (.cons _ _ .nil))
  case hE => passes_own
  case hne =>
    constructor
    intro p hp
    simp only [List.mem_cons] at hp
    rcases hp with rfl | rfl | rfl | rfl | rfl | rfl | rfl | rfl | rfl | hp
    case inr.inr.inr.inr.inr.inr.inr.inr.inr =>
      have := hnwl _ hp
      clear hN2
      exact ne_lt this
    all_goals first
      | (refine' ne_cell hN2 (.tail _ (.tail _ (.tail _ (.tail _ (.tail _ (.head _)))))) ?hd ?hm
         case hd => assumption
         case hm => first | exact .head _ | exact .tail _ (.head _) | exact .tail _ (.tail _ (.head _)) | exact .tail _ (.tail _ (.tail _ (.head _))) | exact .tail _ (.tail _ (.tail _ (.tail _ (.head _)))))
      | exact Nat.ne_of_lt (by show @LT.lt Nat _ _ _; dsimp only; omega)
      | (clear hN2; exact ne_lt (by show @LT.lt Nat _ _ _; dsimp only; omega))
  case done => 
    intro h' tk' m' Tp D2 ys k2 td F' N' hi
    k_steps
    exact hret _ _ _ _ ⟨_, _, _, _, _, rfl, by rw [← hnw], hi⟩ (by k_asm) (by walk_at "MY LEDGER")
 walk_at "EN"
end
section
open ZElte
example : True := by
  k_with "!compareOp In int ref" => (guard_expr onElte =~ onElte; (k_here; (with_reducible show wpAny _ _ (compareOp CmpOp.In (Value.int _ _) (Value.ref 71)) _ _ _); refine b1_in (by k_asm) (by k_asm) ?_))
  k_with "!getMethod ref" => (guard_expr onElte =~ onElte; (k_here; (with_reducible show wpAny _ _ (getMethod (Value.ref 82) _ _) _ _ _); refine b3_method (by k_asm) (by k_asm) ?_))
  k_with "!call builtin:dict.get" => (guard_expr onElte =~ onElte; (k_here; (with_reducible show wpAny _ _ (call (Value.builtin "dict.get") [Value.ref 82, Value.int _ _]) _ _ _); refine b3_get (by k_asm) (by k_asm) ?_ ?_ <;> intros))
  k_with "!call builtin:str.lower" => (guard_expr onElte =~ onElte; (k_here; (dsimp only); refine SCL.lower (show (1 : Nat) ≤ 5592405 by decide) ?_; intro _))
  k_with "!binaryOp Add str str" => (guard_expr onElte =~ onElte; (k_here; k_extra "binaryOp Add str str"))
  trivial
noncomputable abbrev CallE (w : World) (f : Addr) (vs : List Value) (R : Value → Prop) : Prop :=
  ∀ (mean : ExcName → Option Value) (mg mb : Str → Option Value) (dp un : Nat) (gd : Option (List Code)) (env0 : Env) (outer : List Env) (A₀ : Around) (base h₀ : Heap) (L : Addr) (m : Str → Option Value) (s : Shared) (Q E : Value → Shared → Prop),
    Below A₀ base outer h₀ → Fr h₀ L s.heap m → (KK w.params).In h₀ → News h₀ L s.heap [] → Top qq LOOSE mean mg mb h₀ → env0.frame = some L → env0.scope.kind = .function →
    dp + 10 < recursionLimit → un + 60 < cLine →
    (∀ (v : Value) (h' : Heap) (tk' : Nat), R v → Fr h₀ L h' m → (∀ b o, s.heap.get? b = some o → h'.get? b = some o) → Q v { s with heap := h', toks := tk' }) →
    wpAny (model PW w) (AT dp un gd env0 outer) (call (.ref f) vs) Q E s
theorem elt_keeps {s₂ g H' : Heap} {L' : Addr} {m' : Str → Option Value} (G : GSub s₂ g (([] : List (Addr × Obj)).map (·.1))) (F' : Fr g L' H' m') : ∀ b o, s₂.get? b = some o → H'.get? b = some o := fun b o e => F'.keep b o (G b o e (by simp))
example : True := by
  k_with "!MY ENTERG" => (guard_expr onElte =~ onElte; (refine wpAny_call ?_; refine' code_defG ?k1_72 ?k2_72 ?k3_72 ?k4_72 ?k5_72 ?kA_72 ?kF_72 ?kK_72 ?k6_72 ?k7_72 ?k8_72 ?k9_72 ?kB_72 ?_ ?c2_72 ?c3_72 ?c4_72 ?c5_72; (case kA_72 => exact rfl); (case kF_72 => assumption); (case kK_72 => assumption); (case k1_72 => k_asm); (case k2_72 => k_asm); (case k3_72 => k_asm); (case k4_72 => k_asm); (case k5_72 => k_asm); (case k6_72 => k_is); (case k7_72 => k_is); (case k8_72 => (show _ < recursionLimit; dsimp only; omega)); (case k9_72 => exact BindsTo.of_eq rfl); (case c5_72 => decide); (case kB_72 => exact locs rfl); (case c2_72 => exact rfl); (case c3_72 => exact rfl); (case c4_72 => exact rfl); k_whole; intro g''k L''k h''k FG''k F''k N''k B''k X''k T''k GS''k; (try dsimp only); (try k_lift B''k); (try k_fold)))
  trivial
theorem news_nil {h₀ h : Heap} {L : Addr} : News h₀ L h [] := fun _ hp => nomatch hp
theorem flagE_spec (w : World) (i : Int) (t : Tok) (h0 : 0 ≤ i) (h1 : i < 32) : CallE w 177 [.int i t] (fun v => ∃ t, v = .str (flagW i) t) := by
 walk_at "ST"
 case oTag =>
  unfold CallE
  intros; rename_i hret
  have hm : (Txt.mul (Str.ofString "0") (i.fdiv 4)).length ≤ 10 := len_mul_one zero_is (by rw [Int.fdiv_eq_ediv_of_nonneg _ (by omega)]; omega)
  walk_at "MY ENTERG"
  k_with "binaryOp Add str str" => (guard_expr onElte =~ onElte; ((refine add_str ?_ (by rw [sizeLine_eq]; simp only [Str.length_append, len_item, len_0x] at *; omega)); intro _ _))
  k_steps
  · exact hret _ _ _ ⟨_, by unfold flagW; rw [if_pos (by assumption)]; rfl⟩ (by k_asm) (elt_keeps ‹GSub _ _ _› ‹Fr _ _ _ _›)
  · exact hret _ _ _ ⟨_, by unfold flagW; rw [if_neg (by assumption)]⟩ (by k_asm) (elt_keeps ‹GSub _ _ _› ‹Fr _ _ _ _›)
 walk_at "EN"
theorem mapE_spec (w : World) (c : Nat) (t : Tok) : CallE w 127 [.str ⟨#[c]⟩ t] (fun v => ∃ t, v = .str (mapS c) t) := by
 walk_at "ST"
 case oTag =>
  unfold CallE
  intros; rename_i hret
  walk_at "MY ENTERG"
  k_steps
  · exact hret _ _ _ ⟨_, by unfold mapS; rw [show b3At (c : Int) = _ from by assumption]; rfl⟩ (by k_asm) (elt_keeps ‹GSub _ _ _› ‹Fr _ _ _ _›)
  · exact hret _ _ _ ⟨_, by unfold mapS; rw [show b3At (c : Int) = _ from by assumption]; rfl⟩ (by k_asm) (elt_keeps ‹GSub _ _ _› ‹Fr _ _ _ _›)
 walk_at "EN"
end
section
noncomputable def exL : List (Str × Int) := [(Str.ofString "!", 54), (Str.ofString "!=", 28), (Str.ofString "%", 24), (Str.ofString "%=", 40), (Str.ofString "&", 19), (Str.ofString "&=", 41), (Str.ofString "(", 7), (Str.ofString ")", 8), (Str.ofString "*", 16), (Str.ofString "**", 35), (Str.ofString "**=", 46), (Str.ofString "*=", 38), (Str.ofString "+", 14), (Str.ofString "+=", 36), (Str.ofString ",", 12), (Str.ofString "-", 15), (Str.ofString "-=", 37), (Str.ofString "->", 51), (Str.ofString ".", 23), (Str.ofString "...", 52), (Str.ofString "/", 17), (Str.ofString "//", 47), (Str.ofString "//=", 48), (Str.ofString "/=", 39), (Str.ofString ":", 11), (Str.ofString ":=", 53), (Str.ofString ";", 13), (Str.ofString "<", 20), (Str.ofString "<<", 33), (Str.ofString "<<=", 44), (Str.ofString "<=", 29), (Str.ofString "=", 22), (Str.ofString "==", 27), (Str.ofString ">", 21), (Str.ofString ">=", 30), (Str.ofString ">>", 34), (Str.ofString ">>=", 45), (Str.ofString "@", 49), (Str.ofString "@=", 50), (Str.ofString "[", 9), (Str.ofString "]", 10), (Str.ofString "^", 32), (Str.ofString "^=", 43), (Str.ofString "{", 25), (Str.ofString "|", 18), (Str.ofString "|=", 42), (Str.ofString "}", 26), (Str.ofString "~", 31)]
noncomputable def exD : List (Str × PyData) := exL.map fun p => (p.1, .int p.2)
theorem ex_look (P : Params) : KTD.tabLook KTD.flatLooks (fun a => if a = 128 then some (O_128 P) else none) 128 exD = true := by rfl
theorem ex_nodup : (exD.map (·.1)).Nodup := by decide +kernel
theorem ex_hash (w : World) : KTD.hashesOf (fun a => if a = 128 then some (O_128 w.params) else none) 128 = exD.map fun p => (PySem.strKind PW w).hash p.1 := by rfl
theorem ex_tab {w : World} {h : Heap} (X : (KK w.params).In h) : StrTab PW w h 128 (exD.map fun p => (PyData.str p.1, p.2)) := by
  refine KTD.strTab_of_look PW w (get := fun a => if a = 128 then some (O_128 w.params) else none) (fun a o e => ?_) (ex_look w.params) ex_nodup (ex_hash w)
  split at e
  · cases e
    rename_i ha
    rw [ha]
    exact X 128 _ (by rfl)
  · cases e
noncomputable def exIn (l : List (Str × Int)) (x : Str) : Option Int := (l.find? fun p => decide (p.1 = x)).map (·.2)
noncomputable def exAt (x : Str) : Option Int := exIn exL x
theorem ex_lookup (x : Str) : ∀ (l : List (Str × Int)), PySem.Spec.lookup (.str x) ((l.map fun p => (p.1, PyData.int p.2)).map fun p => (PyData.str p.1, p.2)) = (exIn l x).map PyData.int
  | [] => rfl
  | p :: l => by
    have ih := ex_lookup x l
    have e : PySem.Spec.same (.str p.1) (.str x) = decide (p.1 = x) := PyProof.V.same_str p.1 x
    simp only [List.map_cons, PySem.Spec.lookup, e, exIn, List.find?_cons]
    cases h : decide (p.1 = x) with
    | true => simp
    | false =>
      simp only [Bool.false_eq_true, if_false]
      exact ih
theorem ex_in {w : World} {A : Around} {E : Value → Shared → Prop} {s : Shared} {Q : Value → Shared → Prop} {h₀ : Heap} {L : Addr} {m : Str → Option Value} {x : Str} {t : Tok}
    (F : Fr h₀ L s.heap m) (X : (KK w.params).In h₀) (h : Q (.bool (exAt x).isSome) { s with toks := s.toks + 1 }) : wpAny (model PW w) A (compareOp .In (.str x t) (.ref 128)) Q E s :=
  in_strTab (ex_tab (X.keeps F.keep)) (by
    have := ex_lookup x exL
    have e : (PySem.Spec.lookup (.str x) (exD.map fun p => (PyData.str p.1, p.2))).isSome = (exAt x).isSome := by
      unfold exD
      rw [this]
      simp [exAt]
    rw [e]
    exact h)
theorem ex_item {w : World} {A : Around} {E : Value → Shared → Prop} {s : Shared} {Q : Value → Shared → Prop} {h₀ : Heap} {L : Addr} {m : Str → Option Value} {x : Str} {t : Tok} {value slice : PySem.Expr} {k : Int}
    (F : Fr h₀ L s.heap m) (X : (KK w.params).In h₀) (hx : exAt x = some k) (h : ∀ t, Q (.int k t) { s with toks := s.toks + 1 })
    (hs : subscripted slice false (.ref 128) (.str x t) = operate [.ref 128, .str x t] (getItem (.ref 128) (.str x t)) := by with_unfolding_all rfl) (hg : ∀ r, letTemporaryGo value (.ref 128) r = pure () := by intro _; with_unfolding_all rfl) :
    wpAny (model PW w) A (subscriptTail value slice (.ref 128) (.str x t)) Q E s :=
  item_strTab (dv := .int k) (ex_tab (X.keeps F.keep)) (by
    have := ex_lookup x exL
    unfold exD
    rw [this]
    show Option.map _ (exAt x) = _
    rw [hx]; rfl) (fun v hv => by
      obtain ⟨t, rfl⟩ := hv.int_inv
      exact h t) hs hg
theorem ex_method {w : World} {A : Around} {E : Value → Shared → Prop} {s : Shared} {pl : Sem Bool} {Q : Value × List Value → Shared → Prop} {h₀ : Heap} {L : Addr} {m : Str → Option Value}
    (F : Fr h₀ L s.heap m) (X : (KK w.params).In h₀) (h : Q (.builtin "dict.get", [.ref 128]) s) : wpAny (model PW w) A (getMethod (.ref 128) "get" pl) Q E s :=
  getMethod_strTab_get (ex_tab (X.keeps F.keep)) h
noncomputable def optV : Option Int → Tok → Value
  | some k, t => .int k t
  | none, _ => .none
theorem ex_get {w : World} {A : Around} {E : Value → Shared → Prop} {s : Shared} {Q : Value → Shared → Prop} {h₀ : Heap} {L : Addr} {m : Str → Option Value} {x : Str} {t : Tok} {o : Option Int}
    (F : Fr h₀ L s.heap m) (X : (KK w.params).In h₀) (hx : exAt x = o) (h : ∀ t, Q (optV o t) { s with toks := s.toks + 1 }) : wpAny (model PW w) A (call (.builtin "dict.get") [.ref 128, .str x t]) Q E s :=
  call_get1_strTab (ex_tab (X.keeps F.keep)) fun v hv => by
    have := ex_lookup x exL
    unfold exD at hv
    rw [this] at hv
    have hx' : exIn exL x = o := hx
    rw [hx'] at hv
    cases o with
    | none =>
      have hv' : PyProof.V.Flat v .none := hv
      rw [hv'.none_inv]
      exact h 0
    | some k =>
      have hv' : PyProof.V.Flat v (.int k) := hv
      obtain ⟨t, rfl⟩ := hv'.int_inv
      exact h t
end
section
theorem callWith_def1 {M : Model} {A : Around} {E : Value → Shared → Prop} {s : Shared} {pos : Pos} {Q : Value → Shared → Prop} {f : Addr} {o : Obj} {fd : FuncData} {t : Sem Value} (hd : o.data = .func fd)
    (h : wpAny M A t (fun v s₁ => s₁.heap.get? f = some o ∧ wpAny M A (call (.ref f) [v]) Q E s₁) E s) : wpAny M A (callWith pos (.ref f) [] [(false, t)] []) Q E s :=
  callWith_function (o := o) (fd := fd) (Calls.evalArgs_plain (Calls.spliced_cons (wpAny_mono h (fun _ _ h₁ => Calls.spliced_nil ⟨⟨h₁.1, hd⟩, h₁.2⟩) fun _ _ e => e)))
theorem words_comp {w : World} {dp un : Nat} {gd : Option (List Code)} {env0 : Env} {outer : List Env} {A₀ : Around} {base : Heap} {mean : ExcName → Option Value} {mg mb : Str → Option Value} {env : Env} {E : Value → Shared → Prop} {s : Shared} {Q : Value → Shared → Prop} {h₀ : Heap} {m : Str → Option Value} {scope : Scope} {cl : List (Str × Addr)} {dst : Option Str} {r : Addr} {ro : Obj} {t u v : Tok} {news : List (Addr × Obj)} {cs : Addr} {os : Obj} {sh : Int} {ts : Tok} {p1 p2 p3 p4 p5 : Pos}
    (B : Below A₀ base outer h₀) (X : (KK w.params).In h₀) (T : Top qq LOOSE mean mg mb h₀) (hf : env0.frame = some env.locals) (hke : env0.scope.kind = .function) (hdp : dp + 10 < recursionLimit) (hun : un + 60 < cLine)
    (F : Fr h₀ env.locals s.heap m) (N : News h₀ env.locals s.heap news) (hr : s.heap.get? r = some ro)
    (hro : ro = { cls := .type "range", dict := none, data := .fields #[.int 0 t, .int 3 u, .int 1 v], slots := #[] })
    (hk : (relabel scope env).kind = .function) (hx : ∀ C, (compEnvC scope cl C env).kindOf (Str.ofString "place") = some .local)
    (hgl : env.globals = mainGlobals) (hy : ∀ C, (compEnvC scope cl C env).kindOf (Str.ofString "_law_flag_word") = some .globalImplicit)
    (hy1 : ∀ C, (compEnvC scope cl C env).kindOf (Str.ofString "shift") = some .cell)
    (hc1 : cl.lookup (Str.ofString "shift") = some cs) (hm1 : (cs, os) ∈ news) (hd1 : os.data = .cell (some (.int sh ts))) (h0 : 0 ≤ sh) (h1 : sh < 30)
    (done : ∀ D h' tk ys n, Fr h₀ env.locals h' (match dst with | some y => fun z => if z = y then some (.ref D) else m z | none => m) → News h₀ env.locals h' ((D, plainO ys n) :: news) → (∀ q ∈ news, @Ne Nat q.1 D) →
      StrsAre ys [flagW sh, flagW (sh + 1), flagW (sh + 2)] → Q (.ref D) { s with heap := h', toks := tk }) :
    CompAt PW w (AT dp un gd env0 outer) env scope cl (Str.ofString "place") [] (.Call (.Name (Str.ofString "_law_flag_word") p1) [.BinOp (.Name (Str.ofString "shift") p2) .Add (.Name (Str.ofString "place") p3) p4] [] p5) dst Q E (.ref r) s := by
 walk_at "ST"
 case oTag =>
  refine compAt_range rfl F N hr hro (by decide +kernel) 3 (by decide) (by decide +kernel) (fun _ => true) (fun v y => ∀ k t, v = .int k t → ∃ t, y = .str (flagW (sh + k)) t) ?_ ?_ ?_
  · intro C k t s₃ m₃ E' _ _ _ _ _ _
    simp only [List.forIn_nil]
    exact wpAny_pure ⟨rfl, _, _, rfl, fun _ _ e => e⟩
  · intro C k tk s₃ m₃ E' hk0 hk3 _ hns hx' F' N'
    have l1 : ∀ {pos : Pos} {Q' E' : Value → Shared → Prop} {s' : Shared}, s'.heap = s₃.heap → Q' (.int k tk) s' → wpAny (model PW w) (AT dp un gd env0 outer) (eval (.Name (Str.ofString "place") pos) (compEnvC scope cl C env)) Q' E' s' :=
      fun e h => wpAny_Name (wpAny_loadName_local hk (hx C) (e ▸ hns) hx' h) (by decide)
    have l2 : ∀ {pos : Pos} {Q' E' : Value → Shared → Prop} {s' : Shared}, s'.heap = s₃.heap → Q' (.int sh ts) s' → wpAny (model PW w) (AT dp un gd env0 outer) (eval (.Name (Str.ofString "shift") pos) (compEnvC scope cl C env)) Q' E' s' :=
      fun e h => wpAny_Name (wpAny_loadName_cell hk (hy1 C) hc1 ⟨os, e ▸ N'.get hm1, hd1⟩ h) (by decide)
    refine Call_Name1 (Name_function_global hk (hy C) (loadGlobal_global (env := compEnvC scope cl C env) (by show s₃.heap.Ns env.globals mg; rw [hgl]; exact T.g.keeps F'.keep) (mg_of (v := .ref 177) X T.g (by k_is)) ?_) (by decide))
    refine callWith_def1 (o := O_177 w.params) (by rfl) (wpAny_BinOp (l2 rfl (l1 rfl (add_int ⟨(X.keeps F'.keep) 177 _ (by rfl), ?_⟩))))
    refine flagE_spec w (sh + k) _ (by omega) (by omega) mean mg mb dp un gd env0 outer A₀ base h₀ env.locals m _ _ _ B F' X news_nil T hf hke hdp hun fun v h' tk' hR F1 kp => ⟨fun k' t' e => ?_, _, _, rfl, kp⟩
    obtain ⟨t1, rfl⟩ := hR
    injection e with e _
    subst e
    exact ⟨_, rfl⟩
  · intro D h' tk ys n vs F' N' ne hvs hpair
    refine done D h' tk ys n F' N' ne ?_
    have hfl : vs.filter (fun _ => true) = vs := List.filter_eq_self.mpr fun _ _ => rfl
    rw [hfl] at hpair
    rw [show intsTo 0 ((3 : Int) - 0).toNat = [0, 1, 2] by decide +kernel] at hvs
    cases hvs with
    | cons _ t0 hvs => cases hvs with
      | cons _ t1 hvs => cases hvs with
        | cons _ t2 hvs => cases hvs with
          | nil =>
            cases hpair with
            | cons a0 hpair => cases hpair with
              | cons a1 hpair => cases hpair with
                | cons a2 hpair => cases hpair with
                  | nil =>
                    obtain ⟨u0, rfl⟩ := a0 _ _ rfl
                    obtain ⟨u1, rfl⟩ := a1 _ _ rfl
                    obtain ⟨u2, rfl⟩ := a2 _ _ rfl
                    rw [Int.add_zero]
                    exact .cons _ _ (.cons _ _ (.cons _ _ .nil))
 walk_at "EN"
end
section
theorem ex_in_t {w : World} {A : Around} {E : Value → Shared → Prop} {s : Shared} {Q : Value → Shared → Prop} {h₀ : Heap} {L : Addr} {m : Str → Option Value} {x : Str} {t : Tok} {k : Int}
    (F : Fr h₀ L s.heap m) (X : (KK w.params).In h₀) (hx : exAt x = some k) (h : ∀ tk, Q (.bool true) { s with toks := tk }) : wpAny (model PW w) A (compareOp .In (.str x t) (.ref 128)) Q E s :=
  ex_in F X (by rw [hx]; exact h _)
theorem ex_in_f {w : World} {A : Around} {E : Value → Shared → Prop} {s : Shared} {Q : Value → Shared → Prop} {h₀ : Heap} {L : Addr} {m : Str → Option Value} {x : Str} {t : Tok}
    (F : Fr h₀ L s.heap m) (X : (KK w.params).In h₀) (hx : exAt x = none) (h : ∀ tk, Q (.bool false) { s with toks := tk }) : wpAny (model PW w) A (compareOp .In (.str x t) (.ref 128)) Q E s :=
  ex_in F X (by rw [hx]; exact h _)
theorem ex_item' {w : World} {A : Around} {E : Value → Shared → Prop} {s : Shared} {Q : Value → Shared → Prop} {h₀ : Heap} {L : Addr} {m : Str → Option Value} {x : Str} {t : Tok} {value slice : PySem.Expr} {k : Int}
    (F : Fr h₀ L s.heap m) (X : (KK w.params).In h₀) (hx : exAt x = some k) (h : ∀ t tk, Q (.int k t) { s with toks := tk })
    (hs : subscripted slice false (.ref 128) (.str x t) = operate [.ref 128, .str x t] (getItem (.ref 128) (.str x t)) := by with_unfolding_all rfl) (hg : ∀ r, letTemporaryGo value (.ref 128) r = pure () := by intro _; with_unfolding_all rfl) :
    wpAny (model PW w) A (subscriptTail value slice (.ref 128) (.str x t)) Q E s := ex_item F X hx (fun t => h t _) hs hg
theorem ex_get' {w : World} {A : Around} {E : Value → Shared → Prop} {s : Shared} {Q : Value → Shared → Prop} {h₀ : Heap} {L : Addr} {m : Str → Option Value} {x : Str} {t : Tok} {k : Int}
    (F : Fr h₀ L s.heap m) (X : (KK w.params).In h₀) (hx : exAt x = some k) (h : ∀ t tk, Q (.int k t) { s with toks := tk }) : wpAny (model PW w) A (call (.builtin "dict.get") [.ref 128, .str x t]) Q E s :=
  ex_get F X hx fun t => h t _
theorem ex_get_n {w : World} {A : Around} {E : Value → Shared → Prop} {s : Shared} {Q : Value → Shared → Prop} {h₀ : Heap} {L : Addr} {m : Str → Option Value} {x : Str} {t : Tok}
    (F : Fr h₀ L s.heap m) (X : (KK w.params).In h₀) (hx : exAt x = none) (h : ∀ tk, Q .none { s with toks := tk }) : wpAny (model PW w) A (call (.builtin "dict.get") [.ref 128, .str x t]) Q E s :=
  ex_get F X hx fun _ => h _
noncomputable def pEnv (L : Addr) : Env := envOfC (Str.ofString "_law_play") { kind := ScopeKind.function, names := [(Str.ofString "rows", NameKind.cell), (Str.ofString "fed_row", NameKind.local), (Str.ofString "last", NameKind.local), (Str.ofString "shift", NameKind.cell), (Str.ofString "turn", NameKind.local), (Str.ofString "place", NameKind.cell), (Str.ofString "words", NameKind.local), (Str.ofString "fed", NameKind.local), (Str.ofString "passed", NameKind.local), (Str.ofString "deed", NameKind.local), (Str.ofString "flags", NameKind.local), (Str.ofString "named", NameKind.local), (Str.ofString "lacking", NameKind.local), (Str.ofString "row", NameKind.local), (Str.ofString "front", NameKind.local), (Str.ofString "told", NameKind.local), (Str.ofString "own", NameKind.local), (Str.ofString "one", NameKind.cell), (Str.ofString "two", NameKind.cell), (Str.ofString "moved", NameKind.local), (Str.ofString "ended", NameKind.local), (Str.ofString "sent", NameKind.local), (Str.ofString "spot", NameKind.local), (Str.ofString "range", NameKind.globalImplicit), (Str.ofString "EXACT_TOKEN_TYPES", NameKind.globalImplicit), (Str.ofString "pretty_flags", NameKind.globalImplicit), (Str.ofString "_law_letters", NameKind.globalImplicit), (Str.ofString "_law_veil", NameKind.globalImplicit), (Str.ofString "ISEOF", NameKind.globalImplicit), (Str.ofString "_law_sent", NameKind.globalImplicit), (Str.ofString "len", NameKind.globalImplicit)], isGenerator := false, isCoroutine := false, more := [(Str.ofString "fast", Const.str (Str.ofString "rows")), (Str.ofString "fast", Const.str (Str.ofString "fed_row")), (Str.ofString "fast", Const.str (Str.ofString "last")), (Str.ofString "fast", Const.str (Str.ofString "shift")), (Str.ofString "fast", Const.str (Str.ofString "turn")), (Str.ofString "fast", Const.str (Str.ofString "place")), (Str.ofString "fast", Const.str (Str.ofString "words")), (Str.ofString "fast", Const.str (Str.ofString "fed")), (Str.ofString "fast", Const.str (Str.ofString "passed")), (Str.ofString "fast", Const.str (Str.ofString "deed")), (Str.ofString "fast", Const.str (Str.ofString "flags")), (Str.ofString "fast", Const.str (Str.ofString "named")), (Str.ofString "fast", Const.str (Str.ofString "lacking")), (Str.ofString "fast", Const.str (Str.ofString "row")), (Str.ofString "fast", Const.str (Str.ofString "front")), (Str.ofString "fast", Const.str (Str.ofString "told")), (Str.ofString "fast", Const.str (Str.ofString "own")), (Str.ofString "fast", Const.str (Str.ofString "one")), (Str.ofString "fast", Const.str (Str.ofString "two")), (Str.ofString "fast", Const.str (Str.ofString "other")), (Str.ofString "fast", Const.str (Str.ofString "moved")), (Str.ofString "fast", Const.str (Str.ofString "ended")), (Str.ofString "fast", Const.str (Str.ofString "sent")), (Str.ofString "fast", Const.str (Str.ofString "spot"))] } L 194 (.ref 193)
noncomputable def playFor : Stmt := stmtIn 75 3
noncomputable def turnS (i : Nat) : Stmt := (forBody playFor).getD i (.Pass default)
noncomputable def pM (fr la tu fed : Int) (t1 t2 t4 t5 : Tok) (W P : Addr) (mx : Str → Option Value) : Str → Option Value := fun y =>
  if y = Str.ofString "turn" then some (.int tu t4) else if y = Str.ofString "fed" then some (.int fed t5) else if y = Str.ofString "words" then some (.ref W) else if y = Str.ofString "passed" then some (.ref P)
  else if y = Str.ofString "fed_row" then some (.int fr t1) else if y = Str.ofString "last" then some (.int la t2) else mx y
theorem pM_end {h₀ h : Heap} {L : Addr} {m' : Str → Option Value} {fr la tu fed : Int} {t1 t2 t4 t5 : Tok} {W P : Addr} (F : Fr h₀ L h m')
    (e1 : m' (Str.ofString "turn") = some (.int tu t4)) (e2 : m' (Str.ofString "fed") = some (.int fed t5)) (e3 : m' (Str.ofString "words") = some (.ref W)) (e4 : m' (Str.ofString "passed") = some (.ref P))
    (e5 : m' (Str.ofString "fed_row") = some (.int fr t1)) (e6 : m' (Str.ofString "last") = some (.int la t2)) : Fr h₀ L h (pM fr la tu fed t1 t2 t4 t5 W P m') := by
  have : m' = pM fr la tu fed t1 t2 t4 t5 W P m' := by
    funext y
    unfold pM
    repeat (split; (next q => rw [q]; assumption))
    rfl
  exact this ▸ F
noncomputable def iM (fl lk : Int) (u1 u2 : Tok) (Nd : Addr) (mx : Str → Option Value) : Str → Option Value := fun y =>
  if y = Str.ofString "flags" then some (.int fl u1) else if y = Str.ofString "lacking" then some (.int lk u2) else if y = Str.ofString "named" then some (.ref Nd) else mx y
theorem iM_end {h₀ h : Heap} {L : Addr} {m' : Str → Option Value} {fr la tu fed fl lk : Int} {t1 t2 t4 t5 u1 u2 : Tok} {W P Nd : Addr} (F : Fr h₀ L h m')
    (e1 : m' (Str.ofString "turn") = some (.int tu t4)) (e2 : m' (Str.ofString "fed") = some (.int fed t5)) (e3 : m' (Str.ofString "words") = some (.ref W)) (e4 : m' (Str.ofString "passed") = some (.ref P))
    (e5 : m' (Str.ofString "fed_row") = some (.int fr t1)) (e6 : m' (Str.ofString "last") = some (.int la t2))
    (e7 : m' (Str.ofString "flags") = some (.int fl u1)) (e8 : m' (Str.ofString "lacking") = some (.int lk u2)) (e9 : m' (Str.ofString "named") = some (.ref Nd)) : Fr h₀ L h (pM fr la tu fed t1 t2 t4 t5 W P (iM fl lk u1 u2 Nd m')) := by
 walk_at "ST"
 case oTag =>
  have : m' = pM fr la tu fed t1 t2 t4 t5 W P (iM fl lk u1 u2 Nd m') := by
    funext y
    unfold pM iM
    repeat (split; (next q => rw [q]; assumption))
    rfl
  exact this ▸ F
 walk_at "EN"
theorem item_at {w : World} {A : Around} {E : Value → Shared → Prop} {s : Shared} {D : Addr} {value slice : PySem.Expr} {vs : List Value} {k : Int} {u : Tok} {v : Value} {Q : Value → Shared → Prop}
    (hl : s.heap.IsList D vs.toArray) (h0 : 0 ≤ k) (h1 : k < 9223372036854775808) (hv : vs[k.toNat]? = some v) (h : Q v s)
    (hs : subscripted slice false (.ref D) (.int k u) = operate [.ref D, .int k u] (getItem (.ref D) (.int k u)) := by with_unfolding_all rfl) :
    wpAny (model PW w) A (subscriptTail value slice (.ref D) (.int k u)) Q E s :=
  tail_any hl.typeIs slot_list_getitem.lookup (wpAny_getItem_list hl h0 h1 (by simpa using hv) h) hs
end
section
open ZL ZPlayi
example : True := by
  k_with "!MY NE" => (guard_expr onPlayi =~ onPlayi; first | (refine' ne_r ?hh_73 ?hm_73; (case hh_73 => assumption); (case hm_73 => k_mem)) | (refine' ne_l ?hh_73 ?hm_73; (case hh_73 => assumption); (case hm_73 => k_mem)) | (refine neN ?_; (try dsimp only); omega))
  k_with "!MY ALL" => (guard_expr onPlayi =~ onPlayi; assumption)
  k_with "!compareOp In str ref" => (guard_expr onPlayi =~ onPlayi; (k_here; (with_reducible show wpAny _ _ (compareOp CmpOp.In (Value.str _ _) (Value.ref 128)) _ _ _); first | (refine' ex_in_t (k := 52) ?k1_75 ?k2_75 ?k3_75 ?_; (case k3_75 => assumption); (case k1_75 => k_asm); (case k2_75 => k_asm); k_whole; intro tkx'k) | (refine' ex_in_t (k := 23) ?k1_75 ?k2_75 ?k3_75 ?_; (case k3_75 => assumption); (case k1_75 => k_asm); (case k2_75 => k_asm); k_whole; intro tkx'k) | (refine' ex_in_f ?k1_75 ?k2_75 ?k3_75 ?_; (case k3_75 => assumption); (case k1_75 => k_asm); (case k2_75 => k_asm); k_whole; intro tkx'k)))
  k_with "!subscriptTail Name Name ref str" => (guard_expr onPlayi =~ onPlayi; (k_here; (with_reducible show wpAny _ _ (subscriptTail _ _ (Value.ref 128) (Value.str _ _)) _ _ _); k_dflt (refine' ex_item' ?k1_76 ?k2_76 ?k3_76 ?_; (case k3_76 => assumption); (case k1_76 => k_asm); (case k2_76 => k_asm); k_whole; intro tx'k tkx'k)))
  k_with "!getMethod ref" => (guard_expr onPlayi =~ onPlayi; (k_here; (with_reducible show wpAny _ _ (getMethod (Value.ref 128) _ _) _ _ _); refine ex_method (by k_asm) (by k_asm) ?_))
  k_with "!call builtin:dict.get" => (guard_expr onPlayi =~ onPlayi; (k_here; (with_reducible show wpAny _ _ (call (Value.builtin "dict.get") [Value.ref 128, Value.str _ _]) _ _ _); first | (refine' ex_get' (k := 23) ?k1_78 ?k2_78 ?k3_78 ?_; (case k3_78 => assumption); (case k1_78 => k_asm); (case k2_78 => k_asm); k_whole; intro tx'k tkx'k) | (refine' ex_get_n ?k1_78 ?k2_78 ?k3_78 ?_; (case k3_78 => assumption); (case k1_78 => k_asm); (case k2_78 => k_asm); k_whole; intro tkx'k)))
  k_with "!subscriptTail Name Name ref int" => (guard_expr onPlayi =~ onPlayi; (k_here; k_dflt (refine' item_at ?k1_79 ?k2_79 ?k3_79 ?k4_79 ?_; (case k1_79 => exact ⟨_, News.get (by k_asm) (by k_mem), rfl, _, rfl⟩); (case k2_79 => assumption); (case k3_79 => omega); (case k4_79 => assumption); k_whole)))
  k_with "!call builtin:list.append" => (guard_expr onPlayi =~ onPlayi; (k_here; (with_reducible show wpAny _ _ (call (Value.builtin "list.append") [Value.ref _, _]) _ _ _); k_dflt (refine' append_N ?k1_80 ?k2_80 ?k3_80 ?k4_80 ?_; (case k1_80 => assumption); (case k2_80 => assumption); (case k3_80 => exact UpdF.head (NeAll.all (by assumption))); (case k4_80 => assumption); k_whole; intro h''k ka'k F''k N''k)))
  trivial
section
variable {w : World} {A : Around} {E : Value → Shared → Prop} {s : Shared} {Q : Flow → Shared → Prop} {h₀ : Heap} {L D W P Nd : Addr} {mx mg mb : Str → Option Value} {mean : ExcName → Option Value} {rest : List (Addr × Obj)} {oc os or : Obj} {vs ws ns : List Value} {k kw kn : Nat}
  {fr la tu fed fl lk sh p : Int} {t1 t2 t4 t5 u1 u2 ts tp tx : Tok} {x : Str}
theorem inner_fire (hh : A.handled = none) (X : (KK w.params).In h₀) (T : Top qq LOOSE mean mg mb h₀) (F : Fr h₀ L s.heap (pM fr la tu fed t1 t2 t4 t5 W P (iM fl lk u1 u2 Nd mx)))
    (N : News h₀ L s.heap ((Nd, plainO ns kn) :: (W, plainO ws kw) :: (D, plainO vs k) :: (L + 1 + 1 + 1, oc) :: (L + 1 + 1, os) :: (L + 1, or) :: rest))
    (hE : PassesOwn (model PW w) A (pEnv L) E) (d3 : oc.data = .cell (some (.int p tp))) (d2 : os.data = .cell (some (.int sh ts))) (d1 : or.data = .cell (some (.ref D)))
    (hp0 : 0 ≤ p) (hp3 : p < 3) (hsh0 : 0 ≤ sh) (hsh1 : sh < 30) (hv : vs[p.toNat]? = some (.str x tx)) (hxl : x.length ≤ 200) (hx : exAt (Txt.slice x none (some 3)) = some 52)
    (hne : NeAll Nd ((W, plainO ws kw) :: (D, plainO vs k) :: (L + 1 + 1 + 1, oc) :: (L + 1 + 1, os) :: (L + 1, or) :: rest)) (hw : ws[p.toNat]? = some (.str wd td)) (hn : ns.length ≤ 1000)
    (done : ∀ h' tk' mx' u1' kn', Fr h₀ L h' (pM fr la tu fed t1 t2 t4 t5 W P (iM (fl + 1 * 2 ^ (sh + p).toNat) lk u1' u2 Nd mx')) → News h₀ L h' ((Nd, plainO (ns ++ [.str wd td]) kn') :: (W, plainO ws kw) :: (D, plainO vs k) :: (L + 1 + 1 + 1, oc) :: (L + 1 + 1, os) :: (L + 1, or) :: rest) → Q .next { s with heap := h', toks := tk' }) :
    wpAny (model PW w) A (execs (forBody (turnS 3)) (pEnv L)) Q E s := by
 walk_at "ST"
 case oTag =>
  unfold pEnv
  unfold pM iM at F
  with_unfolding_all show wpAny _ _ (execs [_, _, _] _) _ _ _
  k_steps
  refine done _ _ _ _ _ (iM_end ‹Fr _ _ _ _› rfl rfl rfl rfl rfl rfl rfl rfl rfl) ‹News _ _ _ _›
 walk_at "EN"
theorem inner_keep (hh : A.handled = none) (X : (KK w.params).In h₀) (T : Top qq LOOSE mean mg mb h₀) (F : Fr h₀ L s.heap (pM fr la tu fed t1 t2 t4 t5 W P (iM fl lk u1 u2 Nd mx)))
    (N : News h₀ L s.heap ((Nd, plainO ns kn) :: (W, plainO ws kw) :: (D, plainO vs k) :: (L + 1 + 1 + 1, oc) :: (L + 1 + 1, os) :: (L + 1, or) :: rest))
    (hE : PassesOwn (model PW w) A (pEnv L) E) (d3 : oc.data = .cell (some (.int p tp))) (d2 : os.data = .cell (some (.int sh ts))) (d1 : or.data = .cell (some (.ref D)))
    (hp0 : 0 ≤ p) (hp3 : p < 3) (hsh0 : 0 ≤ sh) (hsh1 : sh < 30) (hv : vs[p.toNat]? = some (.str x tx)) (hxl : x.length ≤ 200) (hx3 : exAt (Txt.slice x none (some 3)) = none) (hx2 : exAt (Txt.slice x none (some 2)) = none) (hx1 : exAt (Txt.slice x none (some 1)) = some 23) (hxl2 : 2 ≤ x.length) (hxi : exAt (Txt.item x 1) = some 23)
    (done : ∀ h' tk' mx', Fr h₀ L h' (pM fr la tu fed t1 t2 t4 t5 W P (iM fl lk u1 u2 Nd mx')) → News h₀ L h' ((Nd, plainO ns kn) :: (W, plainO ws kw) :: (D, plainO vs k) :: (L + 1 + 1 + 1, oc) :: (L + 1 + 1, os) :: (L + 1, or) :: rest) → Q .next { s with heap := h', toks := tk' }) :
    wpAny (model PW w) A (execs (forBody (turnS 3)) (pEnv L)) Q E s := by
 walk_at "ST"
 case oTag =>
  unfold pEnv
  unfold pM iM at F
  with_unfolding_all show wpAny _ _ (execs [_, _, _] _) _ _ _
  k_steps
  refine done _ _ _ (iM_end ‹Fr _ _ _ _› rfl rfl rfl rfl rfl rfl rfl rfl rfl) ‹News _ _ _ _›
 walk_at "EN"
theorem inner_lack (hh : A.handled = none) (X : (KK w.params).In h₀) (T : Top qq LOOSE mean mg mb h₀) (F : Fr h₀ L s.heap (pM fr la tu fed t1 t2 t4 t5 W P (iM fl lk u1 u2 Nd mx)))
    (N : News h₀ L s.heap ((Nd, plainO ns kn) :: (W, plainO ws kw) :: (D, plainO vs k) :: (L + 1 + 1 + 1, oc) :: (L + 1 + 1, os) :: (L + 1, or) :: rest))
    (hE : PassesOwn (model PW w) A (pEnv L) E) (d3 : oc.data = .cell (some (.int p tp))) (d2 : os.data = .cell (some (.int sh ts))) (d1 : or.data = .cell (some (.ref D)))
    (hp0 : 0 ≤ p) (hp3 : p < 3) (hsh0 : 0 ≤ sh) (hsh1 : sh < 30) (hv : vs[p.toNat]? = some (.str x tx)) (hxl : x.length ≤ 200) (hx3 : exAt (Txt.slice x none (some 3)) = none) (hx2 : exAt (Txt.slice x none (some 2)) = none) (hx1 : exAt (Txt.slice x none (some 1)) = some 23) (hxl2 : 2 ≤ x.length) (hxi : exAt (Txt.item x 1) = none)
    (done : ∀ h' tk' mx' u2', Fr h₀ L h' (pM fr la tu fed t1 t2 t4 t5 W P (iM fl (lk + 1) u1 u2' Nd mx')) → News h₀ L h' ((Nd, plainO ns kn) :: (W, plainO ws kw) :: (D, plainO vs k) :: (L + 1 + 1 + 1, oc) :: (L + 1 + 1, os) :: (L + 1, or) :: rest) → Q .next { s with heap := h', toks := tk' }) :
    wpAny (model PW w) A (execs (forBody (turnS 3)) (pEnv L)) Q E s := by
 walk_at "ST"
 case oTag =>
  unfold pEnv
  unfold pM iM at F
  with_unfolding_all show wpAny _ _ (execs [_, _, _] _) _ _ _
  k_steps
  refine done _ _ _ _ (iM_end ‹Fr _ _ _ _› rfl rfl rfl rfl rfl rfl rfl rfl rfl) ‹News _ _ _ _›
 walk_at "EN"
end
end
section
open ZPlayj
inductive RowIs (x : Str) : Nat → Prop
  | fire (h : x.length ≤ 200) (hx : exAt (Txt.slice x none (some 3)) = some 52) : RowIs x 2
  | keep (h : x.length ≤ 200) (hx3 : exAt (Txt.slice x none (some 3)) = none) (hx2 : exAt (Txt.slice x none (some 2)) = none) (hx1 : exAt (Txt.slice x none (some 1)) = some 23) (hxl2 : 2 ≤ x.length) (hxi : exAt (Txt.item x 1) = some 23) : RowIs x 1
  | lack (h : x.length ≤ 200) (hx3 : exAt (Txt.slice x none (some 3)) = none) (hx2 : exAt (Txt.slice x none (some 2)) = none) (hx1 : exAt (Txt.slice x none (some 1)) = some 23) (hxl2 : 2 ≤ x.length) (hxi : exAt (Txt.item x 1) = none) : RowIs x 0
noncomputable def flS (sh p : Int) (b : Nat) (fl : Int) : Int := if b = 2 then fl + 1 * 2 ^ (sh + p).toNat else fl
noncomputable def lkS (b : Nat) (lk : Int) : Int := if b = 0 then lk + 1 else lk
noncomputable def nmS {α : Type} (b : Nat) (v : α) (ns : List α) : List α := if b = 2 then ns ++ [v] else ns
noncomputable abbrev led1 (L J W D Nd : Addr) (jo : Obj) (ns ws vs : List Value) (kn kw k : Nat) (oc os or : Obj) (rest : List (Addr × Obj)) : List (Addr × Obj) :=
  (J, jo) :: (Nd, plainO ns kn) :: (W, plainO ws kw) :: (D, plainO vs k) :: (L + 1 + 1 + 1, oc) :: (L + 1 + 1, os) :: (L + 1, or) :: rest
noncomputable abbrev tgt (px : Pos) : PySem.Expr := .Name (Str.ofString "place") px
theorem NeAll.re {c : Addr} {l l' : List (Addr × Obj)} (h : NeAll c l) (hs : ∀ a ∈ l'.map (·.1), a ∈ l.map (·.1)) : NeAll c l' := by
  refine ⟨fun p hp => ?_⟩
  obtain ⟨q, hq, e⟩ := List.mem_map.mp (hs p.1 (List.mem_map_of_mem hp))
  rw [← e]
  exact h.all q hq
example : True := by
  k_with "!readr" => (guard_expr onPlayj =~ onPlayj; (first | walk_at "SUB" | (intro a'k ha'k; simp only [List.map_cons, List.mem_cons] at *; grind)))
  k_with "!reord" => (guard_expr onPlayj =~ onPlayj; (simp only [List.mem_cons] at *; grind))
  trivial
section
variable {w : World} {A : Around} {E : Value → Shared → Prop} {s : Shared} {Q : Flow → Shared → Prop} {h₀ : Heap} {L D W P Nd J : Addr} {mx mg mb : Str → Option Value} {mean : ExcName → Option Value} {rest : List (Addr × Obj)} {oc os or : Obj} {vs ws ns : List Value} {k kw kn : Nat}
  {fr la tu fed fl lk sh p : Int} {t1 t2 t4 t5 u1 u2 ts tp tx : Tok} {x : Str} {px : Pos} {b : Nat} {wd : Str} {td : Tok} {v0 : Option Value}
theorem inner_turn (hh : A.handled = none) (X : (KK w.params).In h₀) (T : Top qq LOOSE mean mg mb h₀) (F : Fr h₀ L s.heap (pM fr la tu fed t1 t2 t4 t5 W P (iM fl lk u1 u2 Nd mx)))
    (N : News h₀ L s.heap (led1 L J W D Nd (rIt p (3 - p)) ns ws vs kn kw k oc os or rest))
    (hE : PassesOwn (model PW w) A (pEnv L) E) (d3 : oc.data = .cell v0) (d2 : os.data = .cell (some (.int sh ts))) (d1 : or.data = .cell (some (.ref D)))
    (hp0 : 0 ≤ p) (hp3 : p < 3) (hsh0 : 0 ≤ sh) (hsh1 : sh < 30) (hv : vs[p.toNat]? = some (.str x tx)) (hb : RowIs x b)
    (hJ : NeAll J ((Nd, plainO ns kn) :: (W, plainO ws kw) :: (D, plainO vs k) :: (L + 1 + 1 + 1, oc) :: (L + 1 + 1, os) :: (L + 1, or) :: rest))
    (hne : NeAll Nd ((J, rIt p (3 - p)) :: (W, plainO ws kw) :: (D, plainO vs k) :: (L + 1 + 1 + 1, oc) :: (L + 1 + 1, os) :: (L + 1, or) :: rest))
    (hc3 : NeAll (L + 1 + 1 + 1) ((J, rIt p (3 - p)) :: (Nd, plainO ns kn) :: (W, plainO ws kw) :: (D, plainO vs k) :: (L + 1 + 1, os) :: (L + 1, or) :: rest))
    (hw : ws[p.toNat]? = some (.str wd td)) (hn : ns.length ≤ 1000)
    (next : ∀ h' tk' mx' u1' u2' kn' oc' tp', Fr h₀ L h' (pM fr la tu fed t1 t2 t4 t5 W P (iM (flS sh p b fl) (lkS b lk) u1' u2' Nd mx')) → oc'.data = .cell (some (.int p tp')) →
      News h₀ L h' (led1 L J W D Nd (rIt (p + 1) (3 - p - 1)) (nmS b (.str wd td) ns) ws vs kn' kw k oc' os or rest) → LoopE PW w A (tgt px) (forBody (turnS 3)) [] (pEnv L) J Q E { s with heap := h', toks := tk' }) :
    LoopE PW w A (tgt px) (forBody (turnS 3)) [] (pEnv L) J Q E s := by
 walk_at "ST"
 case oTag =>
  refine loop_itemE F N (.head hJ.all) (by omega) hE (fun _ => rfl) fun h1 t tk1 F1 N1 => ?_
  have N1' : News h₀ L h1 ((L + 1 + 1 + 1, oc) :: (J, rIt (p + 1) (3 - p - 1)) :: (Nd, plainO ns kn) :: (W, plainO ws kw) :: (D, plainO vs k) :: (L + 1 + 1, os) :: (L + 1, or) :: rest) := fun q hq => N1 q (by walk_at "reord")
  refine wpAny_assign_Name ?_
  with_unfolding_all refine storeX_C (o := oc) F1 N1' (by rfl) (.head ?_) d3 fun h2 o2 F2 N2 d2' => ?_
  · exact (hc3.re (by walk_at "readr")).all
  have N2' : News h₀ L h2 ((Nd, plainO ns kn) :: (W, plainO ws kw) :: (D, plainO vs k) :: (L + 1 + 1 + 1, o2) :: (L + 1 + 1, os) :: (L + 1, or) :: (J, rIt (p + 1) (3 - p - 1)) :: rest) := fun q hq => N2 q (by walk_at "reord")
  have hne' : NeAll Nd ((W, plainO ws kw) :: (D, plainO vs k) :: (L + 1 + 1 + 1, o2) :: (L + 1 + 1, os) :: (L + 1, or) :: (J, rIt (p + 1) (3 - p - 1)) :: rest) := hne.re (by walk_at "readr")
  cases hb with
  | fire h hx =>
    refine inner_fire (s := { s with heap := h2, toks := tk1 }) hh X T F2 N2' hE d2' d2 d1 hp0 hp3 hsh0 hsh1 hv h hx hne' hw hn fun h' tk' mx' u1' kn' F' N' => ?_
    exact next h' tk' mx' u1' u2 kn' o2 _ F' d2' (fun q hq => N' q (by have hq : q ∈ led1 L J W D Nd (rIt (p + 1) (3 - p - 1)) (ns ++ [.str wd td]) ws vs kn' kw k o2 os or rest := hq; clear hw next hne hne' hJ hc3 N N1 N1' N2 N2' N'; walk_at "reord"))
  | keep h hx3 hx2 hx1 hxl2 hxi =>
    refine inner_keep (s := { s with heap := h2, toks := tk1 }) hh X T F2 N2' hE d2' d2 d1 hp0 hp3 hsh0 hsh1 hv h hx3 hx2 hx1 hxl2 hxi fun h' tk' mx' F' N' => ?_
    exact next h' tk' mx' u1 u2 kn o2 _ F' d2' (fun q hq => N' q (by have hq : q ∈ led1 L J W D Nd (rIt (p + 1) (3 - p - 1)) ns ws vs kn kw k o2 os or rest := hq; clear hw next hne hne' hJ hc3 N N1 N1' N2 N2' N'; walk_at "reord"))
  | lack h hx3 hx2 hx1 hxl2 hxi =>
    refine inner_lack (s := { s with heap := h2, toks := tk1 }) hh X T F2 N2' hE d2' d2 d1 hp0 hp3 hsh0 hsh1 hv h hx3 hx2 hx1 hxl2 hxi fun h' tk' mx' u2' F' N' => ?_
    exact next h' tk' mx' u1 u2' kn o2 _ F' d2' (fun q hq => N' q (by have hq : q ∈ led1 L J W D Nd (rIt (p + 1) (3 - p - 1)) ns ws vs kn kw k o2 os or rest := hq; clear hw next hne hne' hJ hc3 N N1 N1' N2 N2' N'; walk_at "reord"))
 walk_at "EN"
end
end
section
open ZPlayk
noncomputable abbrev led0 (L W D Nd : Addr) (ns ws vs : List Value) (kn kw k : Nat) (oc os or : Obj) (rest : List (Addr × Obj)) : List (Addr × Obj) :=
  (Nd, plainO ns kn) :: (W, plainO ws kw) :: (D, plainO vs k) :: (L + 1 + 1 + 1, oc) :: (L + 1 + 1, os) :: (L + 1, or) :: rest
example : True := by
  k_with "!readr" => (guard_expr onPlayk =~ onPlayk; (first | walk_at "SUB" | (intro a'k ha'k; simp only [List.map_cons, List.mem_cons] at *; grind)))
  trivial
section
variable {w : World} {A : Around} {E : Value → Shared → Prop} {s : Shared} {Q : Flow → Shared → Prop} {h₀ : Heap} {L D W P Nd r : Addr} {mx mg mb : Str → Option Value} {mean : ExcName → Option Value} {rest : List (Addr × Obj)} {oc os or ro : Obj} {vs ws : List Value} {k kw kn : Nat}
  {fr la tu fed sh : Int} {t1 t2 t4 t5 u1 u2 ts x1 x2 x3 : Tok} {y0 y1 y2 : Str} {p0 p1 p2 : Tok} {px : Pos} {b0 b1 b2 : Nat} {w0 w1 w2 : Str} {q0 q1 q2 : Tok} {v0 : Option Value}
theorem nmS_len {α : Type} (b : Nat) (v : α) (ns : List α) : (nmS b v ns).length ≤ ns.length + 1 := by
  unfold nmS; split <;> simp
theorem inner_iter (hh : A.handled = none) (X : (KK w.params).In h₀) (T : Top qq LOOSE mean mg mb h₀) (F : Fr h₀ L s.heap (pM fr la tu fed t1 t2 t4 t5 W P (iM 0 0 u1 u2 Nd mx)))
    (N : News h₀ L s.heap (led0 L W D Nd [] ws vs kn kw k oc os or rest)) (hr : s.heap.get? r = some ro) (hro : ro = { cls := .type "range", dict := none, data := .fields #[.int 0 x1, .int 3 x2, .int 1 x3], slots := #[] })
    (hE : PassesOwn (model PW w) A (pEnv L) E) (d3 : oc.data = .cell v0) (d2 : os.data = .cell (some (.int sh ts))) (d1 : or.data = .cell (some (.ref D)))
    (hsh0 : 0 ≤ sh) (hsh1 : sh < 30) (v0 : vs[0]? = some (.str y0 p0)) (v1 : vs[1]? = some (.str y1 p1)) (v2 : vs[2]? = some (.str y2 p2)) (hb0 : RowIs y0 b0) (hb1 : RowIs y1 b1) (hb2 : RowIs y2 b2)
    (hne : NeAll Nd ((W, plainO ws kw) :: (D, plainO vs k) :: (L + 1 + 1 + 1, oc) :: (L + 1 + 1, os) :: (L + 1, or) :: rest))
    (hc3 : NeAll (L + 1 + 1 + 1) ((Nd, plainO [] kn) :: (W, plainO ws kw) :: (D, plainO vs k) :: (L + 1 + 1, os) :: (L + 1, or) :: rest))
    (hw0 : ws[0]? = some (.str w0 q0)) (hw1 : ws[1]? = some (.str w1 q1)) (hw2 : ws[2]? = some (.str w2 q2))
    (done : ∀ h' tk' mx' u1' u2' kn' oc' tp', Fr h₀ L h' (pM fr la tu fed t1 t2 t4 t5 W P (iM (flS sh 2 b2 (flS sh 1 b1 (flS sh 0 b0 0))) (lkS b2 (lkS b1 (lkS b0 0))) u1' u2' Nd mx')) → oc'.data = .cell (some (.int 2 tp')) →
      News h₀ L h' (led0 L W D Nd (nmS b2 (.str w2 q2) (nmS b1 (.str w1 q1) (nmS b0 (.str w0 q0) []))) ws vs kn' kw k oc' os or rest) → Q .next { s with heap := h', toks := tk' }) :
    wpAny (model PW w) A (pyIter (.ref r)) (fun it s₂ => ∃ I, it = .ref I ∧ LoopE PW w A (tgt px) (forBody (turnS 3)) [] (pEnv L) I Q E s₂) E s := by
 walk_at "ST"
 case oTag =>
  refine iter_rangeE F N hr hro (by decide +kernel) (by decide) fun J h1 F1 N1 hJ => ?_
  have hJ := NeAll.mk hJ
  have eJ : ∀ q ∈ led0 L W D Nd [] ws vs kn kw k oc os or rest, q.1 ≠ J := hJ.all
  have hne' : ∀ jo oc', NeAll Nd ((J, jo) :: (W, plainO ws kw) :: (D, plainO vs k) :: (L + 1 + 1 + 1, oc') :: (L + 1 + 1, os) :: (L + 1, or) :: rest) := fun jo oc' => ⟨fun q hq => by
    rcases List.mem_cons.mp hq with rfl | hq
    · exact fun e => eJ _ (.head _) e.symm
    · exact (hne.re (l' := (W, plainO ws kw) :: (D, plainO vs k) :: (L + 1 + 1 + 1, oc') :: (L + 1 + 1, os) :: (L + 1, or) :: rest) (fun _ h => h)).all q hq⟩
  have hc' : ∀ jo ns kn', NeAll (L + 1 + 1 + 1) ((J, jo) :: (Nd, plainO ns kn') :: (W, plainO ws kw) :: (D, plainO vs k) :: (L + 1 + 1, os) :: (L + 1, or) :: rest) := fun jo ns kn' => ⟨fun q hq => by
    rcases List.mem_cons.mp hq with rfl | hq
    · exact fun e => eJ _ (.tail _ (.tail _ (.tail _ (.head _)))) e.symm
    · exact (hc3.re (l' := (Nd, plainO ns kn') :: (W, plainO ws kw) :: (D, plainO vs k) :: (L + 1 + 1, os) :: (L + 1, or) :: rest) (fun _ h => h)).all q hq⟩
  have hJ' : ∀ ns kn' oc', NeAll J ((Nd, plainO ns kn') :: (W, plainO ws kw) :: (D, plainO vs k) :: (L + 1 + 1 + 1, oc') :: (L + 1 + 1, os) :: (L + 1, or) :: rest) := fun ns kn' oc' => hJ.re fun _ h => h
  refine inner_turn (s := { s with heap := h1 }) (p := 0) hh X T F1 N1 hE d3 d2 d1 (by decide) (by decide) hsh0 hsh1 v0 hb0 (hJ' _ _ _) (hne' _ _) (hc' _ _ _) hw0 (by simp) fun h2 tk2 mx2 a1 a2 kn2 oc2 tp2 F2 e2 N2 => ?_
  refine inner_turn (s := { s with heap := h2, toks := tk2 }) (p := 1) hh X T F2 N2 hE e2 d2 d1 (by decide) (by decide) hsh0 hsh1 v1 hb1 (hJ' _ _ _) (hne' _ _) (hc' _ _ _) hw1 ?_ fun h3 tk3 mx3 a3 a4 kn3 oc3 tp3 F3 e3 N3 => ?_
  · exact Nat.le_trans (nmS_len _ _ _) (by simp)
  refine inner_turn (s := { s with heap := h3, toks := tk3 }) (p := 2) hh X T F3 N3 hE e3 d2 d1 (by decide) (by decide) hsh0 hsh1 v2 hb2 (hJ' _ _ _) (hne' _ _) (hc' _ _ _) hw2 ?_ fun h4 tk4 mx4 a5 a6 kn4 oc4 tp4 F4 e4 N4 => ?_
  · exact Nat.le_trans (nmS_len _ _ _) (Nat.succ_le_succ (Nat.le_trans (nmS_len _ _ _) (by simp)))
  refine loop_doneE (s := { s with heap := h4, toks := tk4 }) hh F4 N4 (.head (hJ' _ _ _).all) (by decide) hE fun h5 F5 N5 => wpAny_execs_nil ?_
  exact done h5 tk4 mx4 a5 a6 kn4 oc4 tp4 F5 e4 N5
 walk_at "EN"
end
end
section
open ZPlayf
example : True := by
  k_with "!pyIter ref" => (guard_expr onPlayf =~ onPlayf; (k_here; refine Stop.mk ?_))
  trivial
section
variable {w : World} {A : Around} {E : Value → Shared → Prop} {s : Shared} {Q : Flow → Shared → Prop} {h₀ : Heap} {L D W P Nd r : Addr} {mx mg mb : Str → Option Value} {mean : ExcName → Option Value} {rest : List (Addr × Obj)} {oc os or ro : Obj} {vs ws : List Value} {k kw kn : Nat}
  {fr la tu fed sh : Int} {t1 t2 t4 t5 u1 u2 ts x1 x2 x3 : Tok} {y0 y1 y2 : Str} {p0 p1 p2 : Tok} {px : Pos} {b0 b1 b2 : Nat} {w0 w1 w2 : Str} {q0 q1 q2 : Tok} {v3 : Option Value}
theorem inner_for (hh : A.handled = none) (X : (KK w.params).In h₀) (T : Top qq LOOSE mean mg mb h₀) (F : Fr h₀ L s.heap (pM fr la tu fed t1 t2 t4 t5 W P (iM 0 0 u1 u2 Nd mx)))
    (N : News h₀ L s.heap (led0 L W D Nd [] ws vs kn kw k oc os or rest))
    (hE : PassesOwn (model PW w) A (pEnv L) E) (d3 : oc.data = .cell v3) (d2 : os.data = .cell (some (.int sh ts))) (d1 : or.data = .cell (some (.ref D)))
    (hsh0 : 0 ≤ sh) (hsh1 : sh < 30) (v0 : vs[0]? = some (.str y0 p0)) (v1 : vs[1]? = some (.str y1 p1)) (v2 : vs[2]? = some (.str y2 p2)) (hb0 : RowIs y0 b0) (hb1 : RowIs y1 b1) (hb2 : RowIs y2 b2)
    (hne : NeAll Nd ((W, plainO ws kw) :: (D, plainO vs k) :: (L + 1 + 1 + 1, oc) :: (L + 1 + 1, os) :: (L + 1, or) :: rest))
    (hc3 : NeAll (L + 1 + 1 + 1) ((Nd, plainO [] kn) :: (W, plainO ws kw) :: (D, plainO vs k) :: (L + 1 + 1, os) :: (L + 1, or) :: rest))
    (hw0 : ws[0]? = some (.str w0 q0)) (hw1 : ws[1]? = some (.str w1 q1)) (hw2 : ws[2]? = some (.str w2 q2))
    (done : ∀ h' tk' mx' u1' u2' kn' oc' tp', Fr h₀ L h' (pM fr la tu fed t1 t2 t4 t5 W P (iM (flS sh 2 b2 (flS sh 1 b1 (flS sh 0 b0 0))) (lkS b2 (lkS b1 (lkS b0 0))) u1' u2' Nd mx')) → oc'.data = .cell (some (.int 2 tp')) →
      News h₀ L h' (led0 L W D Nd (nmS b2 (.str w2 q2) (nmS b1 (.str w1 q1) (nmS b0 (.str w0 q0) []))) ws vs kn' kw k oc' os or rest) → Q .next { s with heap := h', toks := tk' }) :
    wpAny (model PW w) A (exec (turnS 3) (pEnv L)) Q E s := by
 walk_at "ST"
 case oTag =>
  with_unfolding_all refine for_headE (body := forBody (turnS 3)) (els := []) (target := tgt _) (iter := .Call (.Name (Str.ofString "range") _) [.Constant (.int 3) 0 _] [] _) (pos := _) ?_ (fun _ => rfl)
  show wpAny _ _ _ (fun x s₁ => wpAny (model PW w) A (pyIter x) (fun it s₂ => ∃ I, it = .ref I ∧ LoopE PW w A (tgt _) (forBody (turnS 3)) [] (pEnv L) I Q E s₂) E s₁) _ _
  generalize hP : (fun (it : Value) (s₂ : Shared) => ∃ I, it = Value.ref I ∧ LoopE PW w A (tgt _) (forBody (turnS 3)) [] (pEnv L) I Q E s₂) = Post
  unfold pEnv
  k_steps
  unfold Stop
  subst hP
  refine' inner_iter hh X T ?F ?N ?hr ?hro hE d3 d2 d1 hsh0 hsh1 v0 v1 v2 hb0 hb1 hb2 hne hc3 hw0 hw1 hw2 ?dn
  case hr => first | assumption | (exact News.get (by k_asm) (by k_mem))
  case hro => exact rfl
  case F => k_asm
  case N => k_asm
  case dn => exact done
 walk_at "EN"
end
end
section
noncomputable def flagsF (sh : Int) (b0 b1 b2 : Nat) : Int := flS sh 2 b2 (flS sh 1 b1 (flS sh 0 b0 0))
noncomputable def namedW (sh : Int) (b0 b1 b2 : Nat) : List Str := nmS b2 (flagW (sh + 2)) (nmS b1 (flagW (sh + 1)) (nmS b0 (flagW sh) []))
noncomputable def splitOk (sh : Nat) (b0 b1 b2 : Nat) : Bool :=
  let F := (flagsF sh b0 b1 b2).toNat
  let ws := Txt.split (Txt.join (Str.ofString ", ") (outW F)) (Str.ofString ", ")
  decide (ws = if namedW sh b0 b1 b2 = [] then [Str.ofString "0x0"] else namedW sh b0 b1 b2) && decide (F < 2 ^ 32) && decide (0 ≤ flagsF sh b0 b1 b2) && decide ((Txt.join (Str.ofString ", ") (outW F)).length ≤ 200)
theorem split_ok : ((List.range 30).all fun sh => [1, 2].all fun b0 => [1, 2].all fun b1 => [1, 2].all fun b2 => splitOk sh b0 b1 b2) = true := by decide +kernel
theorem flags_plain {sh : Int} {b0 b1 b2 : Nat} (h0 : 0 ≤ sh) (h1 : sh < 30) (hb0 : b0 ≤ 2) (hb1 : b1 ≤ 2) (hb2 : b2 ≤ 2) :
    ∃ F : Nat, flagsF sh b0 b1 b2 = (F : Int) ∧ F < 2 ^ 32 ∧ Txt.split (Txt.join (Str.ofString ", ") (outW F)) (Str.ofString ", ") = (if namedW sh b0 b1 b2 = [] then [Str.ofString "0x0"] else namedW sh b0 b1 b2) ∧ (Txt.join (Str.ofString ", ") (outW F)).length ≤ 200 := by
 walk_at "ST"
 case oTag =>
  have key : ∀ a0 a1 a2 : Nat, a0 ∈ [1, 2] → a1 ∈ [1, 2] → a2 ∈ [1, 2] → splitOk sh.toNat a0 a1 a2 = true := fun a0 a1 a2 e0 e1 e2 =>
    List.all_eq_true.mp (List.all_eq_true.mp (List.all_eq_true.mp (List.all_eq_true.mp split_ok sh.toNat (List.mem_range.mpr (by omega))) a0 e0) a1 e1) a2 e2
  have hsh : ((sh.toNat : Nat) : Int) = sh := Int.toNat_of_nonneg h0
  have use : ∀ a0 a1 a2 : Nat, a0 ∈ [1, 2] → a1 ∈ [1, 2] → a2 ∈ [1, 2] → ∃ F : Nat, flagsF sh a0 a1 a2 = (F : Int) ∧ F < 2 ^ 32 ∧ Txt.split (Txt.join (Str.ofString ", ") (outW F)) (Str.ofString ", ") = (if namedW sh a0 a1 a2 = [] then [Str.ofString "0x0"] else namedW sh a0 a1 a2) ∧ (Txt.join (Str.ofString ", ") (outW F)).length ≤ 200 := by
    intro a0 a1 a2 e0 e1 e2
    have h := key a0 a1 a2 e0 e1 e2
    unfold splitOk at h
    rw [hsh] at h
    simp only [Bool.and_eq_true, decide_eq_true_eq] at h
    obtain ⟨⟨⟨x1, x2⟩, x3⟩, x4⟩ := h
    exact ⟨(flagsF sh a0 a1 a2).toNat, (Int.toNat_of_nonneg x3).symm, x2, x1, x4⟩
  have c : ∀ b : Nat, b ≤ 2 → (b = 0 ∨ b ∈ [1, 2]) := fun b hb => by simp; omega
  rcases c b0 hb0 with rfl | e0 <;> rcases c b1 hb1 with rfl | e1 <;> rcases c b2 hb2 with rfl | e2
  · exact use 1 1 1 (by simp) (by simp) (by simp)
  · exact use 1 1 b2 (by simp) (by simp) e2
  · exact use 1 b1 1 (by simp) e1 (by simp)
  · exact use 1 b1 b2 (by simp) e1 e2
  · exact use b0 1 1 e0 (by simp) (by simp)
  · exact use b0 1 b2 e0 (by simp) e2
  · exact use b0 b1 1 e0 e1 (by simp)
  · exact use b0 b1 b2 e0 e1 e2
 walk_at "EN"
theorem RowIs.le {x : Str} {b : Nat} (h : RowIs x b) : b ≤ 2 := by cases h <;> decide
theorem pretty_call {w : World} {mean : ExcName → Option Value} {mg mb : Str → Option Value} {dp un : Nat} {gd : Option (List Code)} {env0 : Env} {outer : List Env} {A₀ : Around} {base h₀ : Heap} {L : Addr} {m : Str → Option Value} {s : Shared} {Q E : Value → Shared → Prop} {news : List (Addr × Obj)} {fl : Int} {t : Tok} {F : Nat}
    (kB : Below A₀ base outer h₀) (kF : Fr h₀ L s.heap m) (kX : (KK w.params).In h₀) (kN : News h₀ L s.heap news) (kT : Top qq LOOSE mean mg mb h₀) (kf : env0.frame = some L) (kk : env0.scope.kind = .function) (kd : dp + 10 < recursionLimit) (ku : un + 60 < cLine) (hF : fl = (F : Int)) (hlt : F < 2 ^ 32)
    (done : ∀ h' tk' t', Fr h₀ L h' m → News h₀ L h' news → Q (.str (Txt.join (Str.ofString ", ") (outW F)) t') { s with heap := h', toks := tk' }) : wpAny (model PW w) (AT dp un gd env0 outer) (call (.ref 56) [.int fl t]) Q E s := by
  subst hF
  exact pretty_spec w F t news hlt _ _ _ _ _ _ _ _ _ _ _ _ _ _ _ _ kB kF kX kN kT kf kk kd ku fun v h' tk' n' hR F N => by
    obtain ⟨rfl, t', rfl⟩ := hR
    exact done _ _ _ F N
end
section
theorem kes_canLay : ∀ {ns : List Str}, (∀ x ∈ ns, PyData.strOk x = true) → PyData.canLayAll0 (ns.map PyData.str) = true
  | [], _ => rfl
  | a :: r, h => by simp [PyData.canLayAll0, PyData.canLay0, kes_canLay fun x hx => h x (.tail _ hx), h a (.head _)]
theorem kes_depth : ∀ ns : List Str, PyData.depthAll (ns.map PyData.str) = 0
  | [] => rfl
  | _ :: r => by simp [PyData.depthAll, PyData.depth, kes_depth r]
theorem kes_shaped {ns : List Str} (h : ∀ x ∈ ns, PyData.strOk x = true) : SeqAt.shaped (.list (ns.map PyData.str)) = true := by
  simp [SeqAt.shaped, PyData.canLay0, PyData.depth, kes_canLay h, kes_depth]
theorem kes_sameAll : ∀ ns ms : List Str, PySem.Spec.sameAll (ns.map PyData.str) (ms.map PyData.str) = decide (ns = ms)
  | [], [] => by simp [PySem.Spec.sameAll]
  | [], _ :: _ => by simp [PySem.Spec.sameAll]
  | _ :: _, [] => by simp [PySem.Spec.sameAll]
  | a :: r, b :: t => by
    simp only [List.map_cons, PySem.Spec.sameAll, PyProof.V.same_str, kes_sameAll r t]
    by_cases h : a = b <;> by_cases h' : r = t <;> simp [h, h']
theorem kes_same (ns ms : List Str) : PySem.Spec.same (.list (ns.map PyData.str)) (.list (ms.map PyData.str)) = decide (ns = ms) := by
  simp only [PySem.Spec.same]; exact kes_sameAll ns ms
theorem kes_carried {vs : List Value} {ns : List Str} (h : StrsAre vs ns) : PyProof.Rows.CarriedAll vs (ns.map PyData.str) := by
  induction h with
  | nil => exact .nil
  | cons y t _ ih => exact .cons (.str y t) ih
section
variable {prog : Program} {w : World} {A : Around} {E : Value → Shared → Prop} {s : Shared} {a b : Addr} {xs ys : List Value} {ns ms : List Str} {Q : Value → Shared → Prop}
theorem ke_ne_strs (ha : s.heap.IsList a xs.toArray) (hb : s.heap.IsList b ys.toArray) (hi : StrsAre xs ns) (hj : StrsAre ys ms) (hu : A.units + 64 < cLine) (on : ∀ x ∈ ns, PyData.strOk x = true) (om : ∀ x ∈ ms, PyData.strOk x = true) (h : Q (.bool (!decide (ns = ms))) s) :
    wpAny (model prog w) A (compareOp .NotEq (.ref a) (.ref b)) Q E s :=
  ne_dataH_same (reads_newData ha (kes_carried hi)) (reads_newData hb (kes_carried hj)) (kes_shaped on) (kes_shaped om) hu (SeqAt.noMix_of_shape (.list .str) rfl _ _ (list_map_has fun _ => rfl) (list_map_has fun _ => rfl)) (by rw [kes_same]; exact h)
theorem ne_strs_t (ha : s.heap.IsList a xs.toArray) (hb : s.heap.IsList b ys.toArray) (hi : StrsAre xs ns) (hj : StrsAre ys ms) (hu : A.units + 64 < cLine) (on : ∀ x ∈ ns, PyData.strOk x = true) (om : ∀ x ∈ ms, PyData.strOk x = true) (hn : ns ≠ ms) (h : Q (.bool true) s) :
    wpAny (model prog w) A (compareOp .NotEq (.ref a) (.ref b)) Q E s := ke_ne_strs ha hb hi hj hu on om (by rw [decide_eq_false hn]; exact h)
theorem ne_strs_f (ha : s.heap.IsList a xs.toArray) (hb : s.heap.IsList b ys.toArray) (hi : StrsAre xs ns) (hj : StrsAre ys ns) (hu : A.units + 64 < cLine) (on : ∀ x ∈ ns, PyData.strOk x = true) (h : Q (.bool false) s) :
    wpAny (model prog w) A (compareOp .NotEq (.ref a) (.ref b)) Q E s := ke_ne_strs ha hb hi hj hu on on (by rw [decide_eq_true rfl]; exact h)
end
end
section
open ZTurnd
example : True := by
  k_with "!readr" => (guard_expr onTurnd =~ onTurnd; (first | walk_at "SUB" | (intro a'k ha'k; simp only [List.map_cons, List.mem_cons] at *; grind)))
  k_with "!reord" => (guard_expr onTurnd =~ onTurnd; (first | walk_at "SUB" | (intro q'k hq'k; simp only [List.mem_cons] at *; grind)))
  trivial
structure NeA (c : Addr) (l : List Addr) : Prop where
  no : c ∉ l
theorem NeA.to {c : Addr} {l : List Addr} {l' : List (Addr × Obj)} (h : NeA c l) (hs : ∀ a ∈ l'.map (·.1), a ∈ l) : NeAll c l' :=
  ⟨fun _ hp e => h.no (e ▸ hs _ (List.mem_map_of_mem hp))⟩
noncomputable abbrev addrs (L I P W D : Addr) (news : List (Addr × Obj)) : List Addr := I :: P :: W :: D :: (L + 1 + 1 + 1 + 1 + 1) :: (L + 1 + 1 + 1 + 1) :: (L + 1 + 1 + 1) :: (L + 1 + 1) :: (L + 1) :: news.map (·.1)
structure TurnNe (L I P W D : Addr) (news : List (Addr × Obj)) : Prop where
  nI : NeA I (P :: W :: D :: (L + 1 + 1 + 1 + 1 + 1) :: (L + 1 + 1 + 1 + 1) :: (L + 1 + 1 + 1) :: (L + 1 + 1) :: (L + 1) :: news.map (·.1))
  nP : NeA P (I :: W :: D :: (L + 1 + 1 + 1 + 1 + 1) :: (L + 1 + 1 + 1 + 1) :: (L + 1 + 1 + 1) :: (L + 1 + 1) :: (L + 1) :: news.map (·.1))
  nD : NeA D (I :: P :: W :: (L + 1 + 1 + 1 + 1 + 1) :: (L + 1 + 1 + 1 + 1) :: (L + 1 + 1 + 1) :: (L + 1 + 1) :: (L + 1) :: news.map (·.1))
  n5 : NeA (L + 1 + 1 + 1 + 1 + 1) (I :: P :: W :: D :: (L + 1 + 1 + 1 + 1) :: (L + 1 + 1 + 1) :: (L + 1 + 1) :: (L + 1) :: news.map (·.1))
  n4 : NeA (L + 1 + 1 + 1 + 1) (I :: P :: W :: D :: (L + 1 + 1 + 1 + 1 + 1) :: (L + 1 + 1 + 1) :: (L + 1 + 1) :: (L + 1) :: news.map (·.1))
  n3 : NeA (L + 1 + 1 + 1) (I :: P :: W :: D :: (L + 1 + 1 + 1 + 1 + 1) :: (L + 1 + 1 + 1 + 1) :: (L + 1 + 1) :: (L + 1) :: news.map (·.1))
theorem turn_new {L I P W D l : Addr} {news : List (Addr × Obj)} (h : I < l ∧ P < l ∧ W < l ∧ D < l ∧ L + 1 + 1 + 1 + 1 + 1 < l ∧ L + 1 + 1 + 1 + 1 < l ∧ L + 1 + 1 + 1 < l ∧ L + 1 + 1 < l ∧ L + 1 < l ∧ AllLt l news) : NeA l (addrs L I P W D news) := by
 walk_at "ST"
 case oTag =>
  obtain ⟨a1, a2, a3, a4, a5, a6, a7, a8, a9, hn⟩ := h
  have hn := allLt_mem _ hn
  refine ⟨fun hm => ?_⟩
  simp only [List.mem_cons, List.mem_map] at hm
  have ir : ∀ x : Addr, x < l → l ≠ x := fun x hx e => Nat.lt_irrefl _ (e ▸ hx : x < x)
  rcases hm with e | e | e | e | e | e | e | e | e | ⟨q, hq, e⟩
  · exact ir _ a1 e
  · exact ir _ a2 e
  · exact ir _ a3 e
  · exact ir _ a4 e
  · exact ir _ a5 e
  · exact ir _ a6 e
  · exact ir _ a7 e
  · exact ir _ a8 e
  · exact ir _ a9 e
  · exact ir _ (hn q hq) e.symm
 walk_at "EN"
theorem NeA.join {c l : Addr} {as : List Addr} (h : NeA c as) (e : c ≠ l) : NeA c (l :: as) := ⟨fun hm => by
  rcases List.mem_cons.mp hm with q | q
  · exact e q
  · exact h.no q⟩
theorem strs_nm {vs : List Value} {ss : List Str} (h : StrsAre vs ss) (b : Nat) (x : Str) (t : Tok) : StrsAre (nmS b (.str x t) vs) (nmS b x ss) := by
  unfold nmS
  split
  · induction h with
    | nil => exact .cons _ _ .nil
    | cons s t _ ih => exact .cons _ _ ih
  · exact h
theorem named_strs (sh : Int) (b0 b1 b2 : Nat) (q0 q1 q2 : Tok) : StrsAre (nmS b2 (Value.str (flagW (sh + 2)) q2) (nmS b1 (.str (flagW (sh + 1)) q1) (nmS b0 (.str (flagW sh) q0) []))) (namedW sh b0 b1 b2) := by
  exact strs_nm (strs_nm (strs_nm StrsAre.nil _ _ _) _ _ _) _ _ _
theorem join_small {x : Str} (h : x.length ≤ 200) : x.length + 2 ≤ sizeLine := by rw [sizeLine_eq]; omega
noncomputable def aM (Nd Td : Addr) (lk : Int) (u : Tok) (mx : Str → Option Value) : Str → Option Value := fun y =>
  if y = Str.ofString "named" then some (.ref Nd) else if y = Str.ofString "told" then some (.ref Td) else if y = Str.ofString "lacking" then some (.int lk u) else mx y
theorem aM_end {h₀ h : Heap} {L : Addr} {m' : Str → Option Value} {fr la tu fed lk : Int} {t1 t2 t4 t5 u : Tok} {W P Nd Td : Addr} (F : Fr h₀ L h m')
    (e1 : m' (Str.ofString "turn") = some (.int tu t4)) (e2 : m' (Str.ofString "fed") = some (.int fed t5)) (e3 : m' (Str.ofString "words") = some (.ref W)) (e4 : m' (Str.ofString "passed") = some (.ref P))
    (e5 : m' (Str.ofString "fed_row") = some (.int fr t1)) (e6 : m' (Str.ofString "last") = some (.int la t2))
    (e7 : m' (Str.ofString "named") = some (.ref Nd)) (e8 : m' (Str.ofString "told") = some (.ref Td)) (e9 : m' (Str.ofString "lacking") = some (.int lk u)) : Fr h₀ L h (pM fr la tu fed t1 t2 t4 t5 W P (aM Nd Td lk u m')) := by
 walk_at "ST"
 case oTag =>
  have : m' = pM fr la tu fed t1 t2 t4 t5 W P (aM Nd Td lk u m') := by
    funext y
    unfold pM aM
    repeat (split; (next q => rw [q]; assumption))
    rfl
  exact this ▸ F
 walk_at "EN"
noncomputable abbrev led2 (L I P W D : Addr) (io : Obj) (ps ws vs : List Value) (kp kw k : Nat) (o5 o4 o3 o2 o1 : Obj) (news : List (Addr × Obj)) : List (Addr × Obj) :=
  (I, io) :: (P, plainO ps kp) :: (W, plainO ws kw) :: (D, plainO vs k) :: (L + 1 + 1 + 1 + 1 + 1, o5) :: (L + 1 + 1 + 1 + 1, o4) :: (L + 1 + 1 + 1, o3) :: (L + 1 + 1, o2) :: (L + 1, o1) :: news
theorem to_led0 {h₀ h : Heap} {L I P W D l : Addr} {io o5 o4 o3 o2 o1 : Obj} {ps ws vs : List Value} {kp kw k : Nat} {news : List (Addr × Obj)} (N : News h₀ L h ((l, PySem.W.listOf #[] 0) :: led2 L I P W D io ps ws vs kp kw k o5 o4 o3 o2 o1 news)) :
    News h₀ L h (led0 L W D l [] ws vs 0 kw k o3 o2 o1 ((I, io) :: (P, plainO ps kp) :: (L + 1 + 1 + 1 + 1 + 1, o5) :: (L + 1 + 1 + 1 + 1, o4) :: news)) := by
  have N : News h₀ L h ((l, plainO [] 0) :: led2 L I P W D io ps ws vs kp kw k o5 o4 o3 o2 o1 news) := N
  intro q hq
  refine N q ?_
  clear N
  first | (revert q hq; walk_at "SUB") | (simp only [List.mem_cons] at hq ⊢; grind)
theorem from_led0 {h₀ h : Heap} {L I P W D l Td : Addr} {g : Addr × Obj} {io o5 o4 o3 o2 o1 : Obj} {ps ws vs nv tv : List Value} {kn kp kw k : Nat} {news : List (Addr × Obj)}
    (N : News h₀ L h (g :: (Td, PySem.W.listOf tv.toArray 0) :: led0 L W D l nv ws vs kn kw k o3 o2 o1 ((I, io) :: (P, plainO ps kp) :: (L + 1 + 1 + 1 + 1 + 1, o5) :: (L + 1 + 1 + 1 + 1, o4) :: news))) :
    News h₀ L h ((Td, plainO tv 0) :: (l, plainO nv kn) :: led2 L I P W D io ps ws vs kp kw k o5 o4 o3 o2 o1 news) := by
  have N : News h₀ L h (g :: (Td, plainO tv 0) :: led0 L W D l nv ws vs kn kw k o3 o2 o1 ((I, io) :: (P, plainO ps kp) :: (L + 1 + 1 + 1 + 1 + 1, o5) :: (L + 1 + 1 + 1 + 1, o4) :: news)) := N
  intro q hq
  refine N q ?_
  clear N
  first | (revert q hq; walk_at "SUB") | (simp only [List.mem_cons] at hq ⊢; grind)
theorem NeA.of_lt {c : Addr} {l : List (Addr × Obj)} {as : List Addr} (h : ∀ p ∈ l, @LT.lt Nat _ p.1 c) (hs : ∀ a ∈ as, a ∈ l.map (·.1)) : NeA c as := ⟨fun hm => by
  obtain ⟨q, hq, e⟩ := List.mem_map.mp (hs c hm)
  exact Nat.lt_irrefl _ (e ▸ h q hq)⟩
theorem led0_new {L I P W D l Td : Addr} {io o5 o4 o3 o2 o1 : Obj} {ps ws vs nv : List Value} {kn kp kw k : Nat} {news : List (Addr × Obj)}
    (h : ∀ p ∈ led0 L W D l nv ws vs kn kw k o3 o2 o1 ((I, io) :: (P, plainO ps kp) :: (L + 1 + 1 + 1 + 1 + 1, o5) :: (L + 1 + 1 + 1 + 1, o4) :: news), @LT.lt Nat _ p.1 Td) : NeA Td (l :: addrs L I P W D news) :=
  NeA.of_lt h (by
    intro a ha
    first | (revert a ha; walk_at "SUB") | (simp only [List.map_cons, List.mem_cons] at ha ⊢; grind))
theorem flagW_ok : ((List.range 32).all fun (i : Nat) => PyData.strOk (flagW (i : Int))) = true := by decide +kernel
theorem flagW_ok' {i : Int} (h0 : 0 ≤ i) (h1 : i < 32) : PyData.strOk (flagW i) = true := by
  have := List.all_eq_true.mp flagW_ok i.toNat (List.mem_range.mpr (by omega))
  rwa [Int.toNat_of_nonneg h0] at this
theorem nmS_all {P : Str → Prop} {b : Nat} {x : Str} {ns : List Str} (hx : P x) (h : ∀ y ∈ ns, P y) : ∀ y ∈ nmS b x ns, P y := by
  intro y hy
  unfold nmS at hy
  split at hy
  · rcases List.mem_append.mp hy with hy | hy
    · exact h y hy
    · rw [List.mem_singleton.mp hy]; exact hx
  · exact h y hy
theorem named_ok {sh : Int} (h0 : 0 ≤ sh) (h1 : sh < 30) (b0 b1 b2 : Nat) : ∀ x ∈ namedW sh b0 b1 b2, PyData.strOk x = true :=
  nmS_all (P := fun x => PyData.strOk x = true) (flagW_ok' (by omega) (by omega)) (nmS_all (P := fun x => PyData.strOk x = true) (flagW_ok' (by omega) (by omega)) (nmS_all (P := fun x => PyData.strOk x = true) (flagW_ok' h0 (by omega)) (fun _ h => nomatch h)))
theorem nil_ok : ∀ x ∈ ([] : List Str), PyData.strOk x = true := fun _ h => nomatch h
end
section
open ZL ZTurn
example : True := by
  k_with "!readr" => (guard_expr onTurn =~ onTurn; (first | walk_at "SUB" | (intro a'k ha'k; simp only [List.map_cons, List.mem_cons] at *; grind)))
  k_with "!reord" => (guard_expr onTurn =~ onTurn; (first | walk_at "SUB" | (intro q'k hq'k; simp only [List.mem_cons] at *; grind)))
  k_with "!MY NE" => (guard_expr onTurn =~ onTurn; first | (refine' ne_r ?hh_89 ?hm_89; (case hh_89 => assumption); (case hm_89 => k_mem)) | (refine' ne_l ?hh_89 ?hm_89; (case hh_89 => assumption); (case hm_89 => k_mem)) | (refine neN ?_; (try dsimp only); omega))
  k_with "!MY ALL" => (guard_expr onTurn =~ onTurn; assumption)
  k_with "!exec" => (guard_expr onTurn =~ onTurn; (k_here; (with_reducible show wpAny _ _ (exec (Stmt.For _ _ _ _ _) _) _ _ _); refine Stop.mk ?_))
  k_with "!MY CALLED" => (guard_expr onTurn =~ onTurn; ((case kB => assumption); (case kF => assumption); (case kX => assumption); (case kN => assumption); (case kT => assumption); (case kf => exact rfl); (case kk => exact rfl); (case kd => (show _ < recursionLimit; (try dsimp only); omega)); (case ku => (show _ < cLine; (try dsimp only); omega)); k_whole))
  k_with "!call ref" => (guard_expr onTurn =~ onTurn; (k_here; (with_reducible show wpAny _ _ (call (Value.ref 56) [_]) _ _ _); k_dflt (refine' pretty_call ?kB ?kF ?kX ?kN ?kT ?kf ?kk ?kd ?ku ?hF_93 ?hlt_93 ?_; walk_at "MY CALLED"; (case hF_93 => exact rfl); (case hlt_93 => assumption); intro hq''k tq''k tn''k F''k N''k)))
  k_with "!call builtin:str.split" => (guard_expr onTurn =~ onTurn; (k_here; (with_reducible show wpAny _ _ (call (Value.builtin "str.split") [Value.str (Txt.join _ (outW _)) _, Value.str _ _]) _ _ _); k_dflt (refine' KSpl.split1 ?k1_94 ?k2_94 ?k3_94 ?_ ?k4_94; (case k1_94 => assumption); (case k2_94 => assumption); (case k3_94 => decide); (case k4_94 => exact join_small (by assumption)); k_whole; intro D''k l'k hh''k kk''k hl'k hS'k F''k N''k hlt''k; rw [hl'k, ‹Txt.split _ _ = _›] at hS'k; clear hl'k)))
  k_with "!compareOp NotEq ref ref" => (guard_expr onTurn =~ onTurn; (k_here; (with_reducible show wpAny _ _ (compareOp CmpOp.NotEq (Value.ref _) (Value.ref _)) _ _ _); first | k_dflt (refine' ne_strs_t (ms := []) (ys := []) ?a_95 ?b_95 ?i_95 StrsAre.nil ?u_95 ?on_95 nil_ok ?hn_95 ?_; (case a_95 => exact ⟨_, News.get (by k_asm) (by k_mem), rfl, _, rfl⟩); (case b_95 => exact ⟨_, News.get (by k_asm) (by k_mem), rfl, 0, rfl⟩); (case i_95 => assumption); (case hn_95 => assumption); (case on_95 => assumption); (case u_95 => (show _ + 64 < cLine; (try dsimp only); omega)); k_whole) | k_dflt (refine' ne_strs_f ?a_95 ?b_95 ?i_95 ?j_95 ?u_95 ?on_95 ?_; (case a_95 => exact ⟨_, News.get (by k_asm) (by k_mem), rfl, _, rfl⟩); (case b_95 => exact ⟨_, News.get (by k_asm) (by k_mem), rfl, _, rfl⟩); (case i_95 => assumption); (case j_95 => first | assumption | exact .cons _ _ .nil); (case on_95 => first | assumption | decide +kernel); (case u_95 => (show _ + 64 < cLine; (try dsimp only); omega)); k_whole)))
  k_with "!execs cons" => (guard_expr onTurn =~ onTurn; (k_here; (with_reducible show wpAny _ _ (execs (Stmt.If (Expr.Compare _ _ [Expr.List _ _] _) _ _ _ :: _) _) _ _ _); refine Stop.mk ?_))
  trivial
section
variable {w : World} {dp un : Nat} {gd : Option (List Code)} {outer : List Env} {A₀ : Around} {base : Heap} {E : Value → Shared → Prop} {s : Shared} {Q : Flow → Shared → Prop} {h₀ : Heap} {L D W P I : Addr} {mx mg mb : Str → Option Value} {mean : ExcName → Option Value} {news : List (Addr × Obj)} {o1 o2 o3 o4 o5 io : Obj} {vs ws ps : List Value} {k kw kp : Nat}
  {fr la tu fed sh : Int} {t1 t2 t4 t5 u1 u2 ts x1 x2 x3 : Tok} {y0 y1 y2 : Str} {p0 p1 p2 : Tok} {px : Pos} {b0 b1 b2 : Nat} {q0 q1 q2 : Tok} {v3 v4 v5 : Option Value}
theorem turn_a (B : Below A₀ base outer h₀) (X : (KK w.params).In h₀) (T : Top qq LOOSE mean mg mb h₀) (F : Fr h₀ L s.heap (pM fr la tu fed t1 t2 t4 t5 W P mx))
    (N : News h₀ L s.heap (led2 L I P W D io ps ws vs kp kw k o5 o4 o3 o2 o1 news)) (hdp : dp + 25 < recursionLimit) (hun : un + 100 < cLine)
    (hE : PassesOwn (model PW w) (AT dp un gd (pEnv L) outer) (pEnv L) E) (d5 : o5.data = .cell v5) (d4 : o4.data = .cell v4) (d3 : o3.data = .cell v3) (d2 : o2.data = .cell (some (.int sh ts))) (d1 : o1.data = .cell (some (.ref D)))
    (hsh0 : 0 ≤ sh) (hsh1 : sh < 30) (v0 : vs[0]? = some (.str y0 p0)) (v1 : vs[1]? = some (.str y1 p1)) (v2 : vs[2]? = some (.str y2 p2)) (hb0 : RowIs y0 b0) (hb1 : RowIs y1 b1) (hb2 : RowIs y2 b2)
    (hw0 : ws[0]? = some (.str (flagW sh) q0)) (hw1 : ws[1]? = some (.str (flagW (sh + 1)) q1)) (hw2 : ws[2]? = some (.str (flagW (sh + 2)) q2)) (hnw : namedW sh b0 b1 b2 ≠ []) (hTN : TurnNe L I P W D news)
    (next : ∀ h' tk' mx' Nd Td nv tv kn' oc' tp' t4' u', Fr h₀ L h' (pM fr la (tu + 1) fed t1 t2 t4' t5 W P (aM Nd Td (lkS b2 (lkS b1 (lkS b0 0))) u' mx')) → oc'.data = .cell (some (.int 2 tp')) →
      News h₀ L h' ((Td, plainO tv 0) :: (Nd, plainO nv kn') :: led2 L I P W D io ps ws vs kp kw k o5 o4 oc' o2 o1 news) → StrsAre nv (namedW sh b0 b1 b2) → StrsAre tv (namedW sh b0 b1 b2) → NeA Td (Nd :: addrs L I P W D news) → NeA Nd (addrs L I P W D news) →
      wpAny (model PW w) (AT dp un gd (pEnv L) outer) (execs ((forBody playFor).drop 7) (pEnv L)) Q E { s with heap := h', toks := tk' }) :
    wpAny (model PW w) (AT dp un gd (pEnv L) outer) (execs (forBody playFor) (pEnv L)) Q E s := by
 walk_at "ST"
 case oTag =>
  unfold pEnv
  with_unfolding_all show wpAny _ _ (execs [_, _, _, _, _, _, _, _, _, _, _] _) _ _ _
  unfold pM at F
  k_steps
  unfold Stop
  rename (I < _ ∧ _) => hll
  have hnl := turn_new hll
  obtain ⟨Fn, hF, hlt, hsp, hjl⟩ := flags_plain hsh0 hsh1 hb0.le hb1.le hb2.le
  have hnS := named_strs sh b0 b1 b2 q0 q1 q2
  have hok := named_ok hsh0 hsh1 b0 b1 b2
  rw [if_neg hnw] at hsp
  generalize namedW sh b0 b1 b2 = nw at hsp hnS hnw hok next
  with_unfolding_all refine' inner_for (sh := sh) (W := W) (D := D) (ws := ws) (vs := vs) (kw := kw) (k := k) (oc := o3) (os := o2) (or := o1) (rest := (I, io) :: (P, plainO ps kp) :: (L + 1 + 1 + 1 + 1 + 1, o5) :: (L + 1 + 1 + 1 + 1, o4) :: news) rfl X T (iM_end ‹Fr _ _ _ _› rfl rfl rfl rfl rfl rfl rfl rfl rfl) ?N ?hE d3 d2 d1 hsh0 hsh1 v0 v1 v2 hb0 hb1 hb2 ?hne ?hc3 hw0 hw1 hw2 ?dn
  case N => exact to_led0 ‹News _ _ _ (_ :: led2 _ _ _ _ _ _ _ _ _ _ _ _ _ _ _ _ _ _)›
  case hE => passes_own
  case hne => exact hnl.to (by walk_at "readr")
  case hc3 => exact (hTN.n3.join (fun e => Nat.lt_irrefl _ (e ▸ hll.2.2.2.2.2.2.1))).to (by walk_at "readr")
  intro h' tk' mx' u1' u2' kn' oc' tp' F' dc' N'
  rw [show flS sh 2 b2 (flS sh 1 b1 (flS sh 0 b0 0)) = (Fn : Int) from hF] at F'
  generalize nmS b2 (Value.str (flagW (sh + 2)) q2) (nmS b1 (.str (flagW (sh + 1)) q1) (nmS b0 (.str (flagW sh) q0) [])) = nv at N' hnS
  generalize lkS b2 (lkS b1 (lkS b0 0)) = lk at F' next
  clear hF
  unfold pM iM at F'
  k_steps
  unfold Stop
  rename (∀ p : Addr × Obj, p ∈ led0 _ _ _ _ _ _ _ _ _ _ _ _ _ _ → p.1 < _) => hlt9
  have hnT := led0_new hlt9
  rename StrsAre (strValues _) nw => hST
  rename News _ _ _ _ => hNN
  rename Fr _ _ _ _ => hFF
  with_unfolding_all refine next _ _ _ _ _ _ _ kn' _ _ _ _ (aM_end hFF rfl rfl rfl rfl rfl rfl rfl rfl rfl) dc' (from_led0 hNN) hnS hST hnT hnl
 walk_at "EN"
end
end
section
open ZL ZTurn0
example : True := by
  k_with "!readr" => (guard_expr onTurn0 =~ onTurn0; (first | walk_at "SUB" | (intro a'k ha'k; simp only [List.map_cons, List.mem_cons] at *; grind)))
  k_with "!reord" => (guard_expr onTurn0 =~ onTurn0; (first | walk_at "SUB" | (intro q'k hq'k; simp only [List.mem_cons] at *; grind)))
  k_with "!MY NE" => (guard_expr onTurn0 =~ onTurn0; first | (refine' ne_r ?hh_99 ?hm_99; (case hh_99 => assumption); (case hm_99 => k_mem)) | (refine' ne_l ?hh_99 ?hm_99; (case hh_99 => assumption); (case hm_99 => k_mem)) | (refine neN ?_; (try dsimp only); omega))
  k_with "!MY ALL" => (guard_expr onTurn0 =~ onTurn0; assumption)
  k_with "!exec" => (guard_expr onTurn0 =~ onTurn0; (k_here; (with_reducible show wpAny _ _ (exec (Stmt.For _ _ _ _ _) _) _ _ _); refine Stop.mk ?_))
  k_with "!MY CALLED" => (guard_expr onTurn0 =~ onTurn0; ((case kB => assumption); (case kF => assumption); (case kX => assumption); (case kN => assumption); (case kT => assumption); (case kf => exact rfl); (case kk => exact rfl); (case kd => (show _ < recursionLimit; (try dsimp only); omega)); (case ku => (show _ < cLine; (try dsimp only); omega)); k_whole))
  k_with "!call ref" => (guard_expr onTurn0 =~ onTurn0; (k_here; (with_reducible show wpAny _ _ (call (Value.ref 56) [_]) _ _ _); k_dflt (refine' pretty_call ?kB ?kF ?kX ?kN ?kT ?kf ?kk ?kd ?ku ?hF_103 ?hlt_103 ?_; walk_at "MY CALLED"; (case hF_103 => exact rfl); (case hlt_103 => assumption); intro hq''k tq''k tn''k F''k N''k)))
  k_with "!call builtin:str.split" => (guard_expr onTurn0 =~ onTurn0; (k_here; (with_reducible show wpAny _ _ (call (Value.builtin "str.split") [Value.str (Txt.join _ (outW _)) _, Value.str _ _]) _ _ _); k_dflt (refine' KSpl.split1 ?k1_104 ?k2_104 ?k3_104 ?_ ?k4_104; (case k1_104 => assumption); (case k2_104 => assumption); (case k3_104 => decide); (case k4_104 => exact join_small (by assumption)); k_whole; intro D''k l'k hh''k kk''k hl'k hS'k F''k N''k hlt''k; rw [hl'k, ‹Txt.split _ _ = _›] at hS'k; clear hl'k)))
  k_with "!compareOp NotEq ref ref" => (guard_expr onTurn0 =~ onTurn0; (k_here; (with_reducible show wpAny _ _ (compareOp CmpOp.NotEq (Value.ref _) (Value.ref _)) _ _ _); first | k_dflt (refine' ne_strs_t (ms := []) (ys := []) ?a_105 ?b_105 ?i_105 StrsAre.nil ?u_105 ?on_105 nil_ok ?hn_105 ?_; (case a_105 => exact ⟨_, News.get (by k_asm) (by k_mem), rfl, _, rfl⟩); (case b_105 => exact ⟨_, News.get (by k_asm) (by k_mem), rfl, 0, rfl⟩); (case i_105 => assumption); (case hn_105 => assumption); (case on_105 => assumption); (case u_105 => (show _ + 64 < cLine; (try dsimp only); omega)); k_whole) | k_dflt (refine' ne_strs_f ?a_105 ?b_105 ?i_105 ?j_105 ?u_105 ?on_105 ?_; (case a_105 => exact ⟨_, News.get (by k_asm) (by k_mem), rfl, _, rfl⟩); (case b_105 => exact ⟨_, News.get (by k_asm) (by k_mem), rfl, _, rfl⟩); (case i_105 => assumption); (case j_105 => first | assumption | exact .cons _ _ .nil); (case on_105 => first | assumption | decide +kernel); (case u_105 => (show _ + 64 < cLine; (try dsimp only); omega)); k_whole)))
  k_with "!execs cons" => (guard_expr onTurn0 =~ onTurn0; (k_here; (with_reducible show wpAny _ _ (execs (Stmt.If (Expr.Compare _ _ [Expr.List _ _] _) _ _ _ :: _) _) _ _ _); refine Stop.mk ?_))
  trivial
section
variable {w : World} {dp un : Nat} {gd : Option (List Code)} {outer : List Env} {A₀ : Around} {base : Heap} {E : Value → Shared → Prop} {s : Shared} {Q : Flow → Shared → Prop} {h₀ : Heap} {L D W P I : Addr} {mx mg mb : Str → Option Value} {mean : ExcName → Option Value} {news : List (Addr × Obj)} {o1 o2 o3 o4 o5 io : Obj} {vs ws ps : List Value} {k kw kp : Nat}
  {fr la tu fed sh : Int} {t1 t2 t4 t5 u1 u2 ts x1 x2 x3 : Tok} {y0 y1 y2 : Str} {p0 p1 p2 : Tok} {px : Pos} {b0 b1 b2 : Nat} {q0 q1 q2 : Tok} {v3 v4 v5 : Option Value}
theorem turn_a0 (B : Below A₀ base outer h₀) (X : (KK w.params).In h₀) (T : Top qq LOOSE mean mg mb h₀) (F : Fr h₀ L s.heap (pM fr la tu fed t1 t2 t4 t5 W P mx))
    (N : News h₀ L s.heap (led2 L I P W D io ps ws vs kp kw k o5 o4 o3 o2 o1 news)) (hdp : dp + 25 < recursionLimit) (hun : un + 100 < cLine)
    (hE : PassesOwn (model PW w) (AT dp un gd (pEnv L) outer) (pEnv L) E) (d5 : o5.data = .cell v5) (d4 : o4.data = .cell v4) (d3 : o3.data = .cell v3) (d2 : o2.data = .cell (some (.int sh ts))) (d1 : o1.data = .cell (some (.ref D)))
    (hsh0 : 0 ≤ sh) (hsh1 : sh < 30) (v0 : vs[0]? = some (.str y0 p0)) (v1 : vs[1]? = some (.str y1 p1)) (v2 : vs[2]? = some (.str y2 p2)) (hb0 : RowIs y0 b0) (hb1 : RowIs y1 b1) (hb2 : RowIs y2 b2)
    (hw0 : ws[0]? = some (.str (flagW sh) q0)) (hw1 : ws[1]? = some (.str (flagW (sh + 1)) q1)) (hw2 : ws[2]? = some (.str (flagW (sh + 2)) q2)) (hnw : namedW sh b0 b1 b2 = []) (hTN : TurnNe L I P W D news)
    (next : ∀ h' tk' mx' Nd Td nv tv kn' oc' tp' t4' u', Fr h₀ L h' (pM fr la (tu + 1) fed t1 t2 t4' t5 W P (aM Nd Td (lkS b2 (lkS b1 (lkS b0 0))) u' mx')) → oc'.data = .cell (some (.int 2 tp')) →
      News h₀ L h' ((Td, plainO tv 0) :: (Nd, plainO nv kn') :: led2 L I P W D io ps ws vs kp kw k o5 o4 oc' o2 o1 news) → StrsAre nv (namedW sh b0 b1 b2) → True → NeA Td (Nd :: addrs L I P W D news) → NeA Nd (addrs L I P W D news) →
      wpAny (model PW w) (AT dp un gd (pEnv L) outer) (execs ((forBody playFor).drop 7) (pEnv L)) Q E { s with heap := h', toks := tk' }) :
    wpAny (model PW w) (AT dp un gd (pEnv L) outer) (execs (forBody playFor) (pEnv L)) Q E s := by
 walk_at "ST"
 case oTag =>
  unfold pEnv
  with_unfolding_all show wpAny _ _ (execs [_, _, _, _, _, _, _, _, _, _, _] _) _ _ _
  unfold pM at F
  k_steps
  unfold Stop
  rename (I < _ ∧ _) => hll
  have hnl := turn_new hll
  obtain ⟨Fn, hF, hlt, hsp, hjl⟩ := flags_plain hsh0 hsh1 hb0.le hb1.le hb2.le
  have hnS := named_strs sh b0 b1 b2 q0 q1 q2
  have hok := named_ok hsh0 hsh1 b0 b1 b2
  rw [if_pos hnw] at hsp
  rw [hnw] at hnS
  have hnil : StrsAre [] [] := .nil
  have hok := nil_ok
  rw [hnw] at next
  with_unfolding_all refine' inner_for (sh := sh) (W := W) (D := D) (ws := ws) (vs := vs) (kw := kw) (k := k) (oc := o3) (os := o2) (or := o1) (rest := (I, io) :: (P, plainO ps kp) :: (L + 1 + 1 + 1 + 1 + 1, o5) :: (L + 1 + 1 + 1 + 1, o4) :: news) rfl X T (iM_end ‹Fr _ _ _ _› rfl rfl rfl rfl rfl rfl rfl rfl rfl) ?N ?hE d3 d2 d1 hsh0 hsh1 v0 v1 v2 hb0 hb1 hb2 ?hne ?hc3 hw0 hw1 hw2 ?dn
  case N => exact to_led0 ‹News _ _ _ (_ :: led2 _ _ _ _ _ _ _ _ _ _ _ _ _ _ _ _ _ _)›
  case hE => passes_own
  case hne => exact hnl.to (by walk_at "readr")
  case hc3 => exact (hTN.n3.join (fun e => Nat.lt_irrefl _ (e ▸ hll.2.2.2.2.2.2.1))).to (by walk_at "readr")
  intro h' tk' mx' u1' u2' kn' oc' tp' F' dc' N'
  rw [show flS sh 2 b2 (flS sh 1 b1 (flS sh 0 b0 0)) = (Fn : Int) from hF] at F'
  generalize nmS b2 (Value.str (flagW (sh + 2)) q2) (nmS b1 (.str (flagW (sh + 1)) q1) (nmS b0 (.str (flagW sh) q0) [])) = nv at N' hnS
  generalize lkS b2 (lkS b1 (lkS b0 0)) = lk at F' next
  clear hF
  unfold pM iM at F'
  k_steps
  unfold Stop
  rename (∀ p : Addr × Obj, p ∈ led0 _ _ _ _ _ _ _ _ _ _ _ _ _ _ → p.1 < _) => hlt9
  have hnT := led0_new hlt9
  have hST := trivial
  rename News _ _ _ _ => hNN
  rename Fr _ _ _ _ => hFF
  with_unfolding_all refine next _ _ _ _ _ _ _ kn' _ _ _ _ (aM_end hFF rfl rfl rfl rfl rfl rfl rfl rfl rfl) dc' (from_led0 fun p hp => hNN p (.tail _ hp)) hnS hST hnT hnl
 walk_at "EN"
end
end
section
theorem strs_at {vs : List Value} {ys : List Str} (h : StrsAre vs ys) : ∀ j (hj : j < vs.length), ∃ t, ∃ hj' : j < ys.length, vs[j] = .str ys[j] t := by
  induction h with
  | nil => intro j hj; simp at hj
  | cons y t _ ih =>
    intro j hj
    cases j with
    | zero => exact ⟨t, by simp, rfl⟩
    | succ j =>
      obtain ⟨u, hj', e⟩ := ih j (by simpa using hj)
      exact ⟨u, by simpa using hj', by simpa using e⟩
theorem index_list_strs {w : World} {A : Around} {E : Value → Shared → Prop} {s : Shared} {l : Addr} {vs : List Value} {ys : List Str} {k : Str} {t : Tok} {j : Nat} {Q : Value → Shared → Prop} (hl : s.heap.IsList l vs.toArray) (hi : StrsAre vs ys)
    (hj : ys[j]? = some k) (hno : ∀ m, m < j → ys[m]? ≠ some k) (hz : ys.length ≤ 1000) (h : ∀ t tk, Q (.int (j : Nat) t) { s with toks := tk }) :
    wpAny (model PW w) A (call (.builtin "list.index") [.ref l, .str k t]) Q E s := by
 walk_at "ST"
 case oTag =>
  obtain ⟨⟨cls, dd, data, sl⟩, ho, hc, n, hd⟩ := id hl
  simp only at hc hd
  subst hc hd
  have hlen := hi.length
  obtain ⟨hj1, hj2⟩ := List.getElem?_eq_some_iff.mp hj
  have at' : ∀ i (hi' : i < vs.length) (hy : i < ys.length), isStrOf k vs[i] = (ys[i] == k) := by
    intro i hi' hy
    obtain ⟨u, _, e⟩ := strs_at hi i hi'
    rw [e]; rfl
  refine call_meets PySem.F.slot_list_index ⟨_, ho, rfl⟩ PySem.F.entry_list_index (PySem.F.args_list_index_2 _ _)
    (PySem.SeqAt.list_indexAt l vs.toArray n dd sl (.str k t) (isStrOf k) j (by simpa [hlen] using hj1) (by omega) ?_ ?_) ⟨ho, fun y hy => (eq_isStrOf k t hi y (by simpa using hy)).at _ _, h _ _⟩
  · show isStrOf k vs[j] = true
    rw [at' j (by omega) hj1, hj2]
    exact beq_self_eq_true k
  · intro i hjs hlt
    show isStrOf k vs[i] = false
    rw [at' i (by simpa using hjs) (by omega)]
    have := hno i hlt
    rw [List.getElem?_eq_getElem (by omega)] at this
    exact beq_false_of_ne fun e => this (by rw [e])
 walk_at "EN"
theorem flagW_ne : ((List.range 32).all fun (i : Nat) => (List.range 32).all fun (j : Nat) => decide (flagW (i : Int) = flagW (j : Int)) == decide (i = j)) = true := by decide +kernel
theorem flagW_inj {i j : Int} (h0 : 0 ≤ i) (h1 : i < 32) (h2 : 0 ≤ j) (h3 : j < 32) (e : flagW i = flagW j) : i = j := by
  have := List.all_eq_true.mp (List.all_eq_true.mp flagW_ne i.toNat (List.mem_range.mpr (by omega))) j.toNat (List.mem_range.mpr (by omega))
  rw [Int.toNat_of_nonneg h0, Int.toNat_of_nonneg h2, decide_eq_true e] at this
  have := of_decide_eq_true (beq_iff_eq.mp this).symm
  omega
end
section
theorem pick_told {w : World} {A : Around} {E : Value → Shared → Prop} {s : Shared} {env : Env} {Q : Value → Shared → Prop} {h₀ : Heap} {m : Str → Option Value} {Td : Addr} {tv : List Value} {nw : List Str} {wp : Str} {la : Int} {t2 : Tok} {p1 p2 p3 p4 p5 p6 p7 p8 p9 pa pb : Pos}
    (F : Fr h₀ env.locals s.heap m) (hk : env.scope.kind = .function) (k1 : env.kindOf (Str.ofString "last") = some .local) (k2 : env.kindOf (Str.ofString "told") = some .local)
    (e1 : m (Str.ofString "last") = some (.int la t2)) (e2 : m (Str.ofString "told") = some (.ref Td)) (hl : s.heap.IsList Td tv.toArray) (hi : StrsAre tv nw)
    (hpick : if la = 1 then nw.getLast? = some wp else nw.head? = some wp) (hz : nw.length ≤ 1000) (h : ∀ t tk, Q (.str wp t) { s with toks := tk }) :
    wpAny (model PW w) A (eval (.IfExp (.Compare (.Name (Str.ofString "last") p1) [.Eq] [.Constant (.int 1) 0 p2] p3) (.Subscript (.Name (Str.ofString "told") p4) (.UnaryOp .USub (.Constant (.int 1) 0 p5) p6) p7) (.Subscript (.Name (Str.ofString "told") p8) (.Constant (.int 0) 0 p9) pa) pb) env) Q E s := by
 walk_at "ST"
 case oTag =>
  have l1 : ∀ {pos : Pos} {Q' E' : Value → Shared → Prop} {s' : Shared}, s'.heap = s.heap → Q' (.int la t2) s' → wpAny (model PW w) A (eval (.Name (Str.ofString "last") pos) env) Q' E' s' :=
    fun e h => wpAny_Name (wpAny_loadName_local hk k1 (e ▸ F.ns) e1 h) (by decide)
  have l2 : ∀ {pos : Pos} {Q' E' : Value → Shared → Prop} {s' : Shared}, s'.heap = s.heap → Q' (.ref Td) s' → wpAny (model PW w) A (eval (.Name (Str.ofString "told") pos) env) Q' E' s' :=
    fun e h => wpAny_Name (wpAny_loadName_local hk k2 (e ▸ F.ns) e2 h) (by decide)
  have hlen := hi.length
  refine wpAny_IfExp (wpAny_isTrue_Compare1 (l1 rfl (wpAny_Constant_int (eq_int (wpAny_truthy_bool ?_)))))
  by_cases hla : la = 1
  · rw [if_pos hla] at hpick
    rw [if_pos (by simpa using hla)]
    obtain ⟨t, ht⟩ : ∃ t, tv[tv.length - 1]? = some (.str wp t) := by
      rw [List.getLast?_eq_getElem?] at hpick
      obtain ⟨a, b⟩ := List.getElem?_eq_some_iff.mp hpick
      obtain ⟨t, a', e⟩ := strs_at hi (tv.length - 1) (by omega)
      refine ⟨t, ?_⟩
      rw [List.getElem?_eq_getElem (by omega), e]
      congr 2
      rw [← b]
      congr 1
      omega
    have hpos : 1 ≤ tv.length := by
      cases tv with
      | nil => simp at ht
      | cons => simp
    refine Subscript_ (l2 rfl (wpAny_UnaryOp (wpAny_Constant_int (neg_int ?_))))
    refine tail_any hl.typeIs slot_list_getitem.lookup (wpAny_getItem_list_neg hl (by decide) (by simp; omega) (by decide) ?_ (h t _)) (by with_unfolding_all rfl)
    rw [show ((-1 : Int) + (tv.toArray.size : Int)).toNat = tv.length - 1 by simp; omega]
    simpa using ht
  · rw [if_neg hla] at hpick
    rw [if_neg (by simpa using hla)]
    obtain ⟨t, ht⟩ : ∃ t, tv[0]? = some (.str wp t) := by
      rw [List.head?_eq_getElem?] at hpick
      obtain ⟨a, b⟩ := List.getElem?_eq_some_iff.mp hpick
      obtain ⟨t, a', e⟩ := strs_at hi 0 (by omega)
      refine ⟨t, ?_⟩
      rw [List.getElem?_eq_getElem (by omega), e, ← b]
    refine Subscript_ (l2 rfl (wpAny_Constant_int ?_))
    exact tail_any hl.typeIs slot_list_getitem.lookup (wpAny_getItem_list hl (by decide) (by decide) (by simpa using ht) (h t _)) (by with_unfolding_all rfl)
 walk_at "EN"
noncomputable def movP (a b c : Int) (v : Value) : Bool := match v with
  | .int k _ => [a, b, c].any (· == k)
  | _ => false
noncomputable def movL (a b c : Int) : List Int := [0, 1, 2, 3, 4].filter fun k => [a, b, c].any (· == k)
theorem ints_filterM {a b c : Int} {vs : List Value} {ns : List Int} (h : IntsAre vs ns) : IntsAre (vs.filter (movP a b c)) (ns.filter fun k => [a, b, c].any (· == k)) := by
  induction h with
  | nil => exact .nil
  | cons n t _ ih =>
    rw [List.filter_cons, List.filter_cons]
    show IntsAre (if ([a, b, c].any (· == n)) = true then _ else _) _
    split
    · exact .cons n t ih
    · exact ih
theorem moved_comp {w : World} {A : Around} {E : Value → Shared → Prop} {s : Shared} {env : Env} {h₀ : Heap} {m : Str → Option Value} {news : List (Addr × Obj)} {scope : Scope} {cl : List (Str × Addr)} {dst : Option Str} {Q : Value → Shared → Prop}
    {p1 p2 p3 p4 p5 p6 p7 : Pos} {r : Addr} {t u v t1 t2 t3 : Tok} {ro o1 o2 o3 : Obj} {c1 c2 c3 : Addr} {a b c : Int}
    (hh : A.handled = none) (F : Fr h₀ env.locals s.heap m) (N : News h₀ env.locals s.heap news) (hr : s.heap.get? r = some ro)
    (hro : ro = { cls := .type "range", dict := none, data := .fields #[.int 0 t, .int 5 u, .int 1 v], slots := #[] })
    (hk : (relabel scope env).kind = .function) (hx : ∀ C, (compEnvC scope cl C env).kindOf (Str.ofString "other") = some .local)
    (hy1 : ∀ C, (compEnvC scope cl C env).kindOf (Str.ofString "place") = some .cell) (hy2 : ∀ C, (compEnvC scope cl C env).kindOf (Str.ofString "one") = some .cell) (hy3 : ∀ C, (compEnvC scope cl C env).kindOf (Str.ofString "two") = some .cell)
    (hc1 : cl.lookup (Str.ofString "place") = some c1) (hm1 : (c1, o1) ∈ news) (hd1 : o1.data = .cell (some (.int a t1)))
    (hc2 : cl.lookup (Str.ofString "one") = some c2) (hm2 : (c2, o2) ∈ news) (hd2 : o2.data = .cell (some (.int b t2)))
    (hc3 : cl.lookup (Str.ofString "two") = some c3) (hm3 : (c3, o3) ∈ news) (hd3 : o3.data = .cell (some (.int c t3)))
    (done : ∀ D h' tk ys n, Fr h₀ env.locals h' (match dst with | some y => fun z => if z = y then some (.ref D) else m z | none => m) → News h₀ env.locals h' ((D, plainO ys n) :: news) → (∀ q ∈ news, @Ne Nat q.1 D) →
      IntsAre ys (movL a b c) → Q (.ref D) { s with heap := h', toks := tk }) :
    CompAt PW w A env scope cl (Str.ofString "other") [.Compare (.Name (Str.ofString "other") p1) [.In] [.List [.Name (Str.ofString "place") p2, .Name (Str.ofString "one") p3, .Name (Str.ofString "two") p4] p5] p6]
      (.Name (Str.ofString "other") p7) dst Q E (.ref r) s := by
 walk_at "ST"
 case oTag =>
  refine compAt_range hh F N hr hro (by decide +kernel) 5 (by decide) (by decide +kernel) (movP a b c) (fun v y => v = y) ?_ ?_ ?_
  · intro C k t' s₃ m₃ E' h0 h1 hns hx' F' N'
    have l1 : ∀ {pos : Pos} {Q' : Value → Shared → Prop} {s' : Shared}, s'.heap = s₃.heap → Q' (.int k t') s' → wpAny (model PW w) A (eval (.Name (Str.ofString "other") pos) (compEnvC scope cl C env)) Q' E' s' :=
      fun e h => wpAny_Name (wpAny_loadName_local hk (hx C) (e ▸ hns) hx' h) (by decide)
    have l2 : ∀ {pos : Pos} {Q' : Value → Shared → Prop} {s' : Shared}, s'.heap = s₃.heap → Q' (.int a t1) s' → wpAny (model PW w) A (eval (.Name (Str.ofString "place") pos) (compEnvC scope cl C env)) Q' E' s' :=
      fun e h => wpAny_Name (wpAny_loadName_cell hk (hy1 C) hc1 ⟨o1, e ▸ N'.get hm1, hd1⟩ h) (by decide)
    have l3 : ∀ {pos : Pos} {Q' : Value → Shared → Prop} {s' : Shared}, s'.heap = s₃.heap → Q' (.int b t2) s' → wpAny (model PW w) A (eval (.Name (Str.ofString "one") pos) (compEnvC scope cl C env)) Q' E' s' :=
      fun e h => wpAny_Name (wpAny_loadName_cell hk (hy2 C) hc2 ⟨o2, e ▸ N'.get hm2, hd2⟩ h) (by decide)
    have l4 : ∀ {pos : Pos} {Q' : Value → Shared → Prop} {s' : Shared}, s'.heap = s₃.heap → Q' (.int c t3) s' → wpAny (model PW w) A (eval (.Name (Str.ofString "two") pos) (compEnvC scope cl C env)) Q' E' s' :=
      fun e h => wpAny_Name (wpAny_loadName_cell hk (hy3 C) hc3 ⟨o3, e ▸ N'.get hm3, hd3⟩ h) (by decide)
    simp only [List.forIn_cons, List.forIn_nil, if_true]
    refine wpAny_bind (wpAny_bind (wpAny_isTrue_Compare1 (l1 rfl (List_ (spliced_more (l2 rfl (spliced_more (l3 rfl (spliced_more (l4 rfl (spliced_none (wpAny_newList ?_ (by show (3 : Nat) ≤ sizeLine; rw [sizeLine_eq]; decide)))))))))))))
    have hl : (s₃.heap.push { cls := .type "list", data := .seq [Value.int a t1, .int b t2, .int c t3].toArray }).IsList s₃.heap.objs.size [Value.int a t1, .int b t2, .int c t3].toArray := ⟨_, Heap.get?_push_size _ rfl, rfl, _, rfl⟩
    refine in_list_ints hl (.cons _ _ (.cons _ _ (.cons _ _ .nil))) (wpAny_truthy_bool (wpAny_pure (wpAny_pure ⟨rfl, _, _, rfl, fun _ _ e => Heap.get?_push_of_some _ e⟩)))
  · intro C k t' s₃ m₃ E' h0 h1 hp hns hx' F' N'
    exact wpAny_Name (wpAny_loadName_local hk (hx C) hns hx' ⟨rfl, _, _, rfl, fun _ _ e => e⟩) (by decide)
  · intro D h' tk ys n vs F' N' ne hi hp
    refine done D h' tk ys n F' N' ne ?_
    have e : vs.filter (movP a b c) = ys := by
      clear hi F' N' done ne
      generalize vs.filter (movP a b c) = zs at hp
      induction hp with
      | nil => rfl
      | cons h _ ih => rw [h, ih]
    rw [← e]
    exact ints_filterM hi
 walk_at "EN"
theorem letters_call {w : World} {mean : ExcName → Option Value} {mg mb : Str → Option Value} {dp un : Nat} {gd : Option (List Code)} {env0 : Env} {outer : List Env} {A₀ : Around} {base h₀ : Heap} {L : Addr} {m : Str → Option Value} {s : Shared} {Q E : Value → Shared → Prop} {news : List (Addr × Obj)} {x : Str} {t : Tok} {n l1 l2 l3 : Nat} {a b c : Int}
    (kB : Below A₀ base outer h₀) (kF : Fr h₀ L s.heap m) (kX : (KK w.params).In h₀) (kN : News h₀ L s.heap news) (kT : Top qq LOOSE mean mg mb h₀) (kf : env0.frame = some L) (kk : env0.scope.kind = .function) (kd : dp + 20 < recursionLimit) (ku : un + 80 < cLine)
    (hx : toL x = List.replicate n 46 ++ [l1, l2, l3]) (hn : n ≤ 100) (h1 : isLetter l1 = true) (h2 : isLetter l2 = true) (h3 : isLetter l3 = true) (e1 : (ixL l1 : Int) = a) (e2 : (ixL l2 : Int) = b) (e3 : (ixL l3 : Int) = c)
    (done : ∀ h' tk' D k t1 t2 t3, Fr h₀ L h' m → News h₀ L h' ((D, plainO [.int a t1, .int b t2, .int c t3] k) :: news) → (∀ p ∈ news, @LT.lt Nat _ p.1 D) → Q (.ref D) { s with heap := h', toks := tk' }) :
    wpAny (model PW w) (AT dp un gd env0 outer) (call (.ref 189) [.str x t]) Q E s :=
  letters_spec w x t n l1 l2 l3 news hx hn h1 h2 h3 _ _ _ _ _ _ _ _ _ _ _ _ _ _ _ _ kB kF kX kN kT kf kk kd ku fun v h' tk' n' hR F N => by
    obtain ⟨D, k, t1, t2, t3, rfl, rfl, hlt⟩ := hR
    subst e1 e2 e3
    exact done _ _ _ _ _ _ _ F N hlt
theorem veil_call {w : World} {mean : ExcName → Option Value} {mg mb : Str → Option Value} {dp un : Nat} {gd : Option (List Code)} {env0 : Env} {outer : List Env} {A₀ : Around} {base h₀ : Heap} {L : Addr} {m : Str → Option Value} {s : Shared} {Q E : Value → Shared → Prop} {news : List (Addr × Obj)} {i : Int} {t : Tok}
    (kB : Below A₀ base outer h₀) (kF : Fr h₀ L s.heap m) (kX : (KK w.params).In h₀) (kN : News h₀ L s.heap news) (kT : Top qq LOOSE mean mg mb h₀) (kf : env0.frame = some L) (kk : env0.scope.kind = .function) (kd : dp + 10 < recursionLimit) (ku : un + 60 < cLine)
    (done : ∀ h' tk' t', Fr h₀ L h' m → News h₀ L h' news → Q (.str ⟨#[veilC i]⟩ t') { s with heap := h', toks := tk' }) :
    wpAny (model PW w) (AT dp un gd env0 outer) (call (.ref 156) [.int i t]) Q E s :=
  veil_spec w i t news _ _ _ _ _ _ _ _ _ _ _ _ _ _ _ _ kB kF kX kN kT kf kk kd ku fun v h' tk' n' hR F N => by
    obtain ⟨rfl, t', rfl⟩ := hR
    exact done _ _ _ F N
theorem neA_r {d c : Addr} {as : List Addr} (h : NeA d as) (hm : c ∈ as) : d ≠ c := fun e => h.no (e ▸ hm)
theorem neA_l {d c : Addr} {as : List Addr} (h : NeA d as) (hm : c ∈ as) : c ≠ d := fun e => h.no (e ▸ hm)
theorem neLt_r {d c : Addr} {o : Obj} {l : List (Addr × Obj)} (h : ∀ p ∈ l, @LT.lt Nat _ p.1 d) (hm : (c, o) ∈ l) : d ≠ c := fun e => Nat.lt_irrefl _ (e ▸ h _ hm : @LT.lt Nat _ c c)
theorem neLt_l {d c : Addr} {o : Obj} {l : List (Addr × Obj)} (h : ∀ p ∈ l, @LT.lt Nat _ p.1 d) (hm : (c, o) ∈ l) : c ≠ d := fun e => Nat.lt_irrefl _ (e ▸ h _ hm : @LT.lt Nat _ c c)
theorem NeA.news {c : Addr} {as : List Addr} {news : List (Addr × Obj)} (h : NeA c as) (hs : ∀ a ∈ news.map (·.1), a ∈ as) : ∀ p ∈ news, p.1 ≠ c := fun _ hp e => h.no (e ▸ hs _ (List.mem_map_of_mem hp))
theorem turn_mut {L I P W D Td Nd : Addr} {news : List (Addr × Obj)} (h : TurnNe L I P W D news) (hT : NeA Td (Nd :: addrs L I P W D news)) (hN : NeA Nd (addrs L I P W D news)) :
    NeA P (Td :: Nd :: I :: W :: D :: (L + 1 + 1 + 1 + 1 + 1) :: (L + 1 + 1 + 1 + 1) :: (L + 1 + 1 + 1) :: (L + 1 + 1) :: (L + 1) :: news.map (·.1)) ∧
    NeA D (Td :: Nd :: I :: P :: W :: (L + 1 + 1 + 1 + 1 + 1) :: (L + 1 + 1 + 1 + 1) :: (L + 1 + 1 + 1) :: (L + 1 + 1) :: (L + 1) :: news.map (·.1)) ∧
    NeA (L + 1 + 1 + 1 + 1 + 1) (Td :: Nd :: I :: P :: W :: D :: (L + 1 + 1 + 1 + 1) :: (L + 1 + 1 + 1) :: (L + 1 + 1) :: (L + 1) :: news.map (·.1)) ∧
    NeA (L + 1 + 1 + 1 + 1) (Td :: Nd :: I :: P :: W :: D :: (L + 1 + 1 + 1 + 1 + 1) :: (L + 1 + 1 + 1) :: (L + 1 + 1) :: (L + 1) :: news.map (·.1)) ∧
    NeA (L + 1 + 1 + 1) (Td :: Nd :: I :: P :: W :: D :: (L + 1 + 1 + 1 + 1 + 1) :: (L + 1 + 1 + 1 + 1) :: (L + 1 + 1) :: (L + 1) :: news.map (·.1)) := by
  obtain ⟨hI, hP, hD, h5, h4, h3⟩ := h
  have mT : ∀ a, a ∈ addrs L I P W D news → a ≠ Td := fun a ha e => hT.no (by rw [← e]; exact .tail _ ha)
  have mN : ∀ a, a ∈ addrs L I P W D news → a ≠ Nd := fun a ha e => hN.no (by rw [← e]; exact ha)
  refine ⟨(hP.join (mN _ ?_)).join (mT _ ?_) |> fun z => ⟨fun q => z.no q⟩, (hD.join (mN _ ?_)).join (mT _ ?_), (h5.join (mN _ ?_)).join (mT _ ?_), (h4.join (mN _ ?_)).join (mT _ ?_), (h3.join (mN _ ?_)).join (mT _ ?_)⟩ <;>
    repeat (first | exact .head _ | refine .tail _ ?_)
end
section
theorem set_N {w : World} {A : Around} {E : Value → Shared → Prop} {s : Shared} {h₀ : Heap} {L D : Addr} {m : Str → Option Value} {news : List (Addr × Obj)} {ys : List Value} {n : Nat} {k : Int} {t : Tok} {v : Value} {g : Obj → List (Addr × Obj)} {Q : Unit → Shared → Prop}
    (F : Fr h₀ L s.heap m) (N : News h₀ L s.heap news) (U : UpdF D (plainO ys n) news g) (h0 : 0 ≤ k) (hk : k < (ys.length : Int)) (hz : k < 2 ^ 63)
    (h : ∀ h', Fr h₀ L h' m → News h₀ L h' (g (plainO (ys.set k.toNat v) n)) → Q () { s with heap := h' }) : wpAny (model PW w) A (setItem (.ref D) (.int k t) v) Q E s := by
 walk_at "ST"
 case oTag =>
  obtain ⟨pre, post, e1, e2, d1, d2⟩ := U.split
  have hI : (D, plainO ys n) ∈ news := by rw [e1]; exact List.mem_append_right _ (.head _)
  have z := N _ hI
  refine ki_setAt z.1 h0 hz (by simpa using hk) (h _ (F.change (Heap.SameBut.update ..) z.2.1 z.2.2) ?_)
  rw [e2]
  rw [e1] at N
  refine news_set N d1 d2 (Heap.SameBut.update ..) ?_
  rw [Heap.get?_update_self _ z.1 rfl]
  simp [plainO, Obj.mapSeq]
 walk_at "EN"
theorem ne_same {w : World} {A : Around} {E : Value → Shared → Prop} {s : Shared} {a : Int} {t u : Tok} {Q : Value → Shared → Prop} (h : Q (.bool false) s) : wpAny (model PW w) A (compareOp .NotEq (.int a t) (.int a u)) Q E s :=
  PyProof.Rows.ne_int (by rw [bne_self_eq_false]; exact h)
noncomputable def bM (M : Addr) (mx : Str → Option Value) : Str → Option Value := fun y => if y = Str.ofString "moved" then some (.ref M) else mx y
theorem bM_end {h₀ h : Heap} {L : Addr} {m' : Str → Option Value} {fr la tu fed : Int} {t1 t2 t4 t5 : Tok} {W P M : Addr} (F : Fr h₀ L h m')
    (e1 : m' (Str.ofString "turn") = some (.int tu t4)) (e2 : m' (Str.ofString "fed") = some (.int fed t5)) (e3 : m' (Str.ofString "words") = some (.ref W)) (e4 : m' (Str.ofString "passed") = some (.ref P))
    (e5 : m' (Str.ofString "fed_row") = some (.int fr t1)) (e6 : m' (Str.ofString "last") = some (.int la t2)) (e7 : m' (Str.ofString "moved") = some (.ref M)) : Fr h₀ L h (pM fr la tu fed t1 t2 t4 t5 W P (bM M m')) := by
 walk_at "ST"
 case oTag =>
  have : m' = pM fr la tu fed t1 t2 t4 t5 W P (bM M m') := by
    funext y
    unfold pM bM
    repeat (split; (next q => rw [q]; assumption))
    rfl
  exact this ▸ F
 walk_at "EN"
theorem NeAll.toA {c : Addr} {l : List (Addr × Obj)} {as : List Addr} (h : NeAll c l) (hs : ∀ a ∈ as, a ∈ l.map (·.1)) : NeA c as := ⟨fun hm => by
  obtain ⟨q, hq, e⟩ := List.mem_map.mp (hs c hm)
  exact h.all q hq e⟩
theorem from_b {h₀ h : Heap} {L I P W D Td Nd Lt l M : Addr} {io o5 o4 o3 o2 o1 ol oo od oe : Obj} {ms ps ws vs : List Value} {km kp kw k : Nat} {news : List (Addr × Obj)}
    (N : News h₀ L h ((M, plainO ms km) :: (Lt, ol) :: (l, oo) :: (Td, od) :: (Nd, oe) :: led2 L I P W D io ps ws vs kp kw k o5 o4 o3 o2 o1 news)) : News h₀ L h ((M, plainO ms km) :: led2 L I P W D io ps ws vs kp kw k o5 o4 o3 o2 o1 news) := fun q hq => N q (by
  rcases List.mem_cons.mp hq with rfl | hq
  · exact .head _
  · exact .tail _ (.tail _ (.tail _ (.tail _ (.tail _ hq)))))
theorem from_b3 {h₀ h : Heap} {L I P W D M : Addr} {io o5 o4 o3 o2 o1 : Obj} {ms ws vs : List Value} {km kp kw k pl : Nat} {news : List (Addr × Obj)} (hp : pl < 3) {pa pb pc z : Int} {y1 y2 y3 t : Tok}
    (N : News h₀ L h ((M, plainO ms km) :: led2 L I P W D io ([Value.int pa y1, .int pb y2, .int pc y3].set pl (.int z t)) ws vs kp kw k o5 o4 o3 o2 o1 news)) :
    ∃ qa qb qc z1 z2 z3, News h₀ L h ((M, plainO ms km) :: led2 L I P W D io [.int qa z1, .int qb z2, .int qc z3] ws vs kp kw k o5 o4 o3 o2 o1 news) ∧ [qa, qb, qc] = [pa, pb, pc].set pl z := by
  have c : pl = 0 ∨ pl = 1 ∨ pl = 2 := by omega
  rcases c with rfl | rfl | rfl
  · exact ⟨z, pb, pc, t, y2, y3, N, rfl⟩
  · exact ⟨pa, z, pc, y1, t, y3, N, rfl⟩
  · exact ⟨pa, pb, z, y1, y2, t, N, rfl⟩
theorem new_b {L I P W D Td Nd Lt l M : Addr} {io o5 o4 o3 o2 o1 ol oo od oe : Obj} {ps ws vs : List Value} {kp kw k : Nat} {news : List (Addr × Obj)}
    (h : NeAll M ((Lt, ol) :: (l, oo) :: (Td, od) :: (Nd, oe) :: led2 L I P W D io ps ws vs kp kw k o5 o4 o3 o2 o1 news)) : NeA M (addrs L I P W D news) := h.toA fun a ha => by
  first | (revert a ha; walk_at "SUB") | (simp only [List.map_cons, List.mem_cons] at ha ⊢; grind)
end
section
open ZL ZC ZTurnb
example : True := by
  k_with "!k_inA" => (guard_expr onTurnb =~ onTurnb; (repeat (first | exact .head _ | refine .tail _ ?_)))
  k_with "!MY NE" => (guard_expr onTurnb =~ onTurnb; first | (refine' neA_r ?hh_108 ?hm_108; (case hh_108 => assumption); (case hm_108 => walk_at "k_inA"; done)) | (refine' neA_l ?hh_108 ?hm_108; (case hh_108 => assumption); (case hm_108 => walk_at "k_inA"; done)) | (refine' neLt_r ?hh_108 ?hm_108; (case hh_108 => assumption); (case hm_108 => k_mem)) | (refine' neLt_l ?hh_108 ?hm_108; (case hh_108 => assumption); (case hm_108 => k_mem)) | (refine' ne_r ?hh_108 ?hm_108; (case hh_108 => assumption); (case hm_108 => k_mem)) | (refine' ne_l ?hh_108 ?hm_108; (case hh_108 => assumption); (case hm_108 => k_mem)) | (refine neN ?_; (try dsimp only); omega))
  k_with "!MY ALL" => (guard_expr onTurnb =~ onTurnb; first | assumption | exact NeAll.all (by assumption))
  k_with "!readr" => (guard_expr onTurnb =~ onTurnb; (first | walk_at "SUB" | (intro a'k ha'k; simp only [List.map_cons, List.mem_cons] at *; grind)))
  k_with "!reord" => (guard_expr onTurnb =~ onTurnb; (first | walk_at "SUB" | (intro q'k hq'k; simp only [List.mem_cons] at *; grind)))
  k_with "!compareOp NotEq ref ref" => (guard_expr onTurnb =~ onTurnb; (k_here; (with_reducible show wpAny _ _ (compareOp CmpOp.NotEq (Value.ref _) (Value.ref _)) _ _ _); k_dflt (refine' ne_strs_t (ms := []) (ys := []) ?a_112 ?b_112 ?i_112 StrsAre.nil ?u_112 ?on_112 nil_ok ?hn_112 ?_; (case a_112 => exact ⟨_, News.get (by k_asm) (by k_mem), rfl, _, rfl⟩); (case b_112 => exact ⟨_, News.get (by k_asm) (by k_mem), rfl, 0, rfl⟩); (case i_112 => assumption); (case hn_112 => assumption); (case on_112 => assumption); (case u_112 => (show _ + 64 < cLine; (try dsimp only); omega)); k_whole)))
  k_with "!MY CALLED" => (guard_expr onTurnb =~ onTurnb; ((case kB => assumption); (case kF => assumption); (case kX => assumption); (case kN => assumption); (case kT => assumption); (case kf => exact rfl); (case kk => exact rfl); (case kd => (show _ < recursionLimit; (try dsimp only); omega)); (case ku => (show _ < cLine; (try dsimp only); omega)); k_whole))
  k_with "!call ref" => (guard_expr onTurnb =~ onTurnb; (k_here; (with_reducible show wpAny _ _ (call (Value.ref 156) [_]) _ _ _); k_dflt (refine' veil_call ?kB ?kF ?kX ?kN ?kT ?kf ?kk ?kd ?ku ?_; walk_at "MY CALLED"; intro hq''k tq''k tn''k F''k N''k)))
  k_with "!call ref" => (guard_expr onTurnb =~ onTurnb; (k_here; (with_reducible show wpAny _ _ (call (Value.ref 189) [_]) _ _ _); k_dflt (refine' letters_call ?kB ?kF ?kX ?kN ?kT ?kf ?kk ?kd ?ku ?hx_115 ?hn_115 ?h1_115 ?h2_115 ?h3_115 ?e1_115 ?e2_115 ?e3_115 ?_; walk_at "MY CALLED"; (case hx_115 => assumption); (case hn_115 => assumption); (case h1_115 => assumption); (case h2_115 => assumption); (case h3_115 => assumption); (case e1_115 => assumption); (case e2_115 => assumption); (case e3_115 => assumption); intro hq''k tq''k Dq''k kq''k ta''k tb''k tc''k F''k N''k hlt''k)))
  k_with "!eval IfExp" => (guard_expr onTurnb =~ onTurnb; (k_here; k_dflt (refine' pick_told ?kF_116 ?hk_116 ?k1_116 ?k2_116 ?e1_116 ?e2_116 ?hl_116 ?hi_116 ?hp_116 ?hz_116 ?_; (case kF_116 => assumption); (case hk_116 => exact rfl); (case k1_116 => exact rfl); (case k2_116 => exact rfl); (case e1_116 => exact rfl); (case e2_116 => exact rfl); (case hl_116 => exact ⟨_, News.get (by k_asm) (by k_mem), rfl, _, rfl⟩); (case hi_116 => assumption); (case hp_116 => assumption); (case hz_116 => assumption); k_whole; intro tx'k tkx'k)))
  k_with "!call builtin:list.index" => (guard_expr onTurnb =~ onTurnb; (k_here; (with_reducible show wpAny _ _ (call (Value.builtin "list.index") [Value.ref _, Value.str _ _]) _ _ _); k_dflt (refine' index_list_strs ?hl_117 ?hi_117 ?hj_117 ?hno_117 ?hz_117 ?_; (case hl_117 => exact ⟨_, News.get (by k_asm) (by k_mem), rfl, _, rfl⟩); (case hi_117 => assumption); (case hj_117 => assumption); (case hno_117 => assumption); (case hz_117 => (show 3 ≤ 1000; decide)); k_whole; intro tx'k tkx'k)))
  k_with "!subscriptTail Name Name ref int" => (guard_expr onTurnb =~ onTurnb; (k_here; k_dflt (refine' item_at ?k1_118 ?k2_118 ?k3_118 ?k4_118 ?_; (case k1_118 => exact ⟨_, News.get (by k_asm) (by k_mem), rfl, _, rfl⟩); (case k2_118 => omega); (case k3_118 => omega); (case k4_118 => assumption); k_whole)))
  k_with "!setItem ref int" => (guard_expr onTurnb =~ onTurnb; (k_here; k_dflt (refine' set_N ?k1_119 ?k2_119 ?k3_119 ?k4_119 ?k5_119 ?k6_119 ?_; (case k1_119 => assumption); (case k2_119 => assumption); (case k3_119 => k_updF); (case k4_119 => omega); (case k5_119 => first | assumption | (simp; omega)); (case k6_119 => omega); k_whole; intro h''k F''k N''k)))
  k_with "!compareOp NotEq int int" => (guard_expr onTurnb =~ onTurnb; (k_here; (with_reducible refine ne_same ?_)))
  k_with "!CompAt" => (guard_expr onTurnb =~ onTurnb; (k_here; (with_reducible show CompAt _ _ _ _ _ _ (Str.ofString "other") _ _ _ _ _ _ _); k_dflt (refine' moved_comp ?k0_121 ?kF_121 ?kN_121 ?kr_121 ?ko_121 ?kk_121 ?kx_121 ?y1_121 ?y2_121 ?y3_121 ?c1_121 ?m1_121 ?d1_121 ?c2_121 ?m2_121 ?d2_121 ?c3_121 ?m3_121 ?d3_121 ?_; (case k0_121 => exact rfl); (case kF_121 => k_asm); (case kN_121 => k_asm); (case kr_121 => first | assumption | (exact News.get (by k_asm) (by k_mem))); (case ko_121 => exact rfl); (case kk_121 => exact rfl); (case kx_121 => exact fun _ => rfl); (case y1_121 => exact fun _ => rfl); (case y2_121 => exact fun _ => rfl); (case y3_121 => exact fun _ => rfl); (case c1_121 => exact rfl); (case m1_121 => k_mem); (case d1_121 => k_asm); (case c2_121 => exact rfl); (case m2_121 => k_mem); (case d2_121 => k_asm); (case c3_121 => exact rfl); (case m3_121 => k_mem); (case d3_121 => k_asm); k_whole; intro D''k h''k tk''k ys''k n''k F''k N''k ne''k hi''k; (have ne''k := NeAll.mk ne''k); (try dsimp only at F''k N''k); (try dsimp only))))
  k_with "!execs cons" => (guard_expr onTurnb =~ onTurnb; (k_here; (with_reducible show wpAny _ _ (execs (Stmt.Assign _ (Expr.Call (Expr.Name _ _) [Expr.ListComp _ _ _ _, _] _ _) _ :: _) _) _ _ _); refine Stop.mk ?_))
  trivial
section
variable {w : World} {dp un : Nat} {gd : Option (List Code)} {outer : List Env} {A₀ : Around} {base : Heap} {E : Value → Shared → Prop} {s : Shared} {Q : Flow → Shared → Prop} {h₀ : Heap} {L D W P I Nd Td : Addr} {mx mg mb : Str → Option Value} {mean : ExcName → Option Value} {news : List (Addr × Obj)} {o1 o2 o3 o4 o5 io : Obj} {vs ws nv tv : List Value} {k kw kp kn : Nat}
  {fr la tu fed sh lk : Int} {t1 t2 t4 t5 u ts tp : Tok} {v3 v4 v5 : Option Value} {nw : List Str} {wp y : Str} {pl n l1 l2 l3 : Nat} {ty : Tok} {f g : Int} {pa pb pc : Int} {x1 x2 x3 : Tok}
theorem turn_b (B : Below A₀ base outer h₀) (X : (KK w.params).In h₀) (T : Top qq LOOSE mean mg mb h₀) (F : Fr h₀ L s.heap (pM fr la tu fed t1 t2 t4 t5 W P (aM Nd Td lk u mx)))
    (N : News h₀ L s.heap ((Td, plainO tv 0) :: (Nd, plainO nv kn) :: led2 L I P W D io [.int pa x1, .int pb x2, .int pc x3] ws vs kp kw k o5 o4 o3 o2 o1 news)) (hdp : dp + 25 < recursionLimit) (hun : un + 100 < cLine)
    (hE : PassesOwn (model PW w) (AT dp un gd (pEnv L) outer) (pEnv L) E) (d5 : o5.data = .cell v5) (d4 : o4.data = .cell v4) (d3 : o3.data = .cell v3) (d2 : o2.data = .cell (some (.int sh ts))) (d1 : o1.data = .cell (some (.ref D)))
    (hNv : StrsAre nv nw) (hTv : StrsAre tv nw) (hnw : nw ≠ []) (hok : ∀ x ∈ nw, PyData.strOk x = true) (hzw : nw.length ≤ 1000) (hpick : if la = 1 then nw.getLast? = some wp else nw.head? = some wp)
    (hws : StrsAre ws [flagW sh, flagW (sh + 1), flagW (sh + 2)]) (hj : [flagW sh, flagW (sh + 1), flagW (sh + 2)][pl]? = some wp) (hno : ∀ m, m < pl → [flagW sh, flagW (sh + 1), flagW (sh + 2)][m]? ≠ some wp)
    (hpl : pl < 3) (hvl : ((pl : Nat) : Int) < (vs.length : Int)) (hv : vs[((pl : Nat) : Int).toNat]? = some (.str y ty)) (hy : toL y = List.replicate n 46 ++ [l1, l2, l3]) (hn : n ≤ 100) (hyl : y.length ≤ 200) (h1 : isLetter l1 = true) (h2 : isLetter l2 = true) (h3 : isLetter l3 = true)
    (e1 : (ixL l1 : Int) = (pl : Int)) (e2 : (ixL l2 : Int) = f) (e3 : (ixL l3 : Int) = g)
    (hTN : TurnNe L I P W D news) (hnT : NeA Td (Nd :: addrs L I P W D news)) (hnN : NeA Nd (addrs L I P W D news))
    (next : ∀ h' tk' mx' M ms km qa qb qc y1 y2 y3 tz o5' o4' o3', Fr h₀ L h' (pM fr la tu fed t1 t2 t4 t5 W P (bM M mx')) →
      News h₀ L h' ((M, plainO ms km) :: led2 L I P W D io [.int qa y1, .int qb y2, .int qc y3] ws (vs.set ((pl : Nat) : Int).toNat (.str (⟨#[veilC (tu + 10)]⟩ ++ ⟨#[veilC (tu + 16)]⟩ ++ Txt.slice y (some 2) none) tz)) kp kw k o5' o4' o3' o2 o1 news) →
      [qa, qb, qc] = [pa, pb, pc].set pl ([pa, pb, pc].getD pl 0 + 1) → IntsAre ms (movL pl f g) → NeA M (addrs L I P W D news) → (∃ c, o5'.data = .cell (some c)) → (∃ c, o4'.data = .cell (some c)) → (∃ c, o3'.data = .cell (some c)) →
      wpAny (model PW w) (AT dp un gd (pEnv L) outer) (execs ((forBody playFor).drop 8) (pEnv L)) Q E { s with heap := h', toks := tk' }) :
    wpAny (model PW w) (AT dp un gd (pEnv L) outer) (execs ((forBody playFor).drop 7) (pEnv L)) Q E s := by
 walk_at "ST"
 case oTag =>
  obtain ⟨mP, mD, m5, m4, m3⟩ := turn_mut hTN hnT hnN
  have wP := mP.news (news := news) fun a ha => by repeat (first | exact ha | refine .tail _ ?_)
  have wD := mD.news (news := news) fun a ha => by repeat (first | exact ha | refine .tail _ ?_)
  have w5 := m5.news (news := news) fun a ha => by repeat (first | exact ha | refine .tail _ ?_)
  have w4 := m4.news (news := news) fun a ha => by repeat (first | exact ha | refine .tail _ ?_)
  have w3 := m3.news (news := news) fun a ha => by repeat (first | exact ha | refine .tail _ ?_)
  unfold pEnv
  with_unfolding_all show wpAny _ _ (execs [_, _, _, _] _) _ _ _
  unfold pM aM at F
  k_steps
  unfold Stop
  rename NeAll _ _ => hnM
  rename IntsAre _ (movL _ _ _) => hmv
  rename News _ _ _ _ => hNN
  rename Fr _ _ _ _ => hFF
  have hnM' := new_b hnM
  have hNN' := from_b hNN
  obtain ⟨qa, qb, qc, z1, z2, z3, hN3, hq⟩ := from_b3 (pl := pl) (by assumption) hNN'
  with_unfolding_all refine next _ _ _ _ _ _ _ _ _ _ _ _ _ _ _ _ (bM_end hFF rfl rfl rfl rfl rfl rfl rfl) hN3 hq hmv hnM' ?_ ?_ ?_
  all_goals exact ⟨_, by assumption⟩
 walk_at "EN"
end
end
section
theorem ints_mem {vs : List Value} {ns : List Int} (h : IntsAre vs ns) : ∀ v ∈ vs, ∃ k t, v = .int k t ∧ k ∈ ns := by
  induction h with
  | nil => intro v hv; cases hv
  | cons k t _ ih =>
    intro v hv
    rcases List.mem_cons.mp hv with rfl | hv
    · exact ⟨_, _, rfl, .head _⟩
    · obtain ⟨a, b, e, h⟩ := ih v hv
      exact ⟨a, b, e, .tail _ h⟩
theorem strs_of_pairs {yss : List Str} {vs : List Value} {ns : List Int} (h : IntsAre vs ns) : ∀ {ys : List Value}, Paired (fun v y => ∀ k t, v = .int k t → ∃ t, y = .str (yss.getD k.toNat (Str.ofString "")) t) vs ys → StrsAre ys (ns.map fun k => yss.getD k.toNat (Str.ofString "")) := by
  induction h with
  | nil => intro ys hp; cases hp; exact .nil
  | cons k t _ ih =>
    intro ys hp
    cases hp with
    | cons a hp =>
      obtain ⟨u, rfl⟩ := a _ _ rfl
      exact .cons _ _ (ih hp)
theorem rows_comp {w : World} {A : Around} {env : Env} {E : Value → Shared → Prop} {s : Shared} {Q : Value → Shared → Prop} {h₀ : Heap} {m : Str → Option Value} {scope : Scope} {cl : List (Str × Addr)} {dst : Option Str} {M D cr : Addr} {or : Obj} {news : List (Addr × Obj)} {ms vs : List Value} {km k : Nat} {ns : List Int} {yss : List Str} {p1 p2 p3 : Pos}
    (hh : A.handled = none) (F : Fr h₀ env.locals s.heap m) (N : News h₀ env.locals s.heap news) (hM : (M, plainO ms km) ∈ news) (hms : IntsAre ms ns) (hns : ∀ k ∈ ns, 0 ≤ k ∧ k < 5) (hnl : ns.length ≤ 5)
    (hk : (relabel scope env).kind = .function) (hx : ∀ C, (compEnvC scope cl C env).kindOf (Str.ofString "other") = some .local) (hy : ∀ C, (compEnvC scope cl C env).kindOf (Str.ofString "rows") = some .cell)
    (hc1 : cl.lookup (Str.ofString "rows") = some cr) (hm1 : (cr, or) ∈ news) (hd1 : or.data = .cell (some (.ref D))) (hD : (D, plainO vs k) ∈ news) (hvs : StrsAre vs yss) (hy5 : yss.length = 5)
    (done : ∀ D' h' tk ys n, Fr h₀ env.locals h' (match dst with | some y => fun z => if z = y then some (.ref D') else m z | none => m) → News h₀ env.locals h' ((D', plainO ys n) :: news) → (∀ q ∈ news, @Ne Nat q.1 D') →
      StrsAre ys (ns.map fun k => yss.getD k.toNat (Str.ofString "")) → Q (.ref D') { s with heap := h', toks := tk }) :
    CompAt PW w A env scope cl (Str.ofString "other") [] (.Subscript (.Name (Str.ofString "rows") p1) (.Name (Str.ofString "other") p2) p3) dst Q E (.ref M) s := by
 walk_at "ST"
 case oTag =>
  have hlen := hms.length
  refine compAt_list (vs := ms) hh F N ⟨_, N.get hM, rfl, _, rfl⟩ (by rw [sizeLine_eq]; omega) (fun _ => true) (fun v y => ∀ k t, v = .int k t → ∃ t, y = .str (yss.getD k.toNat (Str.ofString "")) t) ?_ ?_ ?_
  · intro C v s₃ m₃ E' _ _ _ _ _
    simp only [List.forIn_nil]
    exact wpAny_pure ⟨rfl, _, _, rfl, fun _ _ e => e⟩
  · intro C v s₃ m₃ E' hv _ hns' hx' F' N'
    obtain ⟨j, tj, rfl, hj⟩ := ints_mem hms v hv
    obtain ⟨h0, h5⟩ := hns j hj
    have l1 : ∀ {pos : Pos} {Q' E' : Value → Shared → Prop} {s' : Shared}, s'.heap = s₃.heap → Q' (.int j tj) s' → wpAny (model PW w) A (eval (.Name (Str.ofString "other") pos) (compEnvC scope cl C env)) Q' E' s' :=
      fun e h => wpAny_Name (wpAny_loadName_local hk (hx C) (e ▸ hns') hx' h) (by decide)
    have l2 : ∀ {pos : Pos} {Q' E' : Value → Shared → Prop} {s' : Shared}, s'.heap = s₃.heap → Q' (.ref D) s' → wpAny (model PW w) A (eval (.Name (Str.ofString "rows") pos) (compEnvC scope cl C env)) Q' E' s' :=
      fun e h => wpAny_Name (wpAny_loadName_cell hk (hy C) hc1 ⟨or, e ▸ N'.get hm1, hd1⟩ h) (by decide)
    obtain ⟨t, ht⟩ := strs_get hvs j.toNat (by omega)
    have hlD : s₃.heap.IsList D vs.toArray := ⟨_, N'.get hD, rfl, _, rfl⟩
    refine wpAny_Subscript_Name (T := "list") slot_list_getitem.lookup (l2 rfl (l1 rfl ⟨hlD.typeIs, wpAny_getItem_list hlD h0 (by omega) (by simpa using ht) ⟨fun k' t' e => ?_, _, _, rfl, fun _ _ e => e⟩⟩))
    injection e with e _
    subst e
    exact ⟨_, rfl⟩
  · intro D' h' tk ys n F' N' ne hpair
    refine done D' h' tk ys n F' N' ne ?_
    have hf : ms.filter (fun _ => true) = ms := List.filter_eq_self.mpr fun _ _ => rfl
    rw [hf] at hpair
    exact strs_of_pairs hms hpair
 walk_at "EN"
theorem sent_call {w : World} {mean : ExcName → Option Value} {mg mb : Str → Option Value} {dp un : Nat} {gd : Option (List Code)} {env0 : Env} {outer : List Env} {A₀ : Around} {base h₀ : Heap} {L : Addr} {m : Str → Option Value} {s : Shared} {Q E : Value → Shared → Prop} {news : List (Addr × Obj)} {D : Addr} {vs : List Value} {k : Nat} {ys : List Str} {turn : Int} {t : Tok}
    (kB : Below A₀ base outer h₀) (kF : Fr h₀ L s.heap m) (kX : (KK w.params).In h₀) (kN : News h₀ L s.heap ((D, plainO vs k) :: news)) (kT : Top qq LOOSE mean mg mb h₀) (kf : env0.frame = some L) (kk : env0.scope.kind = .function) (kd : dp + 20 < recursionLimit) (ku : un + 80 < cLine)
    (hs : StrsAre vs ys) (hp : SentPre ys) {nn : Nat} (hnn : ys.length = nn)
    (done : ∀ h' tk' D' vs' k' ys', vs'.length = nn → Fr h₀ L h' m → News h₀ L h' ((D', plainO vs' k') :: (D, plainO vs k) :: news) → (∀ p ∈ (D, plainO vs k) :: news, @LT.lt Nat _ p.1 D') → StrsAre vs' ys' → ys'.map toL = (ys.map toL).map sentL → Q (.ref D') { s with heap := h', toks := tk' }) :
    wpAny (model PW w) (AT dp un gd env0 outer) (call (.ref 184) [.ref D, .int turn t]) Q E s :=
  sent_spec w D vs k ys turn t news hs hp _ _ _ _ _ _ _ _ _ _ _ _ _ _ _ _ kB kF kX kN kT kf kk kd ku fun v h' tk' n' hR F N => by
    obtain ⟨D', vs', k', ys', rfl, rfl, h1, h2, h3, h4⟩ := hR
    exact done _ _ _ _ _ _ (h3.length.trans ((by simpa using congrArg List.length h4 : ys'.length = ys.length).trans hnn)) F N (fun p hp => by
      rcases List.mem_cons.mp hp with rfl | hp
      · exact h1
      · exact h2 p hp) h3 h4
theorem eof_call {w : World} {mean : ExcName → Option Value} {mg mb : Str → Option Value} {dp un : Nat} {gd : Option (List Code)} {env0 : Env} {outer : List Env} {A₀ : Around} {base h₀ : Heap} {L : Addr} {m : Str → Option Value} {s : Shared} {Q E : Value → Shared → Prop} {news : List (Addr × Obj)} {i : Int} {t : Tok} {b : Bool}
    (kB : Below A₀ base outer h₀) (kF : Fr h₀ L s.heap m) (kX : (KK w.params).In h₀) (kN : News h₀ L s.heap news) (kT : Top qq LOOSE mean mg mb h₀) (kf : env0.frame = some L) (kk : env0.scope.kind = .function) (kd : dp + 10 < recursionLimit) (ku : un + 60 < cLine) (hb : (i == 0) = b)
    (done : ∀ h' tk', Fr h₀ L h' m → News h₀ L h' news → Q (.bool b) { s with heap := h', toks := tk' }) :
    wpAny (model PW w) (AT dp un gd env0 outer) (call (.ref 137) [.int i t]) Q E s :=
  eof_spec w i t news _ _ _ _ _ _ _ _ _ _ _ _ _ _ _ _ kB kF kX kN kT kf kk kd ku fun v h' tk' n' hR F N => by
    obtain ⟨rfl, rfl⟩ := hR
    rw [hb]
    exact done _ _ F N
theorem len_plain {w : World} {A : Around} {E : Value → Shared → Prop} {s : Shared} {D : Addr} {vs : List Value} {n : Nat} {Q : Value → Shared → Prop}
    (hl : s.heap.IsList D vs.toArray) (hn : vs.length = n) (h2 : n ≤ 5) (h : ∀ t tk, Q (.int (n : Int) t) { s with toks := tk }) : wpAny (model PW w) A (call (.builtin "len") [.ref D]) Q E s := by
  refine call_len_list hl (by simp only [List.size_toArray, hn]; omega) ?_
  simp only [List.size_toArray, hn]
  exact h _ _
end
section
open ZL ZTurne
example : True := by
  k_with "!k_inA" => (guard_expr onTurne =~ onTurne; (repeat (first | exact .head _ | refine .tail _ ?_)))
  k_with "!MY NE" => (guard_expr onTurne =~ onTurne; first | (refine' neA_r ?hh_124 ?hm_124; (case hh_124 => assumption); (case hm_124 => walk_at "k_inA"; done)) | (refine' neA_l ?hh_124 ?hm_124; (case hh_124 => assumption); (case hm_124 => walk_at "k_inA"; done)) | (refine' neLt_r ?hh_124 ?hm_124; (case hh_124 => assumption); (case hm_124 => k_mem)) | (refine' neLt_l ?hh_124 ?hm_124; (case hh_124 => assumption); (case hm_124 => k_mem)) | (refine neN ?_; (try dsimp only); omega))
  k_with "!MY ALL" => (guard_expr onTurne =~ onTurne; first | assumption | exact NeAll.all (by assumption))
  k_with "!compareOp NotEq ref ref" => (guard_expr onTurne =~ onTurne; (k_here; (with_reducible show wpAny _ _ (compareOp CmpOp.NotEq (Value.ref _) (Value.ref _)) _ _ _); k_dflt (refine' ne_strs_f (ns := []) ?a_126 ?b_126 ?i_126 ?j_126 ?u_126 nil_ok ?_; (case a_126 => exact ⟨_, News.get (by k_asm) (by k_mem), rfl, _, rfl⟩); (case b_126 => exact ⟨_, News.get (by k_asm) (by k_mem), rfl, _, rfl⟩); (case i_126 => assumption); (case j_126 => exact .nil); (case u_126 => (show _ + 64 < cLine; (try dsimp only); omega)); k_whole)))
  k_with "!MY CALLED" => (guard_expr onTurne =~ onTurne; ((case kB => assumption); (case kF => assumption); (case kX => assumption); (case kN => assumption); (case kT => assumption); (case kf => exact rfl); (case kk => exact rfl); (case kd => (show _ < recursionLimit; (try dsimp only); omega)); (case ku => (show _ < cLine; (try dsimp only); omega)); k_whole))
  k_with "!call ref" => (guard_expr onTurne =~ onTurne; (k_here; (with_reducible show wpAny _ _ (call (Value.ref 137) [_]) _ _ _); k_dflt (refine' eof_call ?kB ?kF ?kX ?kN ?kT ?kf ?kk ?kd ?ku ?hb_128 ?_; walk_at "MY CALLED"; (case hb_128 => assumption); intro hq''k tq''k F''k N''k)))
  k_with "!execs cons" => (guard_expr onTurne =~ onTurne; (k_here; (with_reducible show wpAny _ _ (execs (Stmt.Assign _ (Expr.Call (Expr.Name _ _) [Expr.ListComp _ _ _ _, _] _ _) _ :: _) _) _ _ _); refine Stop.mk ?_))
  trivial
theorem from_e {h₀ h : Heap} {L I P W D Td Nd l M : Addr} {io o5 o4 o3 o2 o1 oo od oe om : Obj} {ps ws vs : List Value} {kp kw k : Nat} {news : List (Addr × Obj)}
    (N : News h₀ L h ((M, om) :: (l, oo) :: (Td, od) :: (Nd, oe) :: led2 L I P W D io ps ws vs kp kw k o5 o4 o3 o2 o1 news)) : News h₀ L h ((M, om) :: led2 L I P W D io ps ws vs kp kw k o5 o4 o3 o2 o1 news) := fun q hq => N q (by
  rcases List.mem_cons.mp hq with rfl | hq
  · exact .head _
  · exact .tail _ (.tail _ (.tail _ (.tail _ hq))))
section
variable {w : World} {dp un : Nat} {gd : Option (List Code)} {outer : List Env} {A₀ : Around} {base : Heap} {E : Value → Shared → Prop} {s : Shared} {Q : Flow → Shared → Prop} {h₀ : Heap} {L D W P I Nd Td : Addr} {mx mg mb : Str → Option Value} {mean : ExcName → Option Value} {news : List (Addr × Obj)} {o1 o2 o3 o4 o5 io : Obj} {vs ws nv tv ps : List Value} {k kw kp kn : Nat}
  {fr la tu fed sh lk : Int} {t1 t2 t4 t5 u ts tp : Tok} {v3 v4 v5 : Option Value}
theorem turn_e (B : Below A₀ base outer h₀) (X : (KK w.params).In h₀) (T : Top qq LOOSE mean mg mb h₀) (F : Fr h₀ L s.heap (pM fr la tu fed t1 t2 t4 t5 W P (aM Nd Td lk u mx)))
    (N : News h₀ L s.heap ((Td, plainO tv 0) :: (Nd, plainO nv kn) :: led2 L I P W D io ps ws vs kp kw k o5 o4 o3 o2 o1 news)) (hdp : dp + 25 < recursionLimit) (hun : un + 100 < cLine)
    (d1 : o1.data = .cell (some (.ref D)))
    (hNv : StrsAre nv []) (hlk : (lk == 0) = true)
    (done : ∀ h' tk' m' R tf, Fr h₀ L h' m' → News h₀ L h' ((R, PySem.W.listOf #[.int fed tf, .ref P, .ref D] 0) :: led2 L I P W D io ps ws vs kp kw k o5 o4 o3 o2 o1 news) → Q (.ret (.ref R)) { s with heap := h', toks := tk' }) :
    wpAny (model PW w) (AT dp un gd (pEnv L) outer) (execs ((forBody playFor).drop 7) (pEnv L)) Q E s := by
 walk_at "ST"
 case oTag =>
  unfold pEnv
  with_unfolding_all show wpAny _ _ (execs [_, _, _, _] _) _ _ _
  unfold pM aM at F
  k_steps
  rename News _ _ _ _ => hNN
  exact done _ _ _ _ _ ‹Fr _ _ _ _› (from_e hNN)
 walk_at "EN"
theorem turn_f (B : Below A₀ base outer h₀) (X : (KK w.params).In h₀) (T : Top qq LOOSE mean mg mb h₀) (F : Fr h₀ L s.heap (pM fr la tu fed t1 t2 t4 t5 W P (aM Nd Td lk u mx)))
    (N : News h₀ L s.heap ((Td, plainO tv 0) :: (Nd, plainO nv kn) :: led2 L I P W D io ps ws vs kp kw k o5 o4 o3 o2 o1 news)) (hdp : dp + 25 < recursionLimit) (hun : un + 100 < cLine)
    (hNv : StrsAre nv []) (hlk : (lk == 0) = false)
    (next : ∀ h' tk' mx' M t5' tm, Fr h₀ L h' (pM fr la tu (fed + 1) t1 t2 t4 t5' W P (bM M mx')) →
      News h₀ L h' ((M, plainO [.int fr tm] 0) :: led2 L I P W D io ps ws vs kp kw k o5 o4 o3 o2 o1 news) → NeA M (addrs L I P W D news) →
      wpAny (model PW w) (AT dp un gd (pEnv L) outer) (execs ((forBody playFor).drop 8) (pEnv L)) Q E { s with heap := h', toks := tk' }) :
    wpAny (model PW w) (AT dp un gd (pEnv L) outer) (execs ((forBody playFor).drop 7) (pEnv L)) Q E s := by
 walk_at "ST"
 case oTag =>
  unfold pEnv
  with_unfolding_all show wpAny _ _ (execs [_, _, _, _] _) _ _ _
  unfold pM aM at F
  k_steps
  unfold Stop
  rename News _ _ _ _ => hNN
  rename Fr _ _ _ _ => hFF
  rename (_ < _ ∧ Td < _ ∧ _) => hll
  with_unfolding_all exact next _ _ _ _ _ _ (bM_end hFF rfl rfl rfl rfl rfl rfl rfl) (from_e hNN) (turn_new hll.2.2.2)
 walk_at "EN"
end
end
section
open ZL ZSpot
noncomputable def cM (M S : Addr) (mx : Str → Option Value) : Str → Option Value := fun y => if y = Str.ofString "moved" then some (.ref M) else if y = Str.ofString "sent" then some (.ref S) else mx y
theorem cM_end {h₀ h : Heap} {L : Addr} {m' : Str → Option Value} {fr la tu fed : Int} {t1 t2 t4 t5 : Tok} {W P M S : Addr} (F : Fr h₀ L h m')
    (e1 : m' (Str.ofString "turn") = some (.int tu t4)) (e2 : m' (Str.ofString "fed") = some (.int fed t5)) (e3 : m' (Str.ofString "words") = some (.ref W)) (e4 : m' (Str.ofString "passed") = some (.ref P))
    (e5 : m' (Str.ofString "fed_row") = some (.int fr t1)) (e6 : m' (Str.ofString "last") = some (.int la t2)) (e7 : m' (Str.ofString "moved") = some (.ref M)) (e8 : m' (Str.ofString "sent") = some (.ref S)) : Fr h₀ L h (pM fr la tu fed t1 t2 t4 t5 W P (cM M S m')) := by
 walk_at "ST"
 case oTag =>
  have : m' = pM fr la tu fed t1 t2 t4 t5 W P (cM M S m') := by
    funext y
    unfold pM cM
    repeat (split; (next q => rw [q]; assumption))
    rfl
  exact this ▸ F
 walk_at "EN"
example : True := by
  k_with "!k_inA" => (guard_expr onSpot =~ onSpot; (repeat (first | exact .head _ | refine .tail _ ?_)))
  k_with "!MY NE" => (guard_expr onSpot =~ onSpot; first | (refine' ne_r ?hh_131 ?hm_131; (case hh_131 => assumption); (case hm_131 => k_mem)) | (refine' ne_l ?hh_131 ?hm_131; (case hh_131 => assumption); (case hm_131 => k_mem)) | (refine neN ?_; (try dsimp only); omega))
  k_with "!MY ALL" => (guard_expr onSpot =~ onSpot; first | assumption | exact NeAll.all (by assumption))
  k_with "!setItem ref int" => (guard_expr onSpot =~ onSpot; (k_here; k_dflt (refine' set_N ?k1_133 ?k2_133 ?k3_133 ?k4_133 ?k5_133 ?k6_133 ?_; (case k1_133 => assumption); (case k2_133 => assumption); (case k3_133 => exact UpdF.head (NeAll.all (by assumption))); (case k4_133 => omega); (case k5_133 => first | assumption | omega); (case k6_133 => omega); k_whole; intro h''k F''k N''k)))
  k_with "!subscriptTail Name Name ref int" => (guard_expr onSpot =~ onSpot; (k_here; k_dflt (refine' item_at ?k1_134 ?k2_134 ?k3_134 ?k4_134 ?_; (case k1_134 => exact ⟨_, News.get (by k_asm) (by k_mem), rfl, _, rfl⟩); (case k2_134 => omega); (case k3_134 => omega); (case k4_134 => assumption); k_whole)))
  trivial
noncomputable abbrev led4 (L D S M : Addr) (sv ms vs : List Value) (ks km k : Nat) (o1 : Obj) (rest : List (Addr × Obj)) : List (Addr × Obj) := (D, plainO vs k) :: (S, plainO sv ks) :: (M, plainO ms km) :: (L + 1, o1) :: rest
section
variable {w : World} {A : Around} {E : Value → Shared → Prop} {s : Shared} {Q : Flow → Shared → Prop} {h₀ : Heap} {L D W P M S J : Addr} {mx mg mb : Str → Option Value} {mean : ExcName → Option Value} {rest : List (Addr × Obj)} {o1 : Obj} {vs sv ms : List Value} {k ks km : Nat}
  {fr la tu fed j q : Int} {t1 t2 t4 t5 tj tq : Tok} {v : Value} {px : Pos}
theorem spot_body (X : (KK w.params).In h₀) (T : Top qq LOOSE mean mg mb h₀) (F : Fr h₀ L s.heap (fun y => if y = Str.ofString "spot" then some (.int j tj) else pM fr la tu fed t1 t2 t4 t5 W P (cM M S mx) y))
    (N : News h₀ L s.heap (led4 L D S M sv ms vs ks km k o1 rest)) (d1 : o1.data = .cell (some (.ref D))) (hj0 : 0 ≤ j) (hj5 : j < 5) (hq : ms[j.toNat]? = some (.int q tq)) (hq0 : 0 ≤ q) (hq5 : q < 5) (hql : q < (vs.length : Int)) (hv : sv[j.toNat]? = some v)
    (hne : NeAll D ((S, plainO sv ks) :: (M, plainO ms km) :: (L + 1, o1) :: rest))
    (done : ∀ h' tk' m', Fr h₀ L h' (pM fr la tu fed t1 t2 t4 t5 W P (cM M S m')) → News h₀ L h' (led4 L D S M sv ms (vs.set q.toNat v) ks km k o1 rest) → Q .next { s with heap := h', toks := tk' }) :
    wpAny (model PW w) A (execs (forBody (turnS 10)) (pEnv L)) Q E s := by
 walk_at "ST"
 case oTag =>
  unfold pEnv
  with_unfolding_all show wpAny _ _ (execs [_] _) _ _ _
  unfold pM cM at F
  k_steps
  exact done _ _ _ (cM_end ‹Fr _ _ _ _› rfl rfl rfl rfl rfl rfl rfl rfl) ‹News _ _ _ _›
 walk_at "EN"
end
end
section
open ZSpotl
noncomputable def putN (vs : List Value) (qs : List Int) (sv : List Value) : Nat → List Value
  | 0 => vs
  | j + 1 => (putN vs qs sv j).set (qs.getD j 0).toNat (sv.getD j .none)
theorem putN_len {vs : List Value} {qs : List Int} {sv : List Value} : ∀ j, (putN vs qs sv j).length = vs.length
  | 0 => rfl
  | j + 1 => by simp [putN, putN_len j]
noncomputable abbrev tgs (px : Pos) : PySem.Expr := .Name (Str.ofString "spot") px
example : True := by
  k_with "!readr" => (guard_expr onSpotl =~ onSpotl; (first | walk_at "SUB" | (intro a'k ha'k; simp only [List.map_cons, List.mem_cons] at *; grind)))
  k_with "!pyIter ref" => (guard_expr onSpotl =~ onSpotl; (k_here; refine Stop.mk ?_))
  trivial
section
variable {w : World} {A : Around} {E : Value → Shared → Prop} {Q : Flow → Shared → Prop} {h₀ : Heap} {L D W P M S J : Addr} {mg mb : Str → Option Value} {mean : ExcName → Option Value} {rest : List (Addr × Obj)} {o1 : Obj} {vs sv ms : List Value} {k ks km : Nat}
  {fr la tu fed : Int} {t1 t2 t4 t5 : Tok} {px : Pos} {qs : List Int}
theorem spot_loop (hh : A.handled = none) (X : (KK w.params).In h₀) (T : Top qq LOOSE mean mg mb h₀) (hE : PassesOwn (model PW w) A (pEnv L) E) (d1 : o1.data = .cell (some (.ref D))) (hms : IntsAre ms qs) (hqs : ∀ q ∈ qs, 0 ≤ q ∧ q < 5) (hql : qs.length ≤ 5) (hsv : sv.length = qs.length) (hvs : vs.length = 5)
    (hJ : NeA J (D :: S :: M :: (L + 1) :: rest.map (·.1))) (hne : NeA D (S :: M :: (L + 1) :: rest.map (·.1))) (s0 : Shared)
    (done : ∀ h' tk' m', Fr h₀ L h' (pM fr la tu fed t1 t2 t4 t5 W P (cM M S m')) → News h₀ L h' (led4 L D S M sv ms (putN vs qs sv qs.length) ks km k o1 rest) → Q .next { s0 with heap := h', toks := tk' }) :
    ∀ (n j : Nat), j + n = qs.length → ∀ h tk mx, Fr h₀ L h (pM fr la tu fed t1 t2 t4 t5 W P (cM M S mx)) → News h₀ L h ((J, rIt (j : Int) ((n : Nat) : Int)) :: led4 L D S M sv ms (putN vs qs sv j) ks km k o1 rest) →
      LoopE PW w A (tgs px) (forBody (turnS 10)) [] (pEnv L) J Q E { s0 with heap := h, toks := tk }
  | 0, j, hj, h, tk, mx, F, N => by
    have hj' : j = qs.length := by omega
    subst hj'
    exact loop_doneE (s := { s0 with heap := h, toks := tk }) hh F N (.head (hJ.to (by walk_at "readr")).all) (by decide) hE fun h5 F5 N5 => wpAny_execs_nil (done h5 tk mx F5 N5)
  | n + 1, j, hj, h, tk, mx, F, N => by
    refine loop_itemE (s := { s0 with heap := h, toks := tk }) F N (.head (hJ.to (by walk_at "readr")).all) (by omega) hE (fun _ => rfl) fun h1 t tk1 F1 N1 => ?_
    have hlen := hms.length
    have hjq : j < qs.length := by omega
    obtain ⟨tq, hq⟩ := hms.get j (qs.getD j 0) (by simp [hjq])
    obtain ⟨q0, q5⟩ := hqs (qs.getD j 0) (by
      have : qs.getD j 0 = qs[j] := by simp [hjq]
      rw [this]; exact List.getElem_mem hjq)
    refine wpAny_assign_Name ?_
    with_unfolding_all refine storeX_L F1 N1 fun h2 F2 N2 => ?_
    have hpl := putN_len (vs := vs) (qs := qs) (sv := sv) j
    refine spot_body (s := { s0 with heap := h2, toks := tk1 + 1 }) (vs := putN vs qs sv j) (ms := ms) (sv := sv) (k := k) (ks := ks) (km := km) (rest := (J, rIt ((j : Int) + 1) (((n + 1 : Nat) : Int) - 1)) :: rest) X T F2 (fun p hp => N2 p ?_) d1 (by omega) (by omega) (by simpa using hq) q0 q5 (by omega) (v := sv.getD j .none) (by simp [hsv, hjq]) ?_ fun h' tk' m' F' N' => ?_
    · simp only [List.mem_cons] at hp ⊢
      grind
    · refine ⟨fun p hp => ?_⟩
      simp only [List.mem_cons] at hp
      have hJD : J ≠ D := neA_r hJ (.head _)
      have z := fun p hp => (hne.to (l' := (S, plainO sv ks) :: (M, plainO ms km) :: (L + 1, o1) :: rest) (by walk_at "readr")).all p hp
      rcases hp with rfl | rfl | rfl | rfl | hp
      · exact z _ (by simp)
      · exact z _ (by simp)
      · exact z _ (by simp)
      · exact hJD
      · exact z _ (by simp [hp])
    · have ih := spot_loop hh X T hE d1 hms hqs hql hsv hvs hJ hne s0 done n (j + 1) (by omega) h' tk' m' F' (fun p hp => N' p (by
        have e1 : ((j : Int) + 1) = ((j + 1 : Nat) : Int) := by push_cast; rfl
        have e2 : (((n + 1 : Nat) : Int) - 1) = (n : Int) := by omega
        rw [e1, e2]
        simp only [List.mem_cons] at hp ⊢
        have e3 : putN vs qs sv (j + 1) = (putN vs qs sv j).set (qs.getD j 0).toNat (sv.getD j .none) := rfl
        rw [e3] at hp
        grind))
      exact ih
end
end
section
open ZL ZSpotf
example : True := by
  k_with "!pyIter ref" => (guard_expr onSpotf =~ onSpotf; (k_here; refine Stop.mk ?_))
  k_with "!call builtin:len" => (guard_expr onSpotf =~ onSpotf; (k_here; (with_reducible show wpAny _ _ (call (Value.builtin "len") [Value.ref _]) _ _ _); k_dflt (refine' len_plain ?k1_138 ?k2_138 ?k5_138 ?_; (case k1_138 => exact ⟨_, News.get (by k_asm) (by k_mem), rfl, _, rfl⟩); (case k2_138 => assumption); (case k5_138 => assumption); k_whole; intro tl'k tkl'k)))
  k_with "!readr" => (guard_expr onSpotf =~ onSpotf; (first | walk_at "SUB" | (intro a'k ha'k; simp only [List.map_cons, List.mem_cons] at *; grind)))
  trivial
section
variable {w : World} {A : Around} {E : Value → Shared → Prop} {s : Shared} {Q : Flow → Shared → Prop} {h₀ : Heap} {L D W P M S : Addr} {mx mg mb : Str → Option Value} {mean : ExcName → Option Value} {rest : List (Addr × Obj)} {o1 : Obj} {vs sv ms : List Value} {k ks km : Nat}
  {fr la tu fed : Int} {t1 t2 t4 t5 : Tok} {qs : List Int}
theorem small_n {n : Nat} (h : n ≤ 5) : Builtin.Range.small 0 (n : Int) 1 = true := by
  have : n = 0 ∨ n = 1 ∨ n = 2 ∨ n = 3 ∨ n = 4 ∨ n = 5 := by omega
  rcases this with rfl | rfl | rfl | rfl | rfl | rfl <;> decide +kernel
theorem spot_for (hh : A.handled = none) (X : (KK w.params).In h₀) (T : Top qq LOOSE mean mg mb h₀) (hE : PassesOwn (model PW w) A (pEnv L) E) (F : Fr h₀ L s.heap (pM fr la tu fed t1 t2 t4 t5 W P (cM M S mx)))
    (N : News h₀ L s.heap (led4 L D S M sv ms vs ks km k o1 rest)) (d1 : o1.data = .cell (some (.ref D))) (hms : IntsAre ms qs) (hqs : ∀ q ∈ qs, 0 ≤ q ∧ q < 5) (hql : qs.length ≤ 5) (hsv : sv.length = qs.length) (hvs : vs.length = 5)
    (hne : NeA D (S :: M :: (L + 1) :: rest.map (·.1)))
    (done : ∀ h' tk' m', Fr h₀ L h' (pM fr la tu fed t1 t2 t4 t5 W P (cM M S m')) → News h₀ L h' (led4 L D S M sv ms (putN vs qs sv qs.length) ks km k o1 rest) → Q .next { s with heap := h', toks := tk' }) :
    wpAny (model PW w) A (exec (turnS 10) (pEnv L)) Q E s := by
 walk_at "ST"
 case oTag =>
  have hl5 := hms.length
  with_unfolding_all refine for_headE (body := forBody (turnS 10)) (els := []) (target := tgs _) (iter := .Call (.Name (Str.ofString "range") _) [.Call (.Name (Str.ofString "len") _) [.Name (Str.ofString "moved") _] [] _] [] _) (pos := _) ?_ (fun _ => rfl)
  show wpAny _ _ _ (fun x s₁ => wpAny (model PW w) A (pyIter x) (fun it s₂ => ∃ I, it = .ref I ∧ LoopE PW w A (tgs _) (forBody (turnS 10)) [] (pEnv L) I Q E s₂) E s₁) _ _
  generalize hP : (fun (it : Value) (s₂ : Shared) => ∃ I, it = Value.ref I ∧ LoopE PW w A (tgs _) (forBody (turnS 10)) [] (pEnv L) I Q E s₂) = Post
  unfold pEnv
  unfold pM cM at F
  k_steps
  unfold Stop
  subst hP
  refine' iter_rangeE ?F ?N ?hr ?hro ?sm ?ab ?_
  case hr => first | assumption | (exact News.get (by k_asm) (by k_mem))
  case hro => exact rfl
  case F => k_asm
  case N => k_asm
  case sm => exact small_n hql
  case ab => omega
  intro J h1 F1 N1 hJ
  have hJA : NeA J (D :: S :: M :: (L + 1) :: rest.map (·.1)) := (NeAll.mk hJ).toA (by intro a ha; simp only [List.map_cons, List.mem_cons] at ha ⊢; exact ha)
  exact spot_loop (s0 := _) hh X T hE d1 hms hqs hql hsv hvs hJA hne done qs.length 0 (by omega) h1 _ _ (cM_end F1 rfl rfl rfl rfl rfl rfl rfl rfl) (by
    have e : ((qs.length : Int) - 0) = ((qs.length : Nat) : Int) := by omega
    rw [e] at N1
    exact N1)
 walk_at "EN"
end
end
section
open ZL ZC ZTurnc
example : True := by
  k_with "!k_inA" => (guard_expr onTurnc =~ onTurnc; (repeat (first | exact .head _ | refine .tail _ ?_)))
  k_with "!readr" => (guard_expr onTurnc =~ onTurnc; (first | walk_at "SUB" | (intro a'k ha'k; simp only [List.map_cons, List.mem_cons] at *; grind)))
  k_with "!MY NE" => (guard_expr onTurnc =~ onTurnc; first | (refine' neA_r ?hh_142 ?hm_142; (case hh_142 => assumption); (case hm_142 => walk_at "k_inA"; done)) | (refine' neA_l ?hh_142 ?hm_142; (case hh_142 => assumption); (case hm_142 => walk_at "k_inA"; done)) | (refine' neLt_r ?hh_142 ?hm_142; (case hh_142 => assumption); (case hm_142 => k_mem)) | (refine' neLt_l ?hh_142 ?hm_142; (case hh_142 => assumption); (case hm_142 => k_mem)) | (refine' ne_r ?hh_142 ?hm_142; (case hh_142 => assumption); (case hm_142 => k_mem)) | (refine' ne_l ?hh_142 ?hm_142; (case hh_142 => assumption); (case hm_142 => k_mem)) | (refine neN ?_; (try dsimp only); omega))
  k_with "!MY ALL" => (guard_expr onTurnc =~ onTurnc; first | assumption | exact NeAll.all (by assumption))
  k_with "!MY CALLED" => (guard_expr onTurnc =~ onTurnc; ((case kB => assumption); (case kF => assumption); (case kX => assumption); (case kN => assumption); (case kT => assumption); (case kf => exact rfl); (case kk => exact rfl); (case kd => (show _ < recursionLimit; (try dsimp only); omega)); (case ku => (show _ < cLine; (try dsimp only); omega)); k_whole))
  k_with "!call ref" => (guard_expr onTurnc =~ onTurnc; (k_here; (with_reducible show wpAny _ _ (call (Value.ref 184) [_, _]) _ _ _); k_dflt (refine' sent_call ?kB ?kF ?kX ?kN ?kT ?kf ?kk ?kd ?ku ?hs_145 ?hp_145 ?hnn_145 ?_; walk_at "MY CALLED"; (case hs_145 => assumption); (case hp_145 => assumption); (case hnn_145 => exact List.length_map _); intro hq''k tq''k Dq''k vq''k kq''k yq''k hlq''k F''k N''k hlt''k hsq''k hmq''k)))
  k_with "!CompAt" => (guard_expr onTurnc =~ onTurnc; (k_here; (with_reducible show CompAt _ _ _ _ _ _ (Str.ofString "other") _ _ _ _ _ _ _); k_dflt (refine' rows_comp ?k0_146 ?kF_146 ?kN_146 ?hM_146 ?hms_146 ?hns_146 ?hnl_146 ?kk_146 ?kx_146 ?y1_146 ?c1_146 ?m1_146 ?d1_146 ?hD_146 ?hvs_146 ?h5_146 ?_; (case k0_146 => exact rfl); (case kF_146 => k_asm); (case kN_146 => k_asm); (case kk_146 => exact rfl); (case kx_146 => exact fun _ => rfl); (case y1_146 => exact fun _ => rfl); (case c1_146 => exact rfl); (case m1_146 => k_mem); (case d1_146 => k_asm); (case hM_146 => k_mem); (case hD_146 => k_mem); (case hms_146 => assumption); (case hns_146 => assumption); (case hnl_146 => assumption); (case hvs_146 => assumption); (case h5_146 => assumption); k_whole; intro D''k h''k tk''k ys''k n''k F''k N''k ne''k hi''k; (have ne''k := NeAll.mk ne''k); (try dsimp only at F''k N''k); (try dsimp only))))
  k_with "!exec For Name Call cons nil" => (guard_expr onTurnc =~ onTurnc; (k_here; (with_reducible show wpAny _ _ (exec (Stmt.For _ _ _ _ _) _) _ _ _); refine Stop.mk ?_))
  k_with "!call builtin:len" => (guard_expr onTurnc =~ onTurnc; (k_here; (with_reducible show wpAny _ _ (call (Value.builtin "len") [Value.ref _]) _ _ _); k_dflt (refine' len_plain ?k1_148 ?k2_148 ?k5_148 ?_; (case k1_148 => exact ⟨_, News.get (by k_asm) (by k_mem), rfl, _, rfl⟩); (case k2_148 => assumption); (case k5_148 => assumption); k_whole; intro tl'k tkl'k)))
  k_with "!compareOp NotEq int int" => (guard_expr onTurnc =~ onTurnc; (k_here; (with_reducible refine ne_same ?_)))
  trivial
theorem to_led4 {h₀ h : Heap} {L I P W D S M Y : Addr} {io o5 o4 o3 o2 o1 oy : Obj} {ms sv ps ws vs : List Value} {ks km kp kw k : Nat} {news : List (Addr × Obj)}
    (N : News h₀ L h ((S, plainO sv ks) :: (Y, oy) :: (M, plainO ms km) :: led2 L I P W D io ps ws vs kp kw k o5 o4 o3 o2 o1 news)) :
    News h₀ L h (led4 L D S M sv ms vs ks km k o1 ((I, io) :: (P, plainO ps kp) :: (W, plainO ws kw) :: (L + 1 + 1 + 1 + 1 + 1, o5) :: (L + 1 + 1 + 1 + 1, o4) :: (L + 1 + 1 + 1, o3) :: (L + 1 + 1, o2) :: news)) := by
  intro q hq
  refine N q ?_
  clear N
  first | (revert q hq; walk_at "SUB") | (simp only [List.mem_cons] at hq ⊢; grind)
theorem from_led4 {h₀ h : Heap} {L I P W D S M : Addr} {io o5 o4 o3 o2 o1 : Obj} {ms sv ps ws vs : List Value} {ks km kp kw k : Nat} {news : List (Addr × Obj)}
    (N : News h₀ L h (led4 L D S M sv ms vs ks km k o1 ((I, io) :: (P, plainO ps kp) :: (W, plainO ws kw) :: (L + 1 + 1 + 1 + 1 + 1, o5) :: (L + 1 + 1 + 1 + 1, o4) :: (L + 1 + 1 + 1, o3) :: (L + 1 + 1, o2) :: news))) :
    News h₀ L h (led2 L I P W D io ps ws vs kp kw k o5 o4 o3 o2 o1 news) := by
  intro q hq
  refine N q ?_
  clear N
  first | (revert q hq; walk_at "SUB") | (simp only [List.mem_cons] at hq ⊢; grind)
theorem ne_led4 {L I P W D S M Y : Addr} {io o5 o4 o3 o2 o1 oy : Obj} {ms ps ws vs : List Value} {km kp kw k : Nat} {news : List (Addr × Obj)} (hTN : TurnNe L I P W D news) (hnM : NeA M (addrs L I P W D news))
    (hS : ∀ p ∈ (Y, oy) :: (M, plainO ms km) :: led2 L I P W D io ps ws vs kp kw k o5 o4 o3 o2 o1 news, @LT.lt Nat _ p.1 S) (es : Obj) :
    NeA D (S :: M :: (L + 1) :: ((I, io) :: (P, plainO ps kp) :: (W, plainO ws kw) :: (L + 1 + 1 + 1 + 1 + 1, o5) :: (L + 1 + 1 + 1 + 1, o4) :: (L + 1 + 1 + 1, o3) :: (L + 1 + 1, o2) :: news).map (·.1)) := by
 walk_at "ST"
 case oTag =>
  have h1 : D ≠ S := neLt_l hS (o := plainO vs k) (by simp)
  have h2 : D ≠ M := neA_l hnM (by simp)
  refine ((NeA.mk fun hm => hTN.nD.no ?_).join h2).join h1
  simp only [List.map_cons, List.mem_cons] at hm ⊢
  grind
 walk_at "EN"
section
variable {w : World} {dp un : Nat} {gd : Option (List Code)} {outer : List Env} {A₀ : Around} {base : Heap} {E : Value → Shared → Prop} {s : Shared} {Q : Flow → Shared → Prop} {h₀ : Heap} {L D W P I M : Addr} {mx mg mb : Str → Option Value} {mean : ExcName → Option Value} {news : List (Addr × Obj)} {o1 o2 o3 o4 o5 io : Obj} {vs ws ps ms : List Value} {k kw kp km : Nat}
  {fr la tu fed : Int} {t1 t2 t4 t5 : Tok} {qs : List Int} {yss : List Str}
theorem turn_c (B : Below A₀ base outer h₀) (X : (KK w.params).In h₀) (T : Top qq LOOSE mean mg mb h₀) (F : Fr h₀ L s.heap (pM fr la tu fed t1 t2 t4 t5 W P (bM M mx)))
    (N : News h₀ L s.heap ((M, plainO ms km) :: led2 L I P W D io ps ws vs kp kw k o5 o4 o3 o2 o1 news)) (hdp : dp + 25 < recursionLimit) (hun : un + 100 < cLine)
    (hE : PassesOwn (model PW w) (AT dp un gd (pEnv L) outer) (pEnv L) E) (d1 : o1.data = .cell (some (.ref D))) (hms : IntsAre ms qs) (hqs : ∀ q ∈ qs, 0 ≤ q ∧ q < 5) (hql : qs.length ≤ 5) (hvs : StrsAre vs yss) (hy5 : yss.length = 5)
    (hpre : SentPre (qs.map fun k => yss.getD k.toNat (Str.ofString ""))) (hTN : TurnNe L I P W D news) (hnM : NeA M (addrs L I P W D news)) (hv5 : vs.length = 5)
    (next : ∀ h' tk' mx' sv yq, Fr h₀ L h' (pM fr la tu fed t1 t2 t4 t5 W P mx') → News h₀ L h' (led2 L I P W D io ps ws (putN vs qs sv qs.length) kp kw k o5 o4 o3 o2 o1 news) →
      StrsAre sv yq → yq.map toL = ((qs.map fun k => yss.getD k.toNat (Str.ofString "")).map toL).map sentL → Q .next { s with heap := h', toks := tk' }) :
    wpAny (model PW w) (AT dp un gd (pEnv L) outer) (execs ((forBody playFor).drop 8) (pEnv L)) Q E s := by
 walk_at "ST"
 case oTag =>
  have hl5 := hms.length
  have wD := hTN.nD.news (news := news) fun a ha => by repeat (first | exact ha | refine .tail _ ?_)
  unfold pEnv
  with_unfolding_all show wpAny _ _ (execs [_, _, _] _) _ _ _
  unfold pM bM at F
  k_steps
  unfold Stop
  rename News _ _ _ _ => hNN
  rename Fr _ _ _ _ => hFF
  rename StrsAre _ _ => hSS
  rename (List.map toL _ = _) => hMM
  rename (∀ p : Addr × Obj, p ∈ (_ :: _ :: led2 _ _ _ _ _ _ _ _ _ _ _ _ _ _ _ _ _ _) → p.1 < _) => hLL
  rename (List.length _ = qs.length) => hlq
  with_unfolding_all refine spot_for rfl X T (by passes_own) (cM_end hFF rfl rfl rfl rfl rfl rfl rfl rfl) (to_led4 hNN) d1 hms hqs hql ?lq hv5 (ne_led4 hTN hnM hLL io) fun h' tk' m' F' N' => ?_
  case lq => assumption
  k_steps
  exact next _ _ _ _ _ F' (from_led4 N') hSS hMM
 walk_at "EN"
end
end
section
noncomputable def ltr (k : Nat) : Nat := lettersL.getD k 0
structure Net where
  f : Nat → Nat
  s : Nat → Nat
noncomputable def tailL (g : Net) (i : Nat) : List Nat := if i < 3 then [ltr i, ltr (g.f i), ltr (g.s i)] else [ltr i]
noncomputable def rowN (g : Net) (i n : Nat) : List Nat := List.replicate n 46 ++ tailL g i
theorem ltr_letter : ∀ k : Nat, k < 5 → isLetter (ltr k) = true := by decide
theorem ltr_ix : ∀ k : Nat, k < 5 → ixL (ltr k) = k := by decide
theorem isLetter_cases {c : Nat} (h : isLetter c = true) : c = 102 ∨ c = 105 ∨ c = 108 ∨ c = 115 ∨ c = 116 := by
  unfold isLetter at h
  simp only [Bool.or_eq_true, beq_iff_eq] at h
  omega
theorem str_of_toL {x : Str} {l : List Nat} (h : toL x = l) : x = ⟨l.toArray⟩ := by
  cases x with
  | mk a =>
    congr 1
    apply Array.toList_inj.mp
    simpa [toL] using h
theorem toL_len (x : Str) : (toL x).length = x.length := by simp [toL, Str.length]
theorem slice_to {x : Str} {n : Nat} {l : List Nat} (h : n ≤ x.length) (hx : (toL x).take n = l) : Txt.slice x none (some (n : Int)) = ⟨l.toArray⟩ := str_of_toL (by rw [← hx]; exact upto_list h)
theorem ex3 : exAt ⟨#[46, 46, 46]⟩ = some 52 := by decide +kernel
theorem ex2 : exAt ⟨#[46, 46]⟩ = none := by decide +kernel
theorem ex1 : exAt ⟨#[46]⟩ = some 23 := by decide +kernel
theorem exT : (lettersL.all fun a => (exAt ⟨#[46, 46, a]⟩ == none) && (exAt ⟨#[46, a]⟩ == none) && (exAt ⟨#[a]⟩ == none) && lettersL.all fun b => exAt ⟨#[46, a, b]⟩ == none) = true := by decide +kernel
theorem row_is {x : Str} {n a b c : Nat} (ha : isLetter a = true) (hb : isLetter b = true) (hx : toL x = List.replicate n 46 ++ [a, b, c]) (h1 : 1 ≤ n) (h2 : n ≤ 100) : RowIs x (if 3 ≤ n then 2 else if n = 2 then 1 else 0) := by
 walk_at "ST"
 case oTag =>
  have hlen : x.length = n + 3 := by rw [← toL_len, hx]; simp
  have hle : x.length ≤ 200 := by omega
  have ma : a ∈ lettersL := by rcases isLetter_cases ha with rfl | rfl | rfl | rfl | rfl <;> decide
  have mb : b ∈ lettersL := by rcases isLetter_cases hb with rfl | rfl | rfl | rfl | rfl <;> decide
  have hT := List.all_eq_true.mp exT a ma
  simp only [Bool.and_eq_true, beq_iff_eq] at hT
  obtain ⟨⟨⟨t1, t2⟩, t3⟩, t4⟩ := hT
  have t4 := List.all_eq_true.mp t4 b mb
  simp only [beq_iff_eq] at t4
  have itm : Txt.item x 1 = ⟨#[x.cps.getD 1 0]⟩ := by
    have := item_closes (x := x) (i := 1) ⟨by decide, by omega⟩
    simpa using this
  have get1 : x.cps.getD 1 0 = (toL x).getD 1 0 := by simp [toL]
  by_cases h3 : 3 ≤ n
  · rw [if_pos h3]
    refine .fire hle ?_
    obtain ⟨k, rfl⟩ : ∃ k, n = k + 3 := ⟨n - 3, by omega⟩
    have := slice_to (x := x) (n := 3) (l := [46, 46, 46]) (by omega) (by rw [hx]; rfl)
    rw [show ((3 : Nat) : Int) = 3 from rfl] at this
    rw [this]; exact ex3
  · rw [if_neg h3]
    have e1 := slice_to (x := x) (n := 1) (l := [46]) (by omega) (by
      rw [hx]
      have : n = 1 ∨ n = 2 := by omega
      rcases this with rfl | rfl <;> rfl)
    rw [show ((1 : Nat) : Int) = 1 from rfl] at e1
    by_cases h22 : n = 2
    · subst h22
      rw [if_pos rfl]
      have e3 := slice_to (x := x) (n := 3) (l := [46, 46, a]) (by omega) (by rw [hx]; rfl)
      have e2 := slice_to (x := x) (n := 2) (l := [46, 46]) (by omega) (by rw [hx]; rfl)
      rw [show ((3 : Nat) : Int) = 3 from rfl] at e3
      rw [show ((2 : Nat) : Int) = 2 from rfl] at e2
      refine .keep hle (by rw [e3]; exact t1) (by rw [e2]; exact ex2) (by rw [e1]; exact ex1) (by omega) ?_
      rw [itm, get1, hx]
      exact ex1
    · have h11 : n = 1 := by omega
      subst h11
      rw [if_neg h22]
      have e3 := slice_to (x := x) (n := 3) (l := [46, a, b]) (by omega) (by rw [hx]; rfl)
      have e2 := slice_to (x := x) (n := 2) (l := [46, a]) (by omega) (by rw [hx]; rfl)
      rw [show ((3 : Nat) : Int) = 3 from rfl] at e3
      rw [show ((2 : Nat) : Int) = 2 from rfl] at e2
      refine .lack hle (by rw [e3]; exact t4) (by rw [e2]; exact t2) (by rw [e1]; exact ex1) (by omega) ?_
      rw [itm, get1, hx]
      exact t3
 walk_at "EN"
theorem b1_letter {c : Nat} (h : isLetter c = true) : b1S c = false := by
  rcases isLetter_cases h with rfl | rfl | rfl | rfl | rfl <;> decide
theorem b1_dot : b1S 46 = false := by decide
structure NetOk (g : Net) : Prop where
  f : ∀ i, i < 3 → g.f i < 5
  s : ∀ i, i < 3 → g.s i < 5
theorem tail_letters {g : Net} (hg : NetOk g) {i : Nat} (hi : i < 5) : ∀ c ∈ tailL g i, isLetter c = true := by
  intro c hc
  unfold tailL at hc
  split at hc
  · next h =>
    simp only [List.mem_cons, List.not_mem_nil, or_false] at hc
    rcases hc with rfl | rfl | rfl
    · exact ltr_letter _ hi
    · exact ltr_letter _ (hg.f i h)
    · exact ltr_letter _ (hg.s i h)
  · simp only [List.mem_cons, List.not_mem_nil, or_false] at hc
    rw [hc]; exact ltr_letter _ hi
theorem seen_id {l : List Nat} (h : ∀ c ∈ l, b1S c = false) : seenL l = l := by
  unfold seenL
  exact List.filter_eq_self.mpr fun c hc => by simp [h c hc]
theorem row_seen {g : Net} (hg : NetOk g) {i n : Nat} (hi : i < 5) : ∀ c ∈ rowN g i n, b1S c = false := by
  intro c hc
  rcases List.mem_append.mp hc with hc | hc
  · rw [(List.mem_replicate.mp hc).2]; exact b1_dot
  · exact b1_letter (tail_letters hg hi c hc)
theorem row_add {g : Net} (hg : NetOk g) {i n : Nat} (hi : i < 5) (hn : 1 ≤ n) : sentL (rowN g i n) = rowN g i (n + 1) := by
  obtain ⟨k, rfl⟩ : ∃ k, n = k + 1 := ⟨n - 1, by omega⟩
  have : stuffL (rowN g i (k + 1)) = rowN g i (k + 1 + 1) := rfl
  rw [sentL, this]
  exact seen_id (row_seen hg hi)
theorem veil_b1 (i : Int) : b1S (veilC i) = true ∧ veilC i ≠ 46 ∧ veilC i ≠ 10 ∧ veilC i ≠ 13 := by
  have h0 : 0 ≤ i.fmod 27 := Int.fmod_nonneg_of_pos _ (by decide)
  have h1 : i.fmod 27 < 27 := Int.fmod_lt_of_pos _ (by decide)
  have key : ∀ k : Nat, k < 27 → (let v := if (k : Int) < 11 then (loneL.getD ((k : Int)).toNat 0).toNat else (65013 + (k : Int)).toNat; b1S v = true ∧ v ≠ 46 ∧ v ≠ 10 ∧ v ≠ 13) := by decide +kernel
  have := key (i.fmod 27).toNat (by omega)
  rw [Int.toNat_of_nonneg h0] at this
  exact this
theorem row_fire {g : Net} (hg : NetOk g) {i n : Nat} (hi : i < 5) (hn : 2 ≤ n) (a b : Int) : sentL (veilC a :: veilC b :: (rowN g i n).drop 2) = rowN g i (n - 2) := by
 walk_at "ST"
 case oTag =>
  obtain ⟨k, rfl⟩ : ∃ k, n = k + 2 := ⟨n - 2, by omega⟩
  have hd : (rowN g i (k + 2)).drop 2 = rowN g i k := rfl
  rw [hd]
  obtain ⟨a1, a2, _⟩ := veil_b1 a
  obtain ⟨b1, _⟩ := veil_b1 b
  have : stuffL (veilC a :: veilC b :: rowN g i k) = veilC a :: veilC b :: rowN g i k := by
    unfold stuffL
    split
    · next h => injection h with h _; exact absurd h a2
    · rfl
  rw [sentL, this]
  unfold seenL
  rw [List.filter_cons, List.filter_cons]
  simp only [a1, b1, Bool.not_true, Bool.false_eq_true, if_false]
  exact seen_id (row_seen hg hi)
 walk_at "EN"
end
section
structure RowsC (vs : List Value) (c : Nat → List Nat) : Prop where
  ex : ∃ yss, StrsAre vs yss ∧ yss.length = 5 ∧ ∀ i, i < 5 → toL (yss.getD i (Str.ofString "")) = c i
theorem strs_set {vs : List Value} {ys : List Str} (h : StrsAre vs ys) : ∀ (i : Nat) (x : Str) (t : Tok), StrsAre (vs.set i (.str x t)) (ys.set i x) := by
  induction h with
  | nil => intro i x t; exact .nil
  | cons y u _ ih =>
    intro i x t
    cases i with
    | zero => exact .cons _ _ ‹_›
    | succ i => exact .cons _ _ (ih i x t)
noncomputable def putS (yss : List Str) (qs : List Int) (yq : List Str) : Nat → List Str
  | 0 => yss
  | j + 1 => (putS yss qs yq j).set (qs.getD j 0).toNat (yq.getD j (Str.ofString ""))
theorem putS_len {yss : List Str} {qs : List Int} {yq : List Str} : ∀ j, (putS yss qs yq j).length = yss.length
  | 0 => rfl
  | j + 1 => by simp [putS, putS_len j]
theorem put_strs {vs sv : List Value} {yss yq : List Str} {qs : List Int} (h : StrsAre vs yss) (hs : StrsAre sv yq) : ∀ j, j ≤ yq.length → StrsAre (putN vs qs sv j) (putS yss qs yq j)
  | 0, _ => h
  | j + 1, hj => by
    obtain ⟨t, e⟩ := strs_get hs j (by omega)
    unfold putN putS
    have : sv.getD j .none = .str (yq.getD j (Str.ofString "")) t := by rw [List.getD_eq_getElem?_getD, e]; rfl
    rw [this]
    exact strs_set (put_strs h hs j (by omega)) _ _ _
theorem getD_set (l : List Str) (i j : Nat) (x d : Str) (hi : i < l.length) : (l.set i x).getD j d = if j = i then x else l.getD j d := by
  simp only [List.getD_eq_getElem?_getD, List.getElem?_set]
  by_cases h : i = j
  · subst h; simp [hi]
  · rw [if_neg h, if_neg (fun e => h e.symm)]
theorem put_toL {yss yq : List Str} {qs : List Int} (hy : yss.length = 5) (hqs : ∀ q ∈ qs, 0 ≤ q ∧ q < 5) (hm : yq.map toL = ((qs.map fun k => yss.getD k.toNat (Str.ofString "")).map toL).map sentL) :
    ∀ j, j ≤ qs.length → ∀ i, i < 5 → toL ((putS yss qs yq j).getD i (Str.ofString "")) = if (i : Int) ∈ qs.take j then sentL (toL (yss.getD i (Str.ofString ""))) else toL (yss.getD i (Str.ofString ""))
  | 0, _, i, _ => by simp [putS]
  | j + 1, hj, i, hi => by
    have hjl : j < qs.length := by omega
    have eq' : qs.getD j 0 = qs[j] := by simp [hjl]
    obtain ⟨q0, q5⟩ := hqs qs[j] (List.getElem_mem hjl)
    have ih := put_toL hy hqs hm j (by omega) i hi
    have hyq : yq.length = qs.length := by simpa using congrArg List.length hm
    have ex : toL (yq.getD j (Str.ofString "")) = sentL (toL (yss.getD qs[j].toNat (Str.ofString ""))) := by
      have := congrArg (fun l => l[j]?) hm
      simp only [List.getElem?_map, List.getElem?_eq_getElem hjl, Option.map_some] at this
      rw [List.getD_eq_getElem?_getD]
      cases hz : yq[j]? with
      | none => rw [hz] at this; cases this
      | some z =>
        rw [hz] at this
        simpa using this
    have ht : qs.take (j + 1) = qs.take j ++ [qs[j]] := by rw [List.take_add_one, List.getElem?_eq_getElem hjl]; rfl
    unfold putS
    rw [eq', getD_set _ _ _ _ _ (by rw [putS_len, hy]; omega), ht]
    by_cases hij : i = qs[j].toNat
    · have hii : (i : Int) = qs[j] := by omega
      rw [if_pos hij, if_pos (by rw [hii]; exact List.mem_append_right _ (.head _)), ex, hij]
    · have hii : (i : Int) ≠ qs[j] := by omega
      rw [if_neg hij, ih]
      simp only [List.mem_append, List.mem_singleton, hii, or_false]
theorem rows_sent {vs sv : List Value} {yss yq : List Str} {qs : List Int} {c : Nat → List Nat} (h : StrsAre vs yss) (hy : yss.length = 5) (hc : ∀ i, i < 5 → toL (yss.getD i (Str.ofString "")) = c i) (hqs : ∀ q ∈ qs, 0 ≤ q ∧ q < 5)
    (hs : StrsAre sv yq) (hm : yq.map toL = ((qs.map fun k => yss.getD k.toNat (Str.ofString "")).map toL).map sentL) : RowsC (putN vs qs sv qs.length) (fun i => if (i : Int) ∈ qs then sentL (c i) else c i) := by
  have hyq : yq.length = qs.length := by simpa using congrArg List.length hm
  refine ⟨putS yss qs yq qs.length, put_strs h hs _ (by omega), by rw [putS_len, hy], fun i hi => ?_⟩
  rw [put_toL hy hqs hm qs.length (Nat.le_refl _) i hi, List.take_length, hc i hi]
theorem RowsC.congr {vs : List Value} {c c' : Nat → List Nat} (h : RowsC vs c) (e : ∀ i, i < 5 → c i = c' i) : RowsC vs c' := by
  obtain ⟨yss, a, b, d⟩ := h.ex
  exact ⟨yss, a, b, fun i hi => (d i hi).trans (e i hi)⟩
theorem RowsC.get {vs : List Value} {c : Nat → List Nat} (h : RowsC vs c) (i : Nat) (hi : i < 5) : ∃ y t, vs[i]? = some (.str y t) ∧ toL y = c i := by
  obtain ⟨yss, a, b, d⟩ := h.ex
  obtain ⟨t, e⟩ := strs_get a i (by omega)
  exact ⟨_, t, e, d i hi⟩
theorem RowsC.len {vs : List Value} {c : Nat → List Nat} (h : RowsC vs c) : vs.length = 5 := by
  obtain ⟨yss, a, b, d⟩ := h.ex
  exact a.length.trans b
theorem RowsC.set {vs : List Value} {c : Nat → List Nat} (h : RowsC vs c) (p : Nat) (hp : p < 5) (x : Str) (t : Tok) : RowsC (vs.set p (.str x t)) (fun i => if i = p then toL x else c i) := by
  obtain ⟨yss, a, b, d⟩ := h.ex
  refine ⟨yss.set p x, strs_set a _ _ _, by simpa using b, fun i hi => ?_⟩
  rw [getD_set _ _ _ _ _ (by omega)]
  split
  · rfl
  · exact d i hi
theorem sent_pre {yss : List Str} {qs : List Int} {c : Nat → List Nat} (hc : ∀ i, i < 5 → toL (yss.getD i (Str.ofString "")) = c i) (hqs : ∀ q ∈ qs, 0 ≤ q ∧ q < 5) (h1 : 1 ≤ qs.length) (h3 : qs.length ≤ 3)
    (hl : ∀ i, i < 5 → (c i).length ≤ 110) (hf : ∀ i, i < 5 → freeL (c i) = true) : SentPre (qs.map fun k => yss.getD k.toNat (Str.ofString "")) := by
 walk_at "ST"
 case oTag =>
  have hq' : ∀ q ∈ qs, q.toNat < 5 := fun q hq => by have := hqs q hq; omega
  refine ⟨by simpa using h1, by simp; omega, ?_, ?_⟩
  · have key : ∀ l : List Int, (∀ q ∈ l, q.toNat < 5) → ((l.map fun k => yss.getD k.toNat (Str.ofString "")).map fun x => x.cps.size).sum ≤ 110 * l.length := by
      intro l
      induction l with
      | nil => intro _; simp
      | cons q l ih =>
        intro h
        have := ih fun q hq => h q (.tail _ hq)
        have h2 : (yss.getD q.toNat (Str.ofString "")).cps.size ≤ 110 := by
          have z := hl q.toNat (h q (.head _))
          rw [← hc q.toNat (h q (.head _))] at z
          simpa [toL] using z
        simp only [List.map_cons, List.sum_cons, List.length_cons]
        omega
    have := key qs hq'
    omega
  · rw [List.all_eq_true]
    intro r hr
    simp only [List.map_map, List.mem_map] at hr
    obtain ⟨q, hq, rfl⟩ := hr
    have := hf q.toNat (hq' q hq)
    rw [← hc q.toNat (hq' q hq)] at this
    exact this
 walk_at "EN"
end
section
structure St where
  a : Nat
  b : Nat
  c : Nat
  d : Nat
  e : Nat
  fed : Nat
  p : Nat
  q : Nat
  r : Nat
noncomputable def St.n (s : St) : Nat → Nat
  | 0 => s.a
  | 1 => s.b
  | 2 => s.c
  | 3 => s.d
  | _ => s.e
noncomputable def mvN (g : Net) (pl n i : Nat) : Nat := if i = pl then n - 2 else if i = g.f pl ∨ i = g.s pl then n + 1 else n
noncomputable def fireSt (g : Net) (pl : Nat) (s : St) : St := ⟨mvN g pl s.a 0, mvN g pl s.b 1, mvN g pl s.c 2, mvN g pl s.d 3, mvN g pl s.e 4, s.fed, if pl = 0 then s.p + 1 else s.p, if pl = 1 then s.q + 1 else s.q, if pl = 2 then s.r + 1 else s.r⟩
noncomputable def fdN (fr n i : Nat) : Nat := if i = fr then n + 1 else n
noncomputable def feedSt (fr : Nat) (s : St) : St := ⟨fdN fr s.a 0, fdN fr s.b 1, fdN fr s.c 2, fdN fr s.d 3, fdN fr s.e 4, s.fed + 1, s.p, s.q, s.r⟩
noncomputable def pickSt (last : Bool) (s : St) : Nat := if last then (if 3 ≤ s.c then 2 else if 3 ≤ s.b then 1 else 0) else (if 3 ≤ s.a then 0 else if 3 ≤ s.b then 1 else 2)
noncomputable def sim (g : Net) (fr : Nat) (last : Bool) : Nat → St → Option St
  | 0, _ => none
  | k + 1, s => if 3 ≤ s.a ∨ 3 ≤ s.b ∨ 3 ≤ s.c then sim g fr last k (fireSt g (pickSt last s) s) else if s.a = 2 ∧ s.b = 2 ∧ s.c = 2 then some s else sim g fr last k (feedSt fr s)
theorem lt_five {i : Nat} (h : i < 5) : i = 0 ∨ i = 1 ∨ i = 2 ∨ i = 3 ∨ i = 4 := by omega
theorem fire_n (g : Net) (pl : Nat) (s : St) : ∀ i, i < 5 → (fireSt g pl s).n i = mvN g pl (s.n i) i := by
  intro i hi
  rcases lt_five hi with rfl | rfl | rfl | rfl | rfl <;> rfl
theorem feed_n (fr : Nat) (s : St) : ∀ i, i < 5 → (feedSt fr s).n i = fdN fr (s.n i) i := by
  intro i hi
  rcases lt_five hi with rfl | rfl | rfl | rfl | rfl <;> rfl
noncomputable def bOf (n : Nat) : Nat := if 3 ≤ n then 2 else if n = 2 then 1 else 0
theorem bOf_fire {n : Nat} : bOf n = 2 ↔ 3 ≤ n := by unfold bOf; split <;> (try split) <;> omega
noncomputable def firstF (b0 b1 : Nat) : Nat := if b0 = 2 then 0 else if b1 = 2 then 1 else 2
noncomputable def lastF (b1 b2 : Nat) : Nat := if b2 = 2 then 2 else if b1 = 2 then 1 else 0
theorem named_pick {sh : Int} {b0 b1 b2 : Nat} (h : b0 = 2 ∨ b1 = 2 ∨ b2 = 2) : namedW sh b0 b1 b2 ≠ [] ∧ (namedW sh b0 b1 b2).length ≤ 1000 ∧ (namedW sh b0 b1 b2).getLast? = some (flagW (sh + (lastF b1 b2 : Nat))) ∧ (namedW sh b0 b1 b2).head? = some (flagW (sh + (firstF b0 b1 : Nat))) := by
 walk_at "ST"
 case oTag =>
  unfold namedW nmS lastF firstF
  by_cases h0 : b0 = 2 <;> by_cases h1 : b1 = 2 <;> by_cases h2 : b2 = 2 <;> simp_all
 walk_at "EN"
theorem named_none {sh : Int} {b0 b1 b2 : Nat} (h : ¬ (b0 = 2 ∨ b1 = 2 ∨ b2 = 2)) : namedW sh b0 b1 b2 = [] := by
  unfold namedW nmS
  simp only [not_or] at h
  simp [h.1, h.2.1, h.2.2]
theorem words_at {sh : Int} (h0 : 0 ≤ sh) (h1 : sh < 30) {pl : Nat} (hp : pl < 3) : [flagW sh, flagW (sh + 1), flagW (sh + 2)][pl]? = some (flagW (sh + (pl : Nat))) ∧ ∀ m, m < pl → [flagW sh, flagW (sh + 1), flagW (sh + 2)][m]? ≠ some (flagW (sh + (pl : Nat))) := by
  have c : pl = 0 ∨ pl = 1 ∨ pl = 2 := by omega
  rcases c with rfl | rfl | rfl
  · exact ⟨by simp, fun m hm => by omega⟩
  · refine ⟨rfl, fun m hm => ?_⟩
    have : m = 0 := by omega
    subst this
    intro e
    injection e with e
    have := flagW_inj h0 (by omega) (by omega) (by omega) e
    omega
  · refine ⟨rfl, fun m hm => ?_⟩
    have : m = 0 ∨ m = 1 := by omega
    rcases this with rfl | rfl
    · intro e
      injection e with e
      have := flagW_inj h0 (by omega) (by omega) (by omega) e
      omega
    · intro e
      injection e with e
      have := flagW_inj (by omega) (by omega) (by omega) (by omega) e
      omega
theorem movL_range (a b c : Int) : (∀ q ∈ movL a b c, 0 ≤ q ∧ q < 5) ∧ (movL a b c).length ≤ 5 := by
  refine ⟨fun q hq => ?_, List.length_filter_le _ _⟩
  have := (List.mem_filter.mp hq).1
  simp at this
  omega
theorem movL_mem {a b c i : Nat} (hi : i < 5) : (i : Int) ∈ movL (a : Int) (b : Int) (c : Int) ↔ i = a ∨ i = b ∨ i = c := by
 walk_at "ST"
 case oTag =>
  unfold movL
  rw [List.mem_filter]
  have : (i : Int) ∈ [(0 : Int), 1, 2, 3, 4] := by
    have : i = 0 ∨ i = 1 ∨ i = 2 ∨ i = 3 ∨ i = 4 := by omega
    rcases this with rfl | rfl | rfl | rfl | rfl <;> simp
  simp only [this, true_and, List.any_cons, List.any_nil, Bool.or_false, Bool.or_eq_true, beq_iff_eq]
  omega
 walk_at "EN"
theorem movL_len {a b c : Nat} (ha : a < 5) (hb : b < 5) (hc : c < 5) : 1 ≤ (movL (a : Int) (b : Int) (c : Int)).length ∧ (movL (a : Int) (b : Int) (c : Int)).length ≤ 3 := by
  have key : ∀ a : Nat, a < 5 → ∀ b : Nat, b < 5 → ∀ c : Nat, c < 5 → 1 ≤ (movL (a : Int) (b : Int) (c : Int)).length ∧ (movL (a : Int) (b : Int) (c : Int)).length ≤ 3 := by decide +kernel
  exact key a ha b hb c hc
theorem row_len {g : Net} {i n : Nat} (h : n ≤ 100) : (rowN g i n).length ≤ 110 := by
  unfold rowN tailL
  split <;> simp <;> omega
theorem row_free {g : Net} (hg : NetOk g) {i n : Nat} (hi : i < 5) : freeL (rowN g i n) = true := by
  unfold freeL
  rw [List.all_eq_true]
  intro c hc
  rcases List.mem_append.mp hc with hc | hc
  · rw [(List.mem_replicate.mp hc).2]; rfl
  · rcases isLetter_cases (tail_letters hg hi c hc) with rfl | rfl | rfl | rfl | rfl <;> rfl
end
section
noncomputable abbrev tgd (px : Pos) : PySem.Expr := .Name (Str.ofString "deed") px
theorem lk_false {a b c : Nat} (ha : 1 ≤ a) (hb : 1 ≤ b) (hc : 1 ≤ c) (hf : ¬ (3 ≤ a ∨ 3 ≤ b ∨ 3 ≤ c)) (h : ¬ (a = 2 ∧ b = 2 ∧ c = 2)) : (lkS (bOf c) (lkS (bOf b) (lkS (bOf a) 0)) == 0) = false := by
  have ea : a = 1 ∨ a = 2 := by omega
  have eb : b = 1 ∨ b = 2 := by omega
  have ec : c = 1 ∨ c = 2 := by omega
  rcases ea with rfl | rfl <;> rcases eb with rfl | rfl <;> rcases ec with rfl | rfl <;> first | rfl | exact absurd ⟨rfl, rfl, rfl⟩ h
theorem le_hund {a n : Nat} (h : a + n ≤ 60) : a ≤ 100 := by omega
theorem pick_lt (b : Bool) (st : St) : pickSt b st < 3 := by unfold pickSt; split <;> (try split) <;> (try split) <;> decide
theorem pick_said {la sh : Int} {st : St} {z1 z2 : Option Str} (n3 : z1 = some (flagW (sh + (lastF (bOf st.b) (bOf st.c) : Nat)))) (n4 : z2 = some (flagW (sh + (firstF (bOf st.a) (bOf st.b) : Nat)))) :
    if la = 1 then z1 = some (flagW (sh + (pickSt (decide (la = 1)) st : Nat))) else z2 = some (flagW (sh + (pickSt (decide (la = 1)) st : Nat))) := by
  by_cases hla : la = 1
  · rw [if_pos hla, n3]
    simp only [pickSt, hla, decide_true, if_true, lastF, bOf_fire]
  · rw [if_neg hla, n4]
    simp only [pickSt, hla, decide_false, Bool.false_eq_true, if_false, firstF, bOf_fire]
theorem pick_fires (b : Bool) {st : St} (hf : 3 ≤ st.a ∨ 3 ≤ st.b ∨ 3 ≤ st.c) : 3 ≤ st.n (pickSt b st) := by
  unfold pickSt
  cases b
  · simp only [Bool.false_eq_true, if_false]
    split
    · assumption
    · split
      · assumption
      · show 3 ≤ st.c
        omega
  · simp only [if_true]
    split
    · assumption
    · split
      · assumption
      · show 3 ≤ st.a
        omega
theorem fire_len {g : Net} {st : St} {pl a b : Nat} (hpf : 3 ≤ st.n pl) (h1 : (rowN g pl (st.n pl)).length ≤ 110) (h : ∀ i, i < 5 → (rowN g i (st.n i)).length ≤ 110) (i : Nat) (hi : i < 5) : (if i = pl then a :: b :: (rowN g pl (st.n pl)).drop 2 else rowN g i (st.n i)).length ≤ 110 := by
  split
  · have h3 : 2 ≤ (rowN g pl (st.n pl)).length := by unfold rowN; simp; omega
    rw [List.length_cons, List.length_cons, List.length_drop]
    omega
  · exact h i hi
theorem fire_free {g : Net} {st : St} {pl : Nat} {x y : Int} (h1 : freeL (rowN g pl (st.n pl)) = true) (h : ∀ i, i < 5 → freeL (rowN g i (st.n i)) = true) (i : Nat) (hi : i < 5) : freeL (if i = pl then veilC x :: veilC y :: (rowN g pl (st.n pl)).drop 2 else rowN g i (st.n i)) = true := by
  split
  · obtain ⟨a1, a2, a3, a4⟩ := veil_b1 x
    obtain ⟨b1, b2, b3, b4⟩ := veil_b1 y
    unfold freeL at h1 ⊢
    simp only [List.all_cons, Bool.and_eq_true, bne_iff_ne]
    refine ⟨⟨a3, a4⟩, ⟨b3, b4⟩, ?_⟩
    rw [List.all_eq_true] at h1 ⊢
    exact fun c hc => h1 c (List.mem_of_mem_drop hc)
  · exact h i hi
theorem fire_rows {g : Net} (hg : NetOk g) {st : St} {pl n : Nat} {x y : Int} {vs : List Value} (hb : ∀ i, i < 5 → 1 ≤ st.n i ∧ st.n i + (n + 1) ≤ 60) (hpf : 3 ≤ st.n pl)
    (h : RowsC vs (fun i => if (i : Int) ∈ movL (pl : Int) (g.f pl : Int) (g.s pl : Int) then sentL (if i = pl then veilC x :: veilC y :: (rowN g pl (st.n pl)).drop 2 else rowN g i (st.n i)) else (if i = pl then veilC x :: veilC y :: (rowN g pl (st.n pl)).drop 2 else rowN g i (st.n i)))) :
    RowsC vs (fun i => rowN g i ((fireSt g pl st).n i)) := h.congr fun i hi => by
  simp only [movL_mem hi]
  rw [fire_n _ _ _ i hi, mvN]
  by_cases hip : i = pl
  · subst hip
    simp only [if_true, true_or]
    exact row_fire hg hi (Nat.le_of_succ_le hpf) _ _
  · simp only [hip, if_false, false_or]
    by_cases hm : i = g.f pl ∨ i = g.s pl
    · rw [if_pos hm, if_pos hm]
      exact row_add hg hi (hb i hi).1
    · rw [if_neg hm, if_neg hm]
theorem fire_hb {g : Net} {st : St} {pl n : Nat} (hb : ∀ i, i < 5 → 1 ≤ st.n i ∧ st.n i + (n + 1) ≤ 60) (hpf : 3 ≤ st.n pl) (i : Nat) (hi : i < 5) : 1 ≤ (fireSt g pl st).n i ∧ (fireSt g pl st).n i + n ≤ 60 := by
  rw [fire_n _ _ _ i hi, mvN]
  have := hb i hi
  split
  · next e => subst e; omega
  · split <;> omega
theorem feed_rows {g : Net} (hg : NetOk g) {st : St} {n : Nat} {fr : Int} {vs : List Value} (hb : ∀ i, i < 5 → 1 ≤ st.n i ∧ st.n i + (n + 1) ≤ 60) (hfr0 : 0 ≤ fr)
    (h : RowsC vs (fun i => if (i : Int) ∈ [fr] then sentL (rowN g i (st.n i)) else rowN g i (st.n i))) : RowsC vs (fun i => rowN g i ((feedSt fr.toNat st).n i)) := h.congr fun i hi => by
  have e : ((i : Int) ∈ [fr]) ↔ i = fr.toNat := by rw [List.mem_singleton]; omega
  simp only [e]
  rw [feed_n _ _ i hi, fdN]
  by_cases hm : i = fr.toNat
  · rw [if_pos hm, if_pos hm]
    exact row_add hg hi (hb i hi).1
  · rw [if_neg hm, if_neg hm]
theorem feed_hb {st : St} {fr n : Nat} (hb : ∀ i, i < 5 → 1 ≤ st.n i ∧ st.n i + (n + 1) ≤ 60) (i : Nat) (hi : i < 5) : 1 ≤ (feedSt fr st).n i ∧ (feedSt fr st).n i + n ≤ 60 := by
  rw [feed_n _ _ i hi, fdN]
  have := hb i hi
  split <;> omega
theorem fire_pqr {g : Net} {st : St} {pl : Nat} (hpl : pl < 3) {qa qb qc : Int} (h : [qa, qb, qc] = [((st.p : Nat) : Int), ((st.q : Nat) : Int), ((st.r : Nat) : Int)].set pl ([((st.p : Nat) : Int), ((st.q : Nat) : Int), ((st.r : Nat) : Int)].getD pl 0 + 1)) :
    qa = ((fireSt g pl st).p : Nat) ∧ qb = ((fireSt g pl st).q : Nat) ∧ qc = ((fireSt g pl st).r : Nat) := by
  have c : pl = 0 ∨ pl = 1 ∨ pl = 2 := by omega
  rcases c with rfl | rfl | rfl <;> injection h with h1 h <;> injection h with h2 h <;> injection h with h3 h <;> exact ⟨h1, h2, h3⟩
theorem led2_next {h₀ h : Heap} {L I P W D : Addr} {ws vs : List Value} {kp kw k j n : Nat} {o5 o4 o3 o2 o1 : Obj} {news : List (Addr × Obj)} {qa qb qc a b c : Int} {y1 y2 y3 : Tok} (e : qa = a ∧ qb = b ∧ qc = c)
    (N : News h₀ L h (led2 L I P W D (rIt ((j : Int) + 1) (((n + 1 : Nat) : Int) - 1)) [.int qa y1, .int qb y2, .int qc y3] ws vs kp kw k o5 o4 o3 o2 o1 news)) :
    News h₀ L h (led2 L I P W D (rIt ((j + 1 : Nat) : Int) ((n : Nat) : Int)) [.int a y1, .int b y2, .int c y3] ws vs kp kw k o5 o4 o3 o2 o1 news) := by
  obtain ⟨rfl, rfl, rfl⟩ := e
  have hn1 : (((n + 1 : Nat) : Int) - 1) = ((n : Nat) : Int) := by omega
  rw [hn1] at N
  exact N
section
variable {w : World} {dp un : Nat} {gd : Option (List Code)} {outer : List Env} {A₀ : Around} {base : Heap} {E : Value → Shared → Prop} {Q : Flow → Shared → Prop} {h₀ : Heap} {L D W P I : Addr} {mg mb : Str → Option Value} {mean : ExcName → Option Value} {news : List (Addr × Obj)} {o1 o2 : Obj} {ws : List Value} {k kw : Nat}
  {fr la sh : Int} {t1 t2 ts : Tok} {q0 q1 q2 : Tok} {px : Pos} {g : Net} {fin : St}
theorem play_loop (B : Below A₀ base outer h₀) (X : (KK w.params).In h₀) (T : Top qq LOOSE mean mg mb h₀) (hdp : dp + 25 < recursionLimit) (hun : un + 100 < cLine) (hE : PassesOwn (model PW w) (AT dp un gd (pEnv L) outer) (pEnv L) E)
    (d2 : o2.data = .cell (some (.int sh ts))) (d1 : o1.data = .cell (some (.ref D))) (hsh0 : 0 ≤ sh) (hsh1 : sh < 30) (hfr0 : 0 ≤ fr) (hfr3 : fr < 3) (hg : NetOk g)
    (hws : StrsAre ws [flagW sh, flagW (sh + 1), flagW (sh + 2)]) (hw0 : ws[0]? = some (.str (flagW sh) q0)) (hw1 : ws[1]? = some (.str (flagW (sh + 1)) q1)) (hw2 : ws[2]? = some (.str (flagW (sh + 2)) q2)) (hTN : TurnNe L I P W D news) (s0 : Shared)
    (done : ∀ h' tk' m' R tf kp y1 y2 y3 vs o5 o4 o3 io, Fr h₀ L h' m' → News h₀ L h' ((R, PySem.W.listOf #[.int (fin.fed : Nat) tf, .ref P, .ref D] 0) :: led2 L I P W D io [.int (fin.p : Nat) y1, .int (fin.q : Nat) y2, .int (fin.r : Nat) y3] ws vs kp kw k o5 o4 o3 o2 o1 news) →
      RowsC vs (fun i => rowN g i (fin.n i)) → Q (.ret (.ref R)) { s0 with heap := h', toks := tk' }) :
    ∀ (n j : Nat) (st : St) h tk mx vs kp y1 y2 y3 tu t4 t5 o5 o4 o3 v5 v4 v3, sim g fr.toNat (decide (la = 1)) n st = some fin → (∀ i, i < 5 → 1 ≤ st.n i ∧ st.n i + n ≤ 60) → Fr h₀ L h (pM fr la tu (st.fed : Nat) t1 t2 t4 t5 W P mx) →
      News h₀ L h (led2 L I P W D (rIt (j : Int) ((n : Nat) : Int)) [.int (st.p : Nat) y1, .int (st.q : Nat) y2, .int (st.r : Nat) y3] ws vs kp kw k o5 o4 o3 o2 o1 news) → o5.data = .cell v5 → o4.data = .cell v4 → o3.data = .cell v3 → RowsC vs (fun i => rowN g i (st.n i)) →
      LoopE PW w (AT dp un gd (pEnv L) outer) (tgd px) (forBody playFor) [] (pEnv L) I Q E { s0 with heap := h, toks := tk } := by
 walk_at "ST"
 case oTag =>
  intro n
  induction n with
  | zero => intro j st h tk mx vs kp y1 y2 y3 tu t4 t5 o5 o4 o3 v5 v4 v3 hs; cases hs
  | succ n ih =>
    intro j st h tk mx vs kp y1 y2 y3 tu t4 t5 o5 o4 o3 v5 v4 v3 hs hb F N d5 d4 d3 hR
    refine loop_itemE (s := { s0 with heap := h, toks := tk }) F N (.head ?hI) (by omega) hE (fun _ => rfl) fun h1 t tk1 F1 N1 => ?_
    case hI => exact NeAll.all (hTN.nI.to (fun a ha => ha))
    refine wpAny_assign_Name ?_
    with_unfolding_all refine storeX_L F1 N1 fun h2 F2 N2 => ?_
    have F3 := pM_end F2 (fr := fr) (la := la) (tu := tu) (fed := (st.fed : Nat)) (t1 := t1) (t2 := t2) (t4 := t4) (t5 := t5) (W := W) (P := P) rfl rfl rfl rfl rfl rfl
    obtain ⟨z0, p0, e0, c0⟩ := hR.get 0 (by decide)
    obtain ⟨z1, p1, e1, c1⟩ := hR.get 1 (by decide)
    obtain ⟨z2, p2, e2, c2⟩ := hR.get 2 (by decide)
    have r0 : RowIs z0 (bOf st.a) := row_is (ltr_letter 0 (by decide)) (ltr_letter _ (hg.f 0 (by decide))) c0 (hb 0 (by decide)).1 (le_hund (hb 0 (by decide)).2)
    have r1 : RowIs z1 (bOf st.b) := row_is (ltr_letter 1 (by decide)) (ltr_letter _ (hg.f 1 (by decide))) c1 (hb 1 (by decide)).1 (le_hund (hb 1 (by decide)).2)
    have r2 : RowIs z2 (bOf st.c) := row_is (ltr_letter 2 (by decide)) (ltr_letter _ (hg.f 2 (by decide))) c2 (hb 2 (by decide)).1 (le_hund (hb 2 (by decide)).2)
    have hcl : ∀ i, i < 5 → (rowN g i (st.n i)).length ≤ 110 := fun i hi => row_len (le_hund (hb i hi).2)
    have hcf : ∀ i, i < 5 → freeL (rowN g i (st.n i)) = true := fun i hi => row_free hg hi
    have lz : ∀ {y : Str} {i : Nat}, i < 5 → toL y = rowN g i (st.n i) → y.length ≤ 200 := fun {y i} hi hy => by rw [← toL_len, hy]; exact Nat.le_trans (hcl i hi) (by decide)
    by_cases hf : 3 ≤ st.a ∨ 3 ≤ st.b ∨ 3 ≤ st.c
    · rw [sim, if_pos hf] at hs
      have hbf : bOf st.a = 2 ∨ bOf st.b = 2 ∨ bOf st.c = 2 := by simpa only [bOf_fire] using hf
      obtain ⟨n1, n2, n3, n4⟩ := named_pick (sh := sh) hbf
      refine turn_a (s := { s0 with heap := h2, toks := tk1 + 1 }) B X T F3 N2 hdp hun hE d5 d4 d3 d2 d1 hsh0 hsh1 e0 e1 e2 r0 r1 r2 hw0 hw1 hw2 n1 hTN fun h3 tk3 mx3 Nd Td nv tv kn3 oc3 tp3 t43 u3 F4 dc3 N4 sn sv hnT hnN => ?_
      have hpl : pickSt (decide (la = 1)) st < 3 := pick_lt _ _
      have hpe := pick_said (la := la) n3 n4
      have hpf : 3 ≤ st.n (pickSt (decide (la = 1)) st) := pick_fires _ hf
      generalize pickSt (decide (la = 1)) st = pl at hs hpl hpe hpf
      obtain ⟨wa, wb⟩ := words_at hsh0 hsh1 hpl
      obtain ⟨y, ty, ey, cy⟩ := hR.get pl (by omega)
      have cy3 : toL y = List.replicate (st.n pl) 46 ++ [ltr pl, ltr (g.f pl), ltr (g.s pl)] := by rw [cy, rowN, tailL, if_pos hpl]
      refine turn_b (s := { s0 with heap := h3, toks := tk3 }) (pl := pl) (n := st.n pl) (l1 := ltr pl) (l2 := ltr (g.f pl)) (l3 := ltr (g.s pl)) (f := ((g.f pl : Nat) : Int)) (g := ((g.s pl : Nat) : Int)) B X T F4 N4 hdp hun hE d5 d4 dc3 d2 d1 sn sv n1 (named_ok hsh0 hsh1 _ _ _) n2 hpe hws wa wb hpl (by rw [hR.len]; omega) (by simpa using ey) cy3 (by have := (hb pl (by omega)).2; omega) (lz (by omega) cy) (ltr_letter _ (by omega)) (ltr_letter _ (hg.f pl hpl)) (ltr_letter _ (hg.s pl hpl)) (by rw [ltr_ix _ (by omega)]) (by rw [ltr_ix _ (hg.f pl hpl)]) (by rw [ltr_ix _ (hg.s pl hpl)]) hTN hnT hnN
        fun h4 tk4 mx4 M ms km qa qb qc w1 w2 w3 tz o54 o44 o34 F5 N5 hq3 hms hnM x5 x4 x3 => ?_
      have hR4 := hR.set ((pl : Nat) : Int).toNat (by simp; omega) (⟨#[veilC (tu + 1 + 10)]⟩ ++ ⟨#[veilC (tu + 1 + 16)]⟩ ++ Txt.slice y (some 2) none) tz
      have hsl : toL (⟨#[veilC (tu + 1 + 10)]⟩ ++ ⟨#[veilC (tu + 1 + 16)]⟩ ++ Txt.slice y (some 2) none) = veilC (tu + 1 + 10) :: veilC (tu + 1 + 16) :: (rowN g pl (st.n pl)).drop 2 := by
        have h2y : 2 ≤ y.length := by rw [← toL_len, cy3]; simp
        have := slice_list (x := y) (n := 2) h2y
        rw [show ((2 : Nat) : Int) = 2 from rfl] at this
        show ((_ ++ _) ++ _ : Str).cps.toList = _
        rw [Str.app_list, Str.app_list, this]
        show [_] ++ [_] ++ (toL y).drop 2 = _
        rw [cy]
        rfl
      obtain ⟨yss, ya, yb, yc⟩ := hR4.ex
      obtain ⟨m1, m2⟩ := movL_range ((pl : Nat) : Int) ((g.f pl : Nat) : Int) ((g.s pl : Nat) : Int)
      obtain ⟨m3, m4⟩ := movL_len (show pl < 5 by omega) (hg.f pl hpl) (hg.s pl hpl)
      have ycl : ∀ i, i < 5 → toL (yss.getD i (Str.ofString "")) = if i = pl then veilC (tu + 1 + 10) :: veilC (tu + 1 + 16) :: (rowN g pl (st.n pl)).drop 2 else rowN g i (st.n i) := fun i hi => by
        rw [yc i hi, hsl]
        simp only [Int.toNat_natCast]
      have hpre := sent_pre ycl m1 m3 m4 (fire_len hpf (hcl pl (Nat.lt_trans hpl (by decide))) hcl) (fire_free (hcf pl (Nat.lt_trans hpl (by decide))) hcf)
      obtain ⟨c5, x5⟩ := x5
      obtain ⟨c4, x4⟩ := x4
      obtain ⟨c3, x3⟩ := x3
      refine turn_c (s := { s0 with heap := h4, toks := tk4 }) B X T F5 N5 hdp hun hE d1 hms m1 m2 ya yb hpre hTN hnM (by rw [hR4.len]) fun h5 tk5 mx5 sv yq F6 N6 sS sM => ?_
      have hR5 := rows_sent ya yb ycl m1 sS sM
      have hR6 := fire_rows hg hb hpf hR5
      exact ih (j + 1) (fireSt g pl st) h5 tk5 _ _ kp w1 w2 w3 _ _ _ o54 o44 o34 _ _ _ hs (fire_hb hb hpf) F6 (led2_next (fire_pqr hpl hq3) N6) x5 x4 x3 hR6
    · rw [sim, if_neg hf] at hs
      have hbf : ¬ (bOf st.a = 2 ∨ bOf st.b = 2 ∨ bOf st.c = 2) := by simpa only [bOf_fire] using hf
      have nn := named_none (sh := sh) hbf
      refine turn_a0 (s := { s0 with heap := h2, toks := tk1 + 1 }) B X T F3 N2 hdp hun hE d5 d4 d3 d2 d1 hsh0 hsh1 e0 e1 e2 r0 r1 r2 hw0 hw1 hw2 nn hTN fun h3 tk3 mx3 Nd Td nv tv kn3 oc3 tp3 t43 u3 F4 dc3 N4 sn _ hnT hnN => ?_
      rw [nn] at sn
      by_cases h2 : st.a = 2 ∧ st.b = 2 ∧ st.c = 2
      · rw [if_pos h2] at hs
        injection hs with hs
        subst hs
        refine turn_e (s := { s0 with heap := h3, toks := tk3 }) B X T F4 N4 hdp hun d1 sn (by rw [h2.1, h2.2.1, h2.2.2]; decide) fun h4 tk4 m4 R tf F5 N5 => ?_
        exact done h4 tk4 m4 R tf kp y1 y2 y3 vs o5 o4 oc3 _ F5 N5 hR
      · rw [if_neg h2] at hs
        have hlk := lk_false (hb 0 (by decide)).1 (hb 1 (by decide)).1 (hb 2 (by decide)).1 hf h2
        refine turn_f (s := { s0 with heap := h3, toks := tk3 }) B X T F4 N4 hdp hun sn hlk fun h4 tk4 mx4 M t54 tm F5 N5 hnM => ?_
        obtain ⟨yss, ya, yb, yc⟩ := hR.ex
        have m1 : ∀ q ∈ [fr], 0 ≤ q ∧ q < 5 := fun q hq => by rw [List.mem_singleton.mp hq]; omega
        have hpre := sent_pre yc m1 (by simp) (by simp) hcl hcf
        refine turn_c (s := { s0 with heap := h4, toks := tk4 }) B X T F5 N5 hdp hun hE d1 (.cons _ _ .nil) m1 (by simp) ya yb hpre hTN hnM hR.len fun h5 tk5 mx5 sv yq F6 N6 sS sM => ?_
        have hR5 := rows_sent ya yb yc m1 sS sM
        have hR6 := feed_rows hg hb hfr0 hR5
        exact ih (j + 1) (feedSt fr.toNat st) h5 tk5 _ _ kp y1 y2 y3 _ _ _ o5 o4 oc3 _ _ _ hs (feed_hb hb) F6 (led2_next ⟨rfl, rfl, rfl⟩ N6) d5 d4 dc3 hR6
 walk_at "EN"
end
end
section
open ZL ZPlayfo
theorem mkNeA {c : Nat} {as : List Addr} (h : ∀ a ∈ as, @Ne Nat a c) : NeA c as := ⟨fun hm => h c hm rfl⟩
theorem neA_c {c a : Nat} {l : List Nat} (h : a ≠ c) (r : NeA c l) : NeA c (a :: l) := ⟨fun hm => (List.mem_cons.mp hm).elim (fun e => h e.symm) r.no⟩
theorem neA_m {c : Nat} {news : List (Addr × Obj)} (h : ∀ q ∈ news, q.1 ≠ c) : NeA c (news.map (·.1)) := ⟨fun hm => by
  obtain ⟨q, hq, e⟩ := List.mem_map.mp hm
  exact h q hq e⟩
theorem turnNe_of {L I P W D : Nat} {news : List (Addr × Obj)} {oP oW o5 o4 o3 o2 o1 oD : Obj}
    (hI : ∀ p ∈ (P, oP) :: (W, oW) :: (L + 1 + 1 + 1 + 1 + 1, o5) :: (L + 1 + 1 + 1 + 1, o4) :: (L + 1 + 1 + 1, o3) :: (L + 1 + 1, o2) :: (L + 1, o1) :: (D, oD) :: news, @Ne Nat p.1 I)
    (hW : NeAll W ((L + 1 + 1 + 1 + 1 + 1, o5) :: (L + 1 + 1 + 1 + 1, o4) :: (L + 1 + 1 + 1, o3) :: (L + 1 + 1, o2) :: (L + 1, o1) :: (D, oD) :: news))
    (hP : @LT.lt Nat _ W P ∧ @LT.lt Nat _ (L + 1 + 1 + 1 + 1 + 1) P ∧ @LT.lt Nat _ (L + 1 + 1 + 1 + 1) P ∧ @LT.lt Nat _ (L + 1 + 1 + 1) P ∧ @LT.lt Nat _ (L + 1 + 1) P ∧ @LT.lt Nat _ (L + 1) P ∧ @LT.lt Nat _ D P ∧ AllLt P news)
    (hD : @LT.lt Nat _ D L) (hn : AllLt L news) (hDn : ∀ p ∈ news, p.1 ≠ D) : TurnNe L I P W D news := by
 walk_at "ST"
 case oTag =>
  obtain ⟨p1, p2, p3, p4, p5, p6, p7, hPn⟩ := hP
  have hPn := allLt_mem _ hPn
  have hn := allLt_mem _ hn
  have nI : ∀ q ∈ news, q.1 ≠ I := fun q hq => hI q (by repeat (first | exact hq | refine .tail _ ?_))
  have nW : ∀ q ∈ news, q.1 ≠ W := fun q hq => hW.all q (by repeat (first | exact hq | refine .tail _ ?_))
  have nP : ∀ q ∈ news, q.1 ≠ P := fun q hq => Nat.ne_of_lt (hPn q hq)
  have nL : ∀ c, L ≤ c → ∀ q ∈ news, q.1 ≠ c := fun c hc q hq => Nat.ne_of_lt (Nat.lt_of_lt_of_le (hn q hq) hc)
  have i1 := hI _ (.head _)
  have i2 := hI _ (.tail _ (.head _))
  have i3 := hI _ (.tail _ (.tail _ (.head _)))
  have i4 := hI _ (.tail _ (.tail _ (.tail _ (.head _))))
  have i5 := hI _ (.tail _ (.tail _ (.tail _ (.tail _ (.head _)))))
  have i6 := hI _ (.tail _ (.tail _ (.tail _ (.tail _ (.tail _ (.head _))))))
  have i7 := hI _ (.tail _ (.tail _ (.tail _ (.tail _ (.tail _ (.tail _ (.head _)))))))
  have i8 := hI _ (.tail _ (.tail _ (.tail _ (.tail _ (.tail _ (.tail _ (.tail _ (.head _))))))))
  have j1 := hW.all _ (.head _)
  have j2 := hW.all _ (.tail _ (.head _))
  have j3 := hW.all _ (.tail _ (.tail _ (.head _)))
  have j4 := hW.all _ (.tail _ (.tail _ (.tail _ (.head _))))
  have j5 := hW.all _ (.tail _ (.tail _ (.tail _ (.tail _ (.head _)))))
  have j6 := hW.all _ (.tail _ (.tail _ (.tail _ (.tail _ (.tail _ (.head _))))))
  dsimp only at i1 i2 i3 i4 i5 i6 i7 i8 j1 j2 j3 j4 j5 j6
  have D1 := fun x (h : L ≤ x) => Nat.ne_of_lt (Nat.lt_of_lt_of_le hD h)
  have u : ∀ k, L ≤ L + k := fun k => Nat.le_add_right L k
  have d : ∀ i k, i ≠ k → L + i ≠ L + k := fun i k h e => h (Nat.add_left_cancel e)
  refine ⟨neA_c i1 (neA_c i2 (neA_c i8 (neA_c i3 (neA_c i4 (neA_c i5 (neA_c i6 (neA_c i7 (neA_m nI)))))))),
    neA_c i1.symm (neA_c (Nat.ne_of_lt p1) (neA_c (Nat.ne_of_lt p7) (neA_c (Nat.ne_of_lt p2) (neA_c (Nat.ne_of_lt p3) (neA_c (Nat.ne_of_lt p4) (neA_c (Nat.ne_of_lt p5) (neA_c (Nat.ne_of_lt p6) (neA_m nP)))))))),
    neA_c i8.symm (neA_c (Nat.ne_of_lt p7).symm (neA_c j6.symm (neA_c (D1 _ (u 5)).symm (neA_c (D1 _ (u 4)).symm (neA_c (D1 _ (u 3)).symm (neA_c (D1 _ (u 2)).symm (neA_c (D1 _ (u 1)).symm (neA_m hDn)))))))),
    neA_c i3.symm (neA_c (Nat.ne_of_lt p2).symm (neA_c j1.symm (neA_c (D1 _ (u 5)) (neA_c (d 4 5 (by decide)) (neA_c (d 3 5 (by decide)) (neA_c (d 2 5 (by decide)) (neA_c (d 1 5 (by decide)) (neA_m (nL _ (u 5)))))))))),
    neA_c i4.symm (neA_c (Nat.ne_of_lt p3).symm (neA_c j2.symm (neA_c (D1 _ (u 4)) (neA_c (d 5 4 (by decide)) (neA_c (d 3 4 (by decide)) (neA_c (d 2 4 (by decide)) (neA_c (d 1 4 (by decide)) (neA_m (nL _ (u 4)))))))))),
    neA_c i5.symm (neA_c (Nat.ne_of_lt p4).symm (neA_c j3.symm (neA_c (D1 _ (u 3)) (neA_c (d 5 3 (by decide)) (neA_c (d 4 3 (by decide)) (neA_c (d 2 3 (by decide)) (neA_c (d 1 3 (by decide)) (neA_m (nL _ (u 3))))))))))⟩
 walk_at "EN"
theorem to_led2 {h₀ h : Heap} {L I P W D : Addr} {io o5 o4 o3 o2 o1 : Obj} {ps ws vs : List Value} {kp kw k : Nat} {news : List (Addr × Obj)}
    (N : News h₀ L h ((I, io) :: (P, plainO ps kp) :: (W, plainO ws kw) :: (L + 1 + 1 + 1 + 1 + 1, o5) :: (L + 1 + 1 + 1 + 1, o4) :: (L + 1 + 1 + 1, o3) :: (L + 1 + 1, o2) :: (L + 1, o1) :: (D, plainO vs k) :: news)) :
    News h₀ L h (led2 L I P W D io ps ws vs kp kw k o5 o4 o3 o2 o1 news) := by
  intro q hq
  refine N q ?_
  clear N
  first | (revert q hq; walk_at "SUB") | (simp only [List.mem_cons] at hq ⊢; grind)
example : True := by
  k_with "!pyIter ref" => (guard_expr onPlayfo =~ onPlayfo; (k_here; refine Stop.mk ?_))
  trivial
section
variable {w : World} {dp un : Nat} {gd : Option (List Code)} {outer : List Env} {A₀ : Around} {base : Heap} {E : Value → Shared → Prop} {s : Shared} {Q : Flow → Shared → Prop} {h₀ : Heap} {L D W P : Addr} {mx mg mb : Str → Option Value} {mean : ExcName → Option Value} {news : List (Addr × Obj)} {o1 o2 o3 o4 o5 : Obj} {ws vs : List Value} {k kw kp : Nat}
  {fr la sh tu : Int} {t1 t2 t4 t5 ts y1 y2 y3 : Tok} {g : Net} {fin st : St} {v3 v4 v5 : Option Value}
theorem play_for (B : Below A₀ base outer h₀) (X : (KK w.params).In h₀) (T : Top qq LOOSE mean mg mb h₀) (hdp : dp + 25 < recursionLimit) (hun : un + 100 < cLine) (hE : PassesOwn (model PW w) (AT dp un gd (pEnv L) outer) (pEnv L) E)
    (F : Fr h₀ L s.heap (pM fr la tu (st.fed : Nat) t1 t2 t4 t5 W P mx))
    (N : News h₀ L s.heap ((P, plainO [.int (st.p : Nat) y1, .int (st.q : Nat) y2, .int (st.r : Nat) y3] kp) :: (W, plainO ws kw) :: (L + 1 + 1 + 1 + 1 + 1, o5) :: (L + 1 + 1 + 1 + 1, o4) :: (L + 1 + 1 + 1, o3) :: (L + 1 + 1, o2) :: (L + 1, o1) :: (D, plainO vs k) :: news))
    (d5 : o5.data = .cell v5) (d4 : o4.data = .cell v4) (d3 : o3.data = .cell v3) (d2 : o2.data = .cell (some (.int sh ts))) (d1 : o1.data = .cell (some (.ref D))) (hsh0 : 0 ≤ sh) (hsh1 : sh < 30) (hfr0 : 0 ≤ fr) (hfr3 : fr < 3) (hg : NetOk g)
    (hws : StrsAre ws [flagW sh, flagW (sh + 1), flagW (sh + 2)])
    (hW : NeAll W ((L + 1 + 1 + 1 + 1 + 1, o5) :: (L + 1 + 1 + 1 + 1, o4) :: (L + 1 + 1 + 1, o3) :: (L + 1 + 1, o2) :: (L + 1, o1) :: (D, plainO vs k) :: news))
    (hP : @LT.lt Nat _ W P ∧ @LT.lt Nat _ (L + 1 + 1 + 1 + 1 + 1) P ∧ @LT.lt Nat _ (L + 1 + 1 + 1 + 1) P ∧ @LT.lt Nat _ (L + 1 + 1 + 1) P ∧ @LT.lt Nat _ (L + 1 + 1) P ∧ @LT.lt Nat _ (L + 1) P ∧ @LT.lt Nat _ D P ∧ AllLt P news)
    (hD : @LT.lt Nat _ D L) (hn : AllLt L news) (hDn : ∀ p ∈ news, p.1 ≠ D)
    (hs : sim g fr.toNat (decide (la = 1)) 30 st = some fin) (hb : ∀ i, i < 5 → 1 ≤ st.n i ∧ st.n i ≤ 30) (hR : RowsC vs (fun i => rowN g i (st.n i)))
    (done : ∀ h' tk' m' R tf kp y1 y2 y3 vs o5 o4 o3 I io, Fr h₀ L h' m' → News h₀ L h' ((R, PySem.W.listOf #[.int (fin.fed : Nat) tf, .ref P, .ref D] 0) :: led2 L I P W D io [.int (fin.p : Nat) y1, .int (fin.q : Nat) y2, .int (fin.r : Nat) y3] ws vs kp kw k o5 o4 o3 o2 o1 news) →
      RowsC vs (fun i => rowN g i (fin.n i)) → Q (.ret (.ref R)) { s with heap := h', toks := tk' }) :
    wpAny (model PW w) (AT dp un gd (pEnv L) outer) (exec playFor (pEnv L)) Q E s := by
 walk_at "ST"
 case oTag =>
  obtain ⟨q0, hw0⟩ := strs_get hws 0 (show 0 < 3 by decide)
  obtain ⟨q1, hw1⟩ := strs_get hws 1 (show 1 < 3 by decide)
  obtain ⟨q2, hw2⟩ := strs_get hws 2 (show 2 < 3 by decide)
  with_unfolding_all refine for_headE (body := forBody playFor) (els := []) (target := tgd _) (iter := .Call (.Name (Str.ofString "range") _) [.Constant (.int 30) 0 _] [] _) (pos := _) ?_ (fun _ => rfl)
  show wpAny _ _ _ (fun x s₁ => wpAny (model PW w) (AT dp un gd (pEnv L) outer) (pyIter x) (fun it s₂ => ∃ I, it = .ref I ∧ LoopE PW w (AT dp un gd (pEnv L) outer) (tgd _) (forBody playFor) [] (pEnv L) I Q E s₂) E s₁) _ _
  generalize hPo : (fun (it : Value) (s₂ : Shared) => ∃ I, it = Value.ref I ∧ LoopE PW w (AT dp un gd (pEnv L) outer) (tgd _) (forBody playFor) [] (pEnv L) I Q E s₂) = Post
  unfold pEnv
  k_steps
  unfold Stop
  subst hPo
  refine' iter_rangeE ?F ?N ?hr ?hro ?sm ?ab ?_
  case hr => first | assumption | (exact News.get (by k_asm) (by k_mem))
  case hro => exact rfl
  case F => k_asm
  case N => k_asm
  case sm => decide +kernel
  case ab => decide
  intro I h1 F1 N1 hI
  exact play_loop (s0 := s) B X T hdp hun hE d2 d1 hsh0 hsh1 hfr0 hfr3 hg hws hw0 hw1 hw2 (turnNe_of hI hW hP hD hn hDn) (fun h' tk' m' R tf kp y1 y2 y3 vs o5 o4 o3 io F' N' hR' => done h' tk' m' R tf kp y1 y2 y3 vs o5 o4 o3 I io F' N' hR') 30 0 st h1 _ mx vs kp y1 y2 y3 tu t4 t5 o5 o4 o3 v5 v4 v3 hs (fun i hi => by have := hb i hi; omega) F1 (to_led2 N1) d5 d4 d3 hR
 walk_at "EN"
end
end
section
open ZL ZC ZPlays
noncomputable abbrev Call3 (w : World) (f : Addr) (vs : List Value) (news : List (Addr × Obj)) (R : Value → List (Addr × Obj) → Prop) : Prop :=
  ∀ (mean : ExcName → Option Value) (mg mb : Str → Option Value) (dp un : Nat) (gd : Option (List Code)) (env0 : Env) (outer : List Env) (A₀ : Around) (base h₀ : Heap) (L : Addr) (m : Str → Option Value) (s : Shared) (Q E : Value → Shared → Prop),
    Below A₀ base outer h₀ → Fr h₀ L s.heap m → (KK w.params).In h₀ → News h₀ L s.heap news → Top qq LOOSE mean mg mb h₀ → env0.frame = some L → env0.scope.kind = .function →
    dp + 30 < recursionLimit → un + 120 < cLine →
    (∀ (v : Value) (h' : Heap) (tk' : Nat) (news' : List (Addr × Obj)), R v news' → Fr h₀ L h' m → News h₀ L h' news' → Q v { s with heap := h', toks := tk' }) →
    wpAny (model PW w) (AT dp un gd env0 outer) (call (.ref f) vs) Q E s
example : True := by
  k_with "!CompAt" => (guard_expr onPlays =~ onPlays; (k_here; (with_reducible show CompAt _ _ _ _ _ _ (Str.ofString "place") _ _ _ _ _ _ _); k_dflt (refine' words_comp ?kB_151 ?kX_151 ?kT_151 ?kf_151 ?kke_151 ?kd_151 ?ku_151 ?kF_151 ?kN_151 ?kr_151 ?ko_151 ?kk_151 ?kx_151 ?kg_151 ?ky_151 ?y1_151 ?c1_151 ?m1_151 ?d1_151 ?h0_151 ?h1_151 ?_; (case kB_151 => assumption); (case kX_151 => assumption); (case kT_151 => assumption); (case kf_151 => exact rfl); (case kke_151 => exact rfl); (case kd_151 => (show _ < recursionLimit; (try dsimp only); omega)); (case ku_151 => (show _ < cLine; (try dsimp only); omega)); (case kF_151 => k_asm); (case kN_151 => k_asm); (case kr_151 => first | assumption | (exact News.get (by k_asm) (by k_mem))); (case ko_151 => exact rfl); (case kk_151 => exact rfl); (case kx_151 => exact fun _ => rfl); (case kg_151 => exact rfl); (case ky_151 => exact fun _ => rfl); (case y1_151 => exact fun _ => rfl); (case c1_151 => exact rfl); (case m1_151 => k_mem); (case d1_151 => k_asm); (case h0_151 => assumption); (case h1_151 => assumption); k_whole; intro D''k h''k tk''k ys''k n''k F''k N''k ne''k hi''k; (have ne''k := NeAll.mk ne''k); (try dsimp only at F''k N''k); (try dsimp only))))
  k_with "!exec For Name Call cons nil" => (guard_expr onPlays =~ onPlays; (k_here; (with_reducible show wpAny _ _ (exec (Stmt.For _ _ _ _ _) _) _ _ _); refine Stop.mk ?_))
  trivial
theorem zero_ps {h₀ h : Heap} {L P : Addr} {st : St} {news : List (Addr × Obj)} {t1 t2 t3 : Tok} (h1 : st.p = 0) (h2 : st.q = 0) (h3 : st.r = 0) (N : News h₀ L h ((P, PySem.W.listOf #[.int 0 t1, .int 0 t2, .int 0 t3] 0) :: news)) :
    News h₀ L h ((P, plainO [.int (st.p : Nat) t1, .int (st.q : Nat) t2, .int (st.r : Nat) t3] 0) :: news) := by
  rw [h1, h2, h3]
  exact N
theorem get_P {h₀ h : Heap} {L R P : Addr} {a b : Value} {l : List (Addr × Obj)} (_ : News h₀ L h ((R, PySem.W.listOf #[a, .ref P, b] 0) :: l)) : ∃ P', P' = P := ⟨_, rfl⟩
theorem play_out {h₀ h : Heap} {L L' I P W D : Addr} {x : Addr × Obj} {io o5 o4 o3 o2 o1 : Obj} {ps ws vs : List Value} {kp kw k : Nat} {news : List (Addr × Obj)} (N : News h₀ L h (x :: led2 L' I P W D io ps ws vs kp kw k o5 o4 o3 o2 o1 news)) :
    News h₀ L h (x :: (P, plainO ps kp) :: (D, plainO vs k) :: news) := by
  intro q hq
  refine N q ?_
  clear N
  first | (revert q hq; walk_at "SUB") | (simp only [List.mem_cons] at hq ⊢; grind)
noncomputable def playR (D : Addr) (k : Nat) (g : Net) (fin : St) (news : List (Addr × Obj)) (v : Value) (n' : List (Addr × Obj)) : Prop :=
  ∃ R P tf kp y1 y2 y3 vs, v = .ref R ∧ n' = (R, PySem.W.listOf #[.int (fin.fed : Nat) tf, .ref P, .ref D] 0) :: (P, plainO [.int (fin.p : Nat) y1, .int (fin.q : Nat) y2, .int (fin.r : Nat) y3] kp) :: (D, plainO vs k) :: news ∧ RowsC vs (fun i => rowN g i (fin.n i))
theorem play_spec (w : World) (D : Addr) (vs : List Value) (k : Nat) (fr la sh tu : Int) (t1 t2 t3 t4 : Tok) (news : List (Addr × Obj)) (g : Net) (st fin : St) (hg : NetOk g) (hsh0 : 0 ≤ sh) (hsh1 : sh < 30) (hfr0 : 0 ≤ fr) (hfr3 : fr < 3)
    (hs : sim g fr.toNat (decide (la = 1)) 30 st = some fin) (hb : ∀ i, i < 5 → 1 ≤ st.n i ∧ st.n i ≤ 30) (hst : st.fed = 1 ∧ st.p = 0 ∧ st.q = 0 ∧ st.r = 0) (hR : RowsC vs (fun i => rowN g i (st.n i))) (hDn : ∀ p ∈ news, p.1 ≠ D) :
    Call3 w 194 [.ref D, .int fr t1, .int la t2, .int sh t3, .int tu t4] ((D, plainO vs k) :: news) (playR D k g fin news) := by
 walk_at "ST"
 case oTag =>
  unfold Call3
  intros; rename_i hret
  walk_at "MY ENTERC"
  k_steps
  unfold Stop
  rename News _ _ _ _ => hNN
  rename Fr _ _ _ _ => hFF
  rename StrsAre _ _ => hWS
  rename NeAll _ _ => hWN
  rename (_ < _ ∧ _ < _ ∧ _ < _ ∧ _ < _ ∧ _ < _ ∧ _ < _ ∧ D < _ ∧ AllLt _ news) => hPL
  rename (D < _ ∧ AllLt _ news) => hDL
  obtain ⟨hst1, hst2, hst3, hst4⟩ := hst
  have hN2 := zero_ps hst2 hst3 hst4 hNN
  with_unfolding_all refine play_for (st := st) (fin := fin) (g := g) ‹Below _ _ _ _› ‹_› ‹_› (by show _ + 1 + 25 < recursionLimit; dsimp only; omega) (by show _ + 3 + 100 < cLine; dsimp only; omega) (by passes_own) (pM_end hFF rfl (by rw [hst1]; rfl) rfl rfl rfl rfl) hN2 (by assumption) (by assumption) (by assumption) (by assumption) (by assumption) hsh0 hsh1 hfr0 hfr3 hg hWS hWN hPL hDL.1 hDL.2 hDn hs hb hR ?_
  intro h' tk' m' R tf kp y1 y2 y3 vs' o5 o4 o3 I io F' N' hR'
  obtain ⟨P, hPP⟩ := get_P N'
  subst hPP
  k_steps
  exact hret _ _ _ _ ⟨R, P, tf, kp, y1, y2, y3, vs', rfl, rfl, hR'⟩ (by k_asm) (by rename News _ _ _ _ => hNo; exact play_out hNo)
 walk_at "EN"
end
section
noncomputable def HK : Hook := kHook KK KA (fun _ => by kernel_rfl)
noncomputable def WalkP : Prop := ∃ d kwd, defOf qq (Str.ofString "law") = some (d, kwd) ∧ WalkO qq LOOSE (XL qq []) HK.says PySem.Challenge.rw_uk0015_01.row.toRowW d kwd fun f vs => PySem.call f vs
theorem walk_of {d : DefRec} {kwd : List (Str × PySem.Expr)} (e : defOf qq (Str.ofString "law") = some (d, kwd)) (h : WalkO qq LOOSE (XL qq []) HK.says PySem.Challenge.rw_uk0015_01.row.toRowW d kwd fun f vs => PySem.call f vs) : WalkP := ⟨_, _, e, h⟩
end
section
theorem loose_is : looseW qq LOOSE = LOOSE := by decide +kernel
noncomputable def lEnv (L : Addr) : Env := envOfC (Str.ofString "law") { kind := ScopeKind.function, names := [(Str.ofString "script", NameKind.local), (Str.ofString "cells", NameKind.local), (Str.ofString "net", NameKind.cell), (Str.ofString "fed_row", NameKind.local), (Str.ofString "place", NameKind.cell), (Str.ofString "plain", NameKind.cell), (Str.ofString "typed", NameKind.local), (Str.ofString "points", NameKind.local), (Str.ofString "letters", NameKind.local), (Str.ofString "veil", NameKind.local), (Str.ofString "rest", NameKind.local), (Str.ofString "more", NameKind.local), (Str.ofString "sent", NameKind.local), (Str.ofString "folded", NameKind.local), (Str.ofString "played", NameKind.local), (Str.ofString "fed", NameKind.local), (Str.ofString "passed", NameKind.cell), (Str.ofString "due", NameKind.local), (Str.ofString "_law_cells", NameKind.globalImplicit), (Str.ofString "_law_net", NameKind.globalImplicit), (Str.ofString "range", NameKind.globalImplicit), (Str.ofString "_law_typed", NameKind.globalImplicit), (Str.ofString "_law_veil", NameKind.globalImplicit), (Str.ofString "_law_stay", NameKind.globalImplicit), (Str.ofString "_law_sent", NameKind.globalImplicit), (Str.ofString "_law_play", NameKind.globalImplicit), (Str.ofString "_law_told", NameKind.globalImplicit), (Str.ofString "sum", NameKind.globalImplicit)], isGenerator := false, isCoroutine := false, more := [(Str.ofString "fast", Const.str (Str.ofString "script")), (Str.ofString "fast", Const.str (Str.ofString "cells")), (Str.ofString "fast", Const.str (Str.ofString "net")), (Str.ofString "fast", Const.str (Str.ofString "fed_row")), (Str.ofString "fast", Const.str (Str.ofString "place")), (Str.ofString "fast", Const.str (Str.ofString "other")), (Str.ofString "fast", Const.str (Str.ofString "plain")), (Str.ofString "fast", Const.str (Str.ofString "typed")), (Str.ofString "fast", Const.str (Str.ofString "points")), (Str.ofString "fast", Const.str (Str.ofString "letters")), (Str.ofString "fast", Const.str (Str.ofString "veil")), (Str.ofString "fast", Const.str (Str.ofString "rest")), (Str.ofString "fast", Const.str (Str.ofString "more")), (Str.ofString "fast", Const.str (Str.ofString "sent")), (Str.ofString "fast", Const.str (Str.ofString "row")), (Str.ofString "fast", Const.str (Str.ofString "sign")), (Str.ofString "fast", Const.str (Str.ofString "folded")), (Str.ofString "fast", Const.str (Str.ofString "played")), (Str.ofString "fast", Const.str (Str.ofString "fed")), (Str.ofString "fast", Const.str (Str.ofString "passed")), (Str.ofString "fast", Const.str (Str.ofString "due"))] } L 204 (.ref 203)
noncomputable def lawS (i : Nat) : Stmt := stmtIn 77 i
theorem cells_call {w : World} {mean : ExcName → Option Value} {mg mb : Str → Option Value} {dp un : Nat} {gd : Option (List Code)} {env0 : Env} {outer : List Env} {A₀ : Around} {base h₀ : Heap} {L : Addr} {m : Str → Option Value} {s : Shared} {Q E : Value → Shared → Prop} {news : List (Addr × Obj)} {l : Addr} {vs : List Value} {ns : List Int}
    (kB : Below A₀ base outer h₀) (kF : Fr h₀ L s.heap m) (kX : (KK w.params).In h₀) (kN : News h₀ L s.heap news) (kT : Top qq LOOSE mean mg mb h₀) (kf : env0.frame = some L) (kk : env0.scope.kind = .function) (kd : dp + 10 < recursionLimit) (ku : un + 60 < cLine)
    (hl : base.IsList l vs.toArray) (hi : IntsAre vs ns) (hn : ns.length ≤ 63)
    (done : ∀ h' tk' a c0 c1 c2 c3 t0 t1 t2 t3 ep, Fr h₀ L h' m → News h₀ L h' ((a, PySem.W.listOf #[.int c0 t0, .int c1 t1, .int c2 t2, .int c3 t3] ep) :: news) → (∀ p ∈ news, @LT.lt Nat _ p.1 a) → (0 ≤ c0 ∧ c0 ≤ 64000000) → (0 ≤ c1 ∧ c1 ≤ 64000000) → (0 ≤ c2 ∧ c2 ≤ 64000000) → (0 ≤ c3 ∧ c3 ≤ 64000000) → Q (.ref a) { s with heap := h', toks := tk' }) :
    wpAny (model PW w) (AT dp un gd env0 outer) (call (.ref 144) [.ref l]) Q E s :=
  cells_spec w news l vs ns _ _ _ _ _ _ _ _ _ _ _ _ _ _ _ _ kB kF kX kN kT kf kk kd ku hl hi hn fun v h' tk' n' hR F N => by
    obtain ⟨a, c0, c1, c2, c3, t0, t1, t2, t3, ep, rfl, rfl, z, z0, z1, z2, z3⟩ := hR
    exact done _ _ _ _ _ _ _ _ _ _ _ _ F N z z0 z1 z2 z3
structure NetL (news : List (Addr × Obj)) (a b0 b1 b2 b3 b4 : Addr) : Prop where
  lt0 : ∀ p ∈ news, @LT.lt Nat _ p.1 b0
  l01 : @LT.lt Nat _ b0 b1
  l12 : @LT.lt Nat _ b1 b2
  l23 : @LT.lt Nat _ b2 b3
  l34 : @LT.lt Nat _ b3 b4
  l4a : @LT.lt Nat _ b4 a
theorem net_call {w : World} {mean : ExcName → Option Value} {mg mb : Str → Option Value} {dp un : Nat} {gd : Option (List Code)} {env0 : Env} {outer : List Env} {A₀ : Around} {base h₀ : Heap} {L : Addr} {m : Str → Option Value} {s : Shared} {Q E : Value → Shared → Prop} {news : List (Addr × Obj)} {i : Int} {t : Tok}
    (kB : Below A₀ base outer h₀) (kF : Fr h₀ L s.heap m) (kX : (KK w.params).In h₀) (kN : News h₀ L s.heap news) (kT : Top qq LOOSE mean mg mb h₀) (kf : env0.frame = some L) (kk : env0.scope.kind = .function) (kd : dp + 10 < recursionLimit) (ku : un + 60 < cLine)
    (done : ∀ h' tk' a b0 b1 b2 b3 b4 t0 t1 t2 u0 u1 u2, Fr h₀ L h' m → News h₀ L h' ((a, PySem.W.listOf #[.ref b0, .ref b1, .ref b2, .ref b3, .ref b4] 0) :: (b0, PySem.W.listOf #[.int (netF i 0) t0, .int (netS i 0) u0] 0) :: (b1, PySem.W.listOf #[.int (netF i 1) t1, .int (netS i 1) u1] 0) ::
      (b2, PySem.W.listOf #[.int (netF i 2) t2, .int (netS i 2) u2] 0) :: (b3, PySem.W.listOf #[] 0) :: (b4, PySem.W.listOf #[] 0) :: news) → NetL news a b0 b1 b2 b3 b4 → Q (.ref a) { s with heap := h', toks := tk' }) :
    wpAny (model PW w) (AT dp un gd env0 outer) (call (.ref 149) [.int i t]) Q E s :=
  net_spec w i t news _ _ _ _ _ _ _ _ _ _ _ _ _ _ _ _ kB kF kX kN kT kf kk kd ku fun v h' tk' n' hR F N => by
    obtain ⟨a, b0, b1, b2, b3, b4, t0, t1, t2, u0, u1, u2, rfl, rfl, z0, z1, z2, z3, z4, z5⟩ := hR
    exact done _ _ _ _ _ _ _ _ _ _ _ _ _ _ F N ⟨z0, z1, z2, z3, z4, z5⟩
end
section
section
variable {prog : Program} {w : World} {A : Around} {E : Value → Shared → Prop} {s : Shared} {env : Env} {m : Str → Option Value} {scope : Scope} {cl : List (Str × Addr)} {x : Str} {ifs : List PySem.Expr} {elt : PySem.Expr} {Q : Value → Shared → Prop}
theorem compAt_listK {ax : Addr} {vs : List Value} (hh : A.handled = none) (hns0 : s.heap.Ns env.locals m) (hl : s.heap.IsList ax vs.toArray) (hsz : vs.length ≤ sizeLine)
    (p : Value → Bool) (R : Value → Value → Prop)
    (tests : ∀ C v s₃ m₃ E', v ∈ vs → s₃.heap.Ns C m₃ → m₃ x = some v → (∀ b o, s.heap.get? b = some o → s₃.heap.get? b = some o) →
      wpAny (model prog w) A (forIn ifs true fun c r => if r = true then do let ok ← isTrue c (compEnvC scope cl C env) (eval c (compEnvC scope cl C env)); pure (ForInStep.yield ok) else pure (ForInStep.yield r)) (fun ok s₄ => ok = p v ∧ Keeps s₃ s₄) E' s₃)
    (elem : ∀ C v s₃ m₃ E', v ∈ vs → p v = true → s₃.heap.Ns C m₃ → m₃ x = some v → (∀ b o, s.heap.get? b = some o → s₃.heap.get? b = some o) →
      wpAny (model prog w) A (eval elt (compEnvC scope cl C env)) (fun y s₄ => R v y ∧ Keeps s₃ s₄) E' s₃)
    (done : ∀ D h' tk ys n, h'.get? D = some (plainO ys n) → (∀ b o, s.heap.get? b = some o → h'.get? b = some o) → Paired R (vs.filter p) ys → Q (.ref D) { s with heap := h', toks := tk }) :
    CompAt prog w A env scope cl x ifs elt none Q E (.ref ax) s := by
 walk_at "ST"
 case oTag =>
  obtain ⟨ol, hol, _⟩ := id hl
  have hne : ax ≠ s.heap.objs.size := Nat.ne_of_lt (Heap.lt_size hol)
  refine wpAny_pyIter_list hl ?_
  have W := Walks.list (prog := prog) (w := w) hh s.heap.objs.size ax hne vs.toArray
  have up : ∀ h' : Heap, (∀ b o, b ∉ [s.heap.objs.size] → (s.heap.push { cls := .type "list_iterator", data := .fields #[.ref ax, .int 0 0] }).get? b = some o → h'.get? b = some o) → ∀ b o, s.heap.get? b = some o → h'.get? b = some o :=
    fun h' hk b o e => hk b o (fun hm => absurd (Heap.lt_size e) (by rw [List.mem_singleton.mp hm]; exact Nat.lt_irrefl _)) (Heap.get?_push_of_some _ e)
  refine ⟨p, R, _, _, _, _, _, _, m, rfl, W, by simpa using hsz, ⟨⟨_, Heap.get?_push_size _ rfl, rfl, rfl⟩, hl.at fun o e => Heap.get?_push_of_some _ e⟩, ?_, ?_, hns0.at' (fun o e => Heap.get?_push_of_some _ e), ⟨?_, ?_⟩, ?_⟩
  · intro b hb
    rw [Heap.size_push]
    rcases List.mem_cons.mp hb with rfl | hb
    · exact Nat.lt_succ_self _
    · rw [List.mem_singleton.mp hb]; exact Nat.lt_succ_of_lt (Heap.lt_size hol)
  · intro hm
    have := List.mem_singleton.mp hm
    exact absurd hns0.lt (this ▸ Nat.lt_irrefl _)
  · intro C i v s₃ m₃ E' _ hP hns hx hk _
    exact tests C v s₃ m₃ E' (by have := List.mem_of_getElem? (show vs[i]? = some v by simpa using hP); exact this) hns hx (up _ hk)
  · intro C i v s₃ m₃ E' _ hP hp hns hx hk _
    exact elem C v s₃ m₃ E' (by have := List.mem_of_getElem? (show vs[i]? = some v by simpa using hP); exact this) hp hns hx (up _ hk)
  · intro D h' tk ys vs' hD _ hpl hlen hP hF hns hk
    have e : vs' = vs := by
      refine List.ext_getElem? fun i => ?_
      cases h1 : vs'[i]? with
      | some v => exact (by simpa using (hP i v h1) : vs[i]? = some v).symm
      | none =>
        have : vs.length ≤ i := by have := List.getElem?_eq_none_iff.mp h1; simp at hlen; omega
        exact (List.getElem?_eq_none_iff.mpr this).symm
    subst e
    obtain ⟨n, hn⟩ := hpl
    exact done D h' tk ys.toList n (by rw [hn]; simp [plainO]) (up _ fun b o hb e => hk b o (fun z => absurd rfl z) hb e) hF
 walk_at "EN"
theorem compAt_strK {y : Str} {t : Tok} (hh : A.handled = none) (hns0 : s.heap.Ns env.locals m) (hsz : y.cps.size ≤ sizeLine)
    (R : Value → Value → Prop)
    (elem : ∀ C (c : Nat) u s₃ m₃ E', c ∈ toL y → s₃.heap.Ns C m₃ → m₃ x = some (.str ⟨#[c]⟩ u) → (∀ b o, s.heap.get? b = some o → s₃.heap.get? b = some o) →
      wpAny (model prog w) A (eval elt (compEnvC scope cl C env)) (fun z s₄ => R (.str ⟨#[c]⟩ u) z ∧ Keeps s₃ s₄) E' s₃)
    (done : ∀ D h' tk ys n vs, h'.get? D = some (plainO ys n) → (∀ b o, s.heap.get? b = some o → h'.get? b = some o) → vs.length = (toL y).length → (∀ j v, vs[j]? = some v → SignAt y j v) → Paired R vs ys → Q (.ref D) { s with heap := h', toks := tk }) :
    CompAt prog w A env scope cl x [] elt none Q E (.str y t) s := by
 walk_at "ST"
 case oTag =>
  refine wpAny_pyIter_str fun o St hW hSt => ?_
  have W := hW A hh
  have up : ∀ h' : Heap, (∀ b ob, b ∉ [s.heap.objs.size] → (s.heap.push o).get? b = some ob → h'.get? b = some ob) → ∀ b ob, s.heap.get? b = some ob → h'.get? b = some ob :=
    fun h' hk b ob e => hk b ob (fun hm => absurd (Heap.lt_size e) (by rw [List.mem_singleton.mp hm]; exact Nat.lt_irrefl _)) (Heap.get?_push_of_some _ e)
  refine ⟨fun _ => true, R, _, _, _, _, _, _, m, rfl, W, hsz, hSt, ?_, ?_, hns0.at' (fun ob e => Heap.get?_push_of_some _ e), ⟨?_, ?_⟩, ?_⟩
  · intro b hb
    rw [Heap.size_push, List.mem_singleton.mp hb]
    exact Nat.lt_succ_self _
  · intro hm
    have := List.mem_singleton.mp hm
    exact absurd hns0.lt (this ▸ Nat.lt_irrefl _)
  · intro C i v s₃ m₃ E' _ hP hns hx hk _
    simp only [List.forIn_nil]
    exact wpAny_pure ⟨rfl, _, _, rfl, fun _ _ e => e⟩
  · intro C i v s₃ m₃ E' _ hP hp hns hx hk _
    obtain ⟨c, u, hc, rfl⟩ := hP
    exact elem C c u s₃ m₃ E' (by
      have := List.mem_of_getElem? (show y.cps.toList[i]? = some c by simpa using hc)
      exact this) hns hx (up _ hk)
  · intro D h' tk ys vs' hD _ hpl hlen hP hF hns hk
    obtain ⟨n, hn⟩ := hpl
    have hf : vs'.filter (fun _ => true) = vs' := List.filter_eq_self.mpr fun _ _ => rfl
    rw [hf] at hF
    exact done D h' tk ys.toList n vs' (by rw [hn]; simp [plainO]) (up _ fun b ob hb e => hk b ob (fun z => absurd rfl z) hb e) (by rw [hlen]; simp [toL]) hP hF
 walk_at "EN"
end
end
section
theorem join_eval {w : World} {A : Around} {E : Value → Shared → Prop} {s : Shared} {env : Env} {Q : Value → Shared → Prop} {sep : Str} {elt : PySem.Expr} {gens : List Comprehension} {scope : Scope} {p1 p2 p3 p4 : Pos} (hp : p2.endLine = p3.line)
    (h : ∀ t tk, wpAny (model PW w) A (eval (.ListComp elt gens scope p4) env) (fun v s₁ => wpAny (model PW w) A (call (.builtin "str.join") [.str sep t, v]) Q E s₁) E { s with toks := tk }) :
    wpAny (model PW w) A (eval (.Call (.Attribute (.Constant (.str sep) 0 p1) (Str.ofString "join") p2) [.ListComp elt gens scope p4] [] p3) env) Q E s := by
 walk_at "ST"
 case oTag =>
  have hb : (p2.endLine == p3.line) = true := by rw [hp]; exact beq_self_eq_true _
  refine MethodCall_ (pl := do return (← importBound (.Constant (.str sep) 0 p1) env).getD true) (wpAny_Constant_str (PySem.GM.join (callWith_method1 (spliced_more (wpAny_mono (h _ _) (fun v s₁ h₁ => spliced_none h₁) fun _ _ e => e))))) ?_
  have e1 : methodCallPos true (.Constant (.str sep) 0 p1) env p2 p3 = pure p3 := by
    unfold methodCallPos
    rw [hb]; rfl
  show (do
    let ov ← eval (.Constant (.str sep) 0 p1) env
    standAt p2.atName
    let (f, first) ← holding [ov] (getMethod ov (Str.ofString "join") (do return (← importBound (.Constant (.str sep) 0 p1) env).getD true))
    let callPos ← methodCallPos true (.Constant (.str sep) 0 p1) env p2 p3
    callWith callPos f first (backTo p3 (starEach [.ListComp elt gens scope p4] env)) []) = _
  rw [e1]
  rfl
 walk_at "EN"
theorem filst_item (k : Int) (h0 : 0 ≤ k) (h5 : k < 5) : Txt.item (Str.ofString "filst") k = ⟨#[ltr k.toNat]⟩ := by
  have key : ∀ k : Nat, k < 5 → Txt.item (Str.ofString "filst") (k : Int) = ⟨#[ltr k]⟩ := by decide +kernel
  have := key k.toNat (by omega)
  rwa [Int.toNat_of_nonneg h0] at this
theorem join_toL : ∀ (l : List Str), toL (Txt.join (Str.ofString "") l) = l.flatMap toL := by
  intro l
  show toL (Builtin.Str.glued (Str.ofString "") l) = _
  rw [StrLaws.glued_eq_join]
  have z : (Str.ofString "") = Str.empty := by decide +kernel
  rw [z]
  induction l with
  | nil => rfl
  | cons a r ih =>
    cases r with
    | nil =>
      show toL a = _
      simp
    | cons b r =>
      show toL (a ++ Str.empty ++ Str.join Str.empty (b :: r)) = _
      rw [Str.append_empty]
      unfold toL
      rw [Str.app_list]
      show toL a ++ toL (Str.join Str.empty (b :: r)) = _
      rw [ih]
      rfl
theorem join_single (l : List Nat) : toL (Txt.join (Str.ofString "") (l.map fun c => ⟨#[c]⟩)) = l := by
  rw [join_toL]
  induction l with
  | nil => rfl
  | cons a r ih => simp only [List.map_cons, List.flatMap_cons, ih]; rfl
theorem strs_of_pairsF {f : Int → Str} {vs : List Value} {ns : List Int} (h : IntsAre vs ns) : ∀ {ys : List Value}, Paired (fun v y => ∀ k t, v = .int k t → ∃ t, y = .str (f k) t) vs ys → StrsAre ys (ns.map f) := by
  induction h with
  | nil => intro ys hp; cases hp; exact .nil
  | cons k t _ ih =>
    intro ys hp
    cases hp with
    | cons a hp =>
      obtain ⟨u, rfl⟩ := a _ _ rfl
      exact .cons _ _ (ih hp)
theorem letters_inner {w : World} {A : Around} {E : Value → Shared → Prop} {s : Shared} {env : Env} {Q : Value → Shared → Prop} {mC : Str → Option Value} {scope : Scope} {vs : List Value} {ks : List Int} {q1 q2 q3 q4 qb : Pos} {iter : PySem.Expr}
    (hh : A.handled = none) (hns : s.heap.Ns env.locals mC) (hclos : closureFor scope env = pure []) (hcell : ∀ y ∈ scope.names, y.2 ≠ .cell) (hkind : scope.kind = .function)
    (hnames : ∀ y ∈ scope.names, y.2 = .local → scope.names.lookup y.1 = some .local) (hxl : scope.names.lookup (Str.ofString "other") = some .local) (hk : (relabel scope env).kind = .function) (hx : ∀ C, (compEnvC scope [] C env).kindOf (Str.ofString "other") = some .local)
    (hks : ∀ k ∈ ks, 0 ≤ k ∧ k < 5) (hkl : ks.length ≤ 5)
    (hiter : ∀ Q' : Value → Shared → Prop, (∀ D s₁, s₁.heap.IsList D vs.toArray → Keeps s s₁ → IntsAre vs ks → Q' (.ref D) s₁) → wpAny (model PW w) A (eval iter env) Q' E s)
    (done : ∀ D h' tk ys n, h'.get? D = some (plainO ys n) → (∀ b o, s.heap.get? b = some o → h'.get? b = some o) → StrsAre ys ((ks.map fun k => ltr k.toNat).map fun c => ⟨#[c]⟩) → Q (.ref D) { s with heap := h', toks := tk })
    (hs : ∀ x, foldedSetIterable iter env x = pure x) :
    wpAny (model PW w) A (eval (.ListComp (.Subscript (.Constant (.str (Str.ofString "filst")) 0 q1) (.Name (Str.ofString "other") q2) q3) [⟨.Name (Str.ofString "other") q4, iter, [], 0⟩] scope qb) env) Q E s := by
 walk_at "ST"
 case oTag =>
  refine comp_go hclos hcell hkind hnames hxl (hiter _ fun D s₁ hl hK hi => ?_) hs
  obtain ⟨h₁, tk₁, rfl, hk₁⟩ := hK
  have hlen := hi.length
  refine compAt_listK (s := { s with heap := h₁, toks := tk₁ }) (m := mC) hh (hns.at' fun o e => hk₁ _ _ e) hl (by rw [sizeLine_eq]; omega) (fun _ => true) (fun v y => ∀ k t, v = .int k t → ∃ t, y = .str ⟨#[ltr k.toNat]⟩ t) ?_ ?_ ?_
  · intro C v s₃ m₃ E' _ _ _ _
    simp only [List.forIn_nil]
    exact wpAny_pure ⟨rfl, _, _, rfl, fun _ _ e => e⟩
  · intro C v s₃ m₃ E' hv _ hns' hx' hk'
    obtain ⟨k, tk, rfl, hkm⟩ := ints_mem hi v hv
    obtain ⟨h0, h5⟩ := hks k hkm
    have l1 : ∀ {pos : Pos} {Q' E' : Value → Shared → Prop} {s' : Shared}, s'.heap = s₃.heap → Q' (.int k tk) s' → wpAny (model PW w) A (eval (.Name (Str.ofString "other") pos) (compEnvC scope [] C env)) Q' E' s' :=
      fun e h => wpAny_Name (wpAny_loadName_local hk (hx C) (e ▸ hns') hx' h) (by decide)
    refine Subscript_ (wpAny_Constant_str (l1 rfl (item_str ?_ ?_ ?_ fun _ => ⟨fun k' t' e => ?_, _, _, rfl, fun _ _ e => e⟩)))
    · exact fitsSsize_of (N := 9223372036854775808) (by omega) (by omega) (Int.le_refl _)
    · rw [show (Str.ofString "filst").length = 5 by decide +kernel]; omega
    · rw [show (Str.ofString "filst").length = 5 by decide +kernel]; omega
    · injection e with e _
      subst e
      exact ⟨_, by rw [filst_item k h0 h5]⟩
  · intro D' h' tk' ys n e1 e2 hpair
    have hf : vs.filter (fun _ => true) = vs := List.filter_eq_self.mpr fun _ _ => rfl
    rw [hf] at hpair
    refine done D' h' tk' ys n e1 (fun b o e => e2 b o (hk₁ b o e)) ?_
    rw [List.map_map]
    exact strs_of_pairsF (f := fun k => ⟨#[ltr k.toNat]⟩) hi hpair
 walk_at "EN"
end
section
noncomputable def plStr (ks : List Int) : Str := Txt.join (Str.ofString "") ((ks.map fun k => ltr k.toNat).map fun c => ⟨#[c]⟩)
theorem plStr_toL (ks : List Int) : toL (plStr ks) = ks.map fun k => ltr k.toNat := join_single _
structure NetV (news : List (Addr × Obj)) (a b0 b1 b2 b3 b4 : Addr) (f0 s0 f1 s1 f2 s2 : Int) : Prop where
  ha : (a, PySem.W.listOf #[.ref b0, .ref b1, .ref b2, .ref b3, .ref b4] 0) ∈ news
  h0 : ∃ t u, (b0, PySem.W.listOf #[.int f0 t, .int s0 u] 0) ∈ news
  h1 : ∃ t u, (b1, PySem.W.listOf #[.int f1 t, .int s1 u] 0) ∈ news
  h2 : ∃ t u, (b2, PySem.W.listOf #[.int f2 t, .int s2 u] 0) ∈ news
  h3 : (b3, PySem.W.listOf #[] 0) ∈ news
  h4 : (b4, PySem.W.listOf #[] 0) ∈ news
  r0 : (0 ≤ f0 ∧ f0 < 5) ∧ 0 ≤ s0 ∧ s0 < 5
  r1 : (0 ≤ f1 ∧ f1 < 5) ∧ 0 ≤ s1 ∧ s1 < 5
  r2 : (0 ≤ f2 ∧ f2 < 5) ∧ 0 ≤ s2 ∧ s2 < 5
noncomputable def rowK (f0 s0 f1 s1 f2 s2 : Int) (k : Int) : List Int := if k = 0 then [0, f0, s0] else if k = 1 then [1, f1, s1] else if k = 2 then [2, f2, s2] else [k]
theorem joinW {w : World} {A : Around} {E : Value → Shared → Prop} {s : Shared} {D : Addr} {ys : List Value} {l : List Nat} {t : Tok} {n : Nat} {Q : Value → Shared → Prop} (hl : s.heap.get? D = some (plainO ys n)) (hS : StrsAre ys (l.map fun c => ⟨#[c]⟩)) (hz : l.length ≤ 1000)
    (h : ∀ t' k, Q (.str (Txt.join (Str.ofString "") (l.map fun c => ⟨#[c]⟩)) t') { s with toks := k }) : wpAny (model PW w) A (call (.builtin "str.join") [.str (Str.ofString "") t, .ref D]) Q E s := by
  refine join_list (items := ys.toArray) ⟨_, hl, rfl, _, rfl⟩ (by simpa using hS) ?_ h
  have e : (Str.ofString "").length = 0 := by decide +kernel
  have key : ∀ l : List Nat, ((l.map fun c => (⟨#[c]⟩ : Str)).map (·.length)).sum = l.length := by
    intro l
    induction l with
    | nil => rfl
    | cons a r ih => simp only [List.map_cons, List.sum_cons, List.length_cons, ih]; show 1 + _ = _; omega
  rw [e, key]; omega
theorem plain_comp {w : World} {A : Around} {env : Env} {E : Value → Shared → Prop} {s : Shared} {Q : Value → Shared → Prop} {h₀ : Heap} {m : Str → Option Value} {scope sc2 : Scope} {cl : List (Str × Addr)} {dst : Option Str} {r cn a b0 b1 b2 b3 b4 : Addr} {ro on : Obj} {t u v : Tok} {news : List (Addr × Obj)} {f0 s0 f1 s1 f2 s2 : Int}
    {p1 p2 p3 p4 q1 q2 q3 q4 q5 q6 q7 q8 q9 qa : Pos}
    (hh : A.handled = none) (F : Fr h₀ env.locals s.heap m) (N : News h₀ env.locals s.heap news) (hr : s.heap.get? r = some ro)
    (hro : ro = { cls := .type "range", dict := none, data := .fields #[.int 0 t, .int 5 u, .int 1 v], slots := #[] })
    (hpos : p2.endLine = p3.line) (hk : (relabel scope env).kind = .function) (hx : ∀ C, (compEnvC scope cl C env).kindOf (Str.ofString "place") = some .local) (hy : ∀ C, (compEnvC scope cl C env).kindOf (Str.ofString "net") = some .cell)
    (hc1 : cl.lookup (Str.ofString "net") = some cn) (hm1 : (cn, on) ∈ news) (hd1 : on.data = .cell (some (.ref a))) (hnet : NetV news a b0 b1 b2 b3 b4 f0 s0 f1 s1 f2 s2)
    (hclos : ∀ C, closureFor sc2 (compEnvC scope cl C env) = pure []) (hcell : ∀ y ∈ sc2.names, y.2 ≠ .cell) (hkind : sc2.kind = .function)
    (hnames : ∀ y ∈ sc2.names, y.2 = .local → sc2.names.lookup y.1 = some .local) (hxl : sc2.names.lookup (Str.ofString "other") = some .local) (hk2 : ∀ C, (relabel sc2 (compEnvC scope cl C env)).kind = .function) (hx2 : ∀ C C2, (compEnvC sc2 [] C2 (compEnvC scope cl C env)).kindOf (Str.ofString "other") = some .local)
    (hfs : ∀ C x, foldedSetIterable (.BinOp (.List [.Name (Str.ofString "place") q5] q6) .Add (.Subscript (.Name (Str.ofString "net") q7) (.Name (Str.ofString "place") q8) q9) qa) (compEnvC scope cl C env) x = pure x)
    (done : ∀ D h' tk ys n, Fr h₀ env.locals h' (match dst with | some y => fun z => if z = y then some (.ref D) else m z | none => m) → News h₀ env.locals h' ((D, plainO ys n) :: news) → (∀ q ∈ news, @Ne Nat q.1 D) →
      StrsAre ys [plStr [0, f0, s0], plStr [1, f1, s1], plStr [2, f2, s2], plStr [3], plStr [4]] → Q (.ref D) { s with heap := h', toks := tk }) :
    CompAt PW w A env scope cl (Str.ofString "place") [] (.Call (.Attribute (.Constant (.str (Str.ofString "")) 0 p1) (Str.ofString "join") p2) [.ListComp (.Subscript (.Constant (.str (Str.ofString "filst")) 0 q1) (.Name (Str.ofString "other") q2) q3)
      [⟨.Name (Str.ofString "other") q4, .BinOp (.List [.Name (Str.ofString "place") q5] q6) .Add (.Subscript (.Name (Str.ofString "net") q7) (.Name (Str.ofString "place") q8) q9) qa, [], 0⟩] sc2 p4] [] p3) dst Q E (.ref r) s := by
 walk_at "ST"
 case oTag =>
  refine compAt_range hh F N hr hro (by decide +kernel) 5 (by decide) (by decide +kernel) (fun _ => true) (fun v y => ∀ k t, v = .int k t → ∃ t, y = .str (plStr (rowK f0 s0 f1 s1 f2 s2 k)) t) ?_ ?_ ?_
  · intro C k t s₃ m₃ E' _ _ _ _ _ _
    simp only [List.forIn_nil]
    exact wpAny_pure ⟨rfl, _, _, rfl, fun _ _ e => e⟩
  · intro C k tk s₃ m₃ E' hk0 hk5 _ hns hx' F' N'
    have main : ∀ (bk : Addr) (xs : List Value) (ks : List Int), (#[Value.ref b0, .ref b1, .ref b2, .ref b3, .ref b4] : Array Value)[k.toNat]? = some (.ref bk) → (bk, PySem.W.listOf xs.toArray 0) ∈ news → IntsAre xs ks → rowK f0 s0 f1 s1 f2 s2 k = k :: ks → (∀ j ∈ k :: ks, 0 ≤ j ∧ j < 5) → ks.length ≤ 2 →
        wpAny (model PW w) A (eval (.Call (.Attribute (.Constant (.str (Str.ofString "")) 0 p1) (Str.ofString "join") p2) [.ListComp (.Subscript (.Constant (.str (Str.ofString "filst")) 0 q1) (.Name (Str.ofString "other") q2) q3)
          [⟨.Name (Str.ofString "other") q4, .BinOp (.List [.Name (Str.ofString "place") q5] q6) .Add (.Subscript (.Name (Str.ofString "net") q7) (.Name (Str.ofString "place") q8) q9) qa, [], 0⟩] sc2 p4] [] p3) (compEnvC scope cl C env)) (fun y s₄ => (∀ k' t, Value.int k tk = .int k' t → ∃ t, y = .str (plStr (rowK f0 s0 f1 s1 f2 s2 k')) t) ∧ Keeps s₃ s₄) E' s₃ := by
      intro bk xs ks e1 e2 e3 e4 e5 e6
      refine join_eval hpos fun tj tkj => ?_
      refine letters_inner (s := { s₃ with toks := tkj }) (vs := .int k tk :: xs) (ks := k :: ks) (mC := m₃) hh hns (hclos C) hcell hkind hnames hxl (hk2 C) (hx2 C) e5 (by simp; omega) (fun Q' hQ' => ?_) (fun D h' tk' ys n g1 g2 g3 => ?_) (hfs C)
      · have l1 : ∀ {pos : Pos} {Q' E' : Value → Shared → Prop} {s' : Shared}, s'.heap.Ns C m₃ → Q' (.int k tk) s' → wpAny (model PW w) A (eval (.Name (Str.ofString "place") pos) (compEnvC scope cl C env)) Q' E' s' :=
          fun e h => wpAny_Name (wpAny_loadName_local hk (hx C) e hx' h) (by decide)
        have l2 : ∀ {pos : Pos} {Q' E' : Value → Shared → Prop} {s' : Shared}, (s'.heap.get? cn = some on) → Q' (.ref a) s' → wpAny (model PW w) A (eval (.Name (Str.ofString "net") pos) (compEnvC scope cl C env)) Q' E' s' :=
          fun e h => wpAny_Name (wpAny_loadName_cell hk (hy C) hc1 ⟨on, e, hd1⟩ h) (by decide)
        refine wpAny_BinOp (List_ (spliced_more (l1 hns (spliced_none (wpAny_newList ?_ (by show (1 : Nat) ≤ sizeLine; rw [sizeLine_eq]; decide))))))
        have up : ∀ b o, s₃.heap.get? b = some o → (s₃.heap.push { cls := .type "list", data := .seq [Value.int k tk].toArray }).get? b = some o := fun _ _ e => Heap.get?_push_of_some _ e
        have hla : (s₃.heap.push { cls := .type "list", data := .seq [Value.int k tk].toArray }).IsList a #[.ref b0, .ref b1, .ref b2, .ref b3, .ref b4] := ⟨_, up _ _ (N'.get hnet.ha), rfl, _, rfl⟩
        refine wpAny_Subscript_Name (T := "list") slot_list_getitem.lookup (l2 (up _ _ (N'.get hm1)) (l1 (hns.at' fun o e => up _ _ e) ⟨hla.typeIs, wpAny_getItem_list hla hk0 (by omega) e1 ?_⟩))
        refine PySem.P.add_list (n := 0) (n2 := 0) (Heap.get?_push_size _ rfl) (up _ _ (N'.get e2)) ?_ (by
          have := e3.length
          simp [sizeLine_eq]; omega)
        refine hQ' _ _ ⟨_, Heap.get?_push_size _ rfl, rfl, 0, by simp⟩ ⟨_, _, rfl, fun b o e => Heap.get?_push_of_some _ (up b o e)⟩ (.cons _ _ e3)
      · refine joinW g1 g3 (by simp; omega) fun t' k' => ⟨fun k2 t2 e => ?_, _, _, rfl, g2⟩
        injection e with e _
        subst e
        exact ⟨_, by rw [e4]; rfl⟩
    have hn : k = 0 ∨ k = 1 ∨ k = 2 ∨ k = 3 ∨ k = 4 := by omega
    obtain ⟨⟨r1, r2⟩, r3, r4⟩ := hnet.r0
    obtain ⟨⟨r5, r6⟩, r7, r8⟩ := hnet.r1
    obtain ⟨⟨r9, ra⟩, rb, rc⟩ := hnet.r2
    obtain ⟨_, _, h0⟩ := hnet.h0
    obtain ⟨_, _, h1⟩ := hnet.h1
    obtain ⟨_, _, h2⟩ := hnet.h2
    rcases hn with rfl | rfl | rfl | rfl | rfl
    · exact main b0 _ [f0, s0] rfl h0 (.cons _ _ (.cons _ _ .nil)) rfl (by simp; omega) (by simp)
    · exact main b1 _ [f1, s1] rfl h1 (.cons _ _ (.cons _ _ .nil)) rfl (by simp; omega) (by simp)
    · exact main b2 _ [f2, s2] rfl h2 (.cons _ _ (.cons _ _ .nil)) rfl (by simp; omega) (by simp)
    · exact main b3 [] [] rfl hnet.h3 .nil rfl (by simp) (by simp)
    · exact main b4 [] [] rfl hnet.h4 .nil rfl (by simp) (by simp)
  · intro D h' tk ys n vs F' N' ne hvs hpair
    refine done D h' tk ys n F' N' ne ?_
    have hf : vs.filter (fun _ => true) = vs := List.filter_eq_self.mpr fun _ _ => rfl
    rw [hf] at hpair
    exact strs_of_pairsF (f := fun k => plStr (rowK f0 s0 f1 s1 f2 s2 k)) hvs hpair
 walk_at "EN"
end
section
structure TypW (ls : List Nat) (x : Str) : Prop where
  fl : ((toL x).flatMap fun c => toL (mapS c)) = ls
  ok : ∀ c ∈ toL x, b1S c = false ∧ c ≠ 10 ∧ c ≠ 13 ∧ c ≠ 46
  sz : x.length ≤ 3
theorem typed_call {w : World} {mean : ExcName → Option Value} {mg mb : Str → Option Value} {dp un : Nat} {gd : Option (List Code)} {env0 : Env} {outer : List Env} {A₀ : Around} {base h₀ : Heap} {L : Addr} {m : Str → Option Value} {s : Shared} {Q E : Value → Shared → Prop} {news : List (Addr × Obj)} {w0 : Str} {wy : Int} {t u : Tok} {ls : List Nat}
    (kB : Below A₀ base outer h₀) (kF : Fr h₀ L s.heap m) (kX : (KK w.params).In h₀) (kN : News h₀ L s.heap news) (kT : Top qq LOOSE mean mg mb h₀) (kf : env0.frame = some L) (kk : env0.scope.kind = .function) (kd : dp + 10 < recursionLimit) (ku : un + 60 < cLine)
    (hw : toL w0 = ls) (hl : ls.all isLetter = true) (hz : ls.length ≤ 3)
    (done : ∀ h' tk' t' x, Fr h₀ L h' m → News h₀ L h' news → TypW ls x → x.length ≤ 3 → Q (.str x t') { s with heap := h', toks := tk' }) :
    wpAny (model PW w) (AT dp un gd env0 outer) (call (.ref 170) [.str w0 t, .int wy u]) Q E s := by
 walk_at "ST"
 case oTag =>
  subst hw
  refine typed_spec w w0 wy t u news hl (by simpa [toL] using hz) _ _ _ _ _ _ _ _ _ _ _ _ _ _ _ _ kB kF kX kN kT kf kk kd ku fun v h' tk' n' hR F N => ?_
  obtain ⟨rfl, x, t', rfl, pre, e1, e2, e3, e4, _, e5⟩ := hR
  have hx3 : x.length ≤ 3 := by
    have : x.length = x.cps.size := rfl
    omega
  refine done _ _ _ x F N ⟨?_, fun c hc => ?_, hx3⟩ hx3
  · rw [show (Str.ofString "").cps.toList = [] by decide +kernel, List.append_nil] at e1
    show _ = w0.cps.toList
    rw [e1]; exact e2
  · have := List.all_eq_true.mp e3 c hc
    simp only [Bool.and_eq_true, Bool.not_eq_true', bne_iff_ne, ne_eq] at this
    exact ⟨this.1.1.1, this.1.1.2, this.1.2, this.2⟩
 walk_at "EN"
noncomputable def ltM (fr : Int) (tf : Tok) (Ty Ce : Addr) (mx : Str → Option Value) : Str → Option Value := fun y =>
  if y = Str.ofString "typed" then some (.ref Ty) else if y = Str.ofString "cells" then some (.ref Ce) else if y = Str.ofString "fed_row" then some (.int fr tf) else mx y
theorem ltM_end {h₀ h : Heap} {L : Addr} {m' : Str → Option Value} {fr : Int} {tf : Tok} {Ty Ce : Addr} (F : Fr h₀ L h m')
    (e1 : m' (Str.ofString "typed") = some (.ref Ty)) (e2 : m' (Str.ofString "cells") = some (.ref Ce)) (e3 : m' (Str.ofString "fed_row") = some (.int fr tf)) : Fr h₀ L h (ltM fr tf Ty Ce m') := by
  have : m' = ltM fr tf Ty Ce m' := by
    funext y
    unfold ltM
    repeat (split; (next q => rw [q]; assumption))
    rfl
  exact this ▸ F
structure RowT (p fr : Int) (ls : List Nat) (y : Str) : Prop where
  ex : ∃ (x : Str) (v1 v2 : Nat), TypW ls x ∧ (b1S v1 = true ∧ v1 ≠ 46 ∧ v1 ≠ 10 ∧ v1 ≠ 13) ∧ (b1S v2 = true ∧ v2 ≠ 46 ∧ v2 ≠ 10 ∧ v2 ≠ 13) ∧ toL y = (if p = fr then [] else [v1]) ++ (if p < 3 then [46, 46] else [46]) ++ toL x ++ [v2]
theorem dots2 : toL (Str.ofString "..") = [46, 46] := by decide +kernel
theorem dots1 : toL (Str.ofString ".") = [46] := by decide +kernel
theorem dots0 : toL (Str.ofString "") = [] := by decide +kernel
theorem toL_app (x y : Str) : toL (x ++ y) = toL x ++ toL y := Str.app_list x y
theorem row_mk {p fr : Int} {ls : List Nat} {a b x : Str} {i j : Int} (hx : TypW ls x) (ha : toL a = if p = fr then [] else [veilC i]) (hb : toL b = if p < 3 then [46, 46] else [46]) : RowT p fr ls (a ++ b ++ x ++ ⟨#[veilC j]⟩) :=
  ⟨x, veilC i, veilC j, hx, veil_b1 i, veil_b1 j, by
    rw [toL_app, toL_app, toL_app, ha, hb]
    rfl⟩
end
section
open ZL ZTypl
example : True := by
  k_with "!MY NE" => (guard_expr onTypl =~ onTypl; first | (refine' ne_r ?hh_153 ?hm_153; (case hh_153 => assumption); (case hm_153 => k_mem)) | (refine' ne_l ?hh_153 ?hm_153; (case hh_153 => assumption); (case hm_153 => k_mem)) | (refine neN ?_; (try dsimp only); omega))
  k_with "!MY ALL" => (guard_expr onTypl =~ onTypl; first | assumption | exact NeAll.all (by assumption))
  k_with "!MY CALLED" => (guard_expr onTypl =~ onTypl; ((case kB => assumption); (case kF => assumption); (case kX => assumption); (case kN => assumption); (case kT => assumption); (case kf => exact rfl); (case kk => exact rfl); (case kd => (show _ < recursionLimit; (try dsimp only); omega)); (case ku => (show _ < cLine; (try dsimp only); omega)); k_whole))
  k_with "!call ref" => (guard_expr onTypl =~ onTypl; (k_here; (with_reducible show wpAny _ _ (call (Value.ref 156) [_]) _ _ _); k_dflt (refine' veil_call ?kB ?kF ?kX ?kN ?kT ?kf ?kk ?kd ?ku ?_; walk_at "MY CALLED"; intro hq''k tq''k tn''k F''k N''k)))
  k_with "!call ref" => (guard_expr onTypl =~ onTypl; (k_here; (with_reducible show wpAny _ _ (call (Value.ref 170) [_, _]) _ _ _); k_dflt (refine' typed_call ?kB ?kF ?kX ?kN ?kT ?kf ?kk ?kd ?ku ?hw_157 ?hl_157 ?hz_157 ?_; walk_at "MY CALLED"; (case hw_157 => assumption); (case hl_157 => assumption); (case hz_157 => assumption); intro hq''k tq''k tn''k xq''k F''k N''k hTW''k hx3''k)))
  k_with "!subscriptTail Name Name ref int" => (guard_expr onTypl =~ onTypl; (k_here; k_dflt (refine' item_at ?k1_158 ?k2_158 ?k3_158 ?k4_158 ?_; (case k1_158 => exact ⟨_, News.get (by k_asm) (by k_mem), rfl, _, rfl⟩); (case k2_158 => omega); (case k3_158 => omega); (case k4_158 => assumption); k_whole)))
  k_with "!call builtin:list.append" => (guard_expr onTypl =~ onTypl; (k_here; (with_reducible show wpAny _ _ (call (Value.builtin "list.append") [Value.ref _, _]) _ _ _); k_dflt (refine' append_N ?k1_159 ?k2_159 ?k3_159 ?k4_159 ?_; (case k1_159 => assumption); (case k2_159 => assumption); (case k3_159 => exact UpdF.head (NeAll.all (by assumption))); (case k4_159 => assumption); k_whole; intro h''k ka'k F''k N''k)))
  trivial
section
variable {w : World} {dp un : Nat} {gd : Option (List Code)} {outer : List Env} {A₀ : Around} {base : Heap} {E : Value → Shared → Prop} {s : Shared} {Q : Flow → Shared → Prop} {h₀ : Heap} {L Ty Ce Pl : Addr} {mx mg mb : Str → Option Value} {mean : ExcName → Option Value} {rest : List (Addr × Obj)} {op oc : Obj} {ts ws : List Value} {nt kw ep : Nat}
  {fr p c0 c1 c2 c3 : Int} {tf tp t0 t1 t2 t3 tw : Tok} {ls : List Nat} {wd : Str}
theorem typ_body (B : Below A₀ base outer h₀) (X : (KK w.params).In h₀) (T : Top qq LOOSE mean mg mb h₀) (F : Fr h₀ L s.heap (ltM fr tf Ty Ce mx))
    (N : News h₀ L s.heap ((Ty, plainO ts nt) :: (L + 1 + 1, op) :: (L + 1 + 1 + 1, oc) :: (Pl, plainO ws kw) :: (Ce, PySem.W.listOf #[.int c0 t0, .int c1 t1, .int c2 t2, .int c3 t3] ep) :: rest)) (hdp : dp + 40 < recursionLimit) (hun : un + 150 < cLine)
    (d2 : op.data = .cell (some (.int p tp))) (d3 : oc.data = .cell (some (.ref Pl))) (hp0 : 0 ≤ p) (hp5 : p < 5) (z1 : 0 ≤ c1 ∧ c1 ≤ 64000000) (z2 : 0 ≤ c2 ∧ c2 ≤ 64000000) (hfr : 0 ≤ fr ∧ fr < 3)
    (hv : ws[p.toNat]? = some (.str wd tw)) (hw : toL wd = ls) (hl : ls.all isLetter = true) (hz : ls.length ≤ 3) (htl : ts.length ≤ 1000)
    (hTy : NeAll Ty ((L + 1 + 1, op) :: (L + 1 + 1 + 1, oc) :: (Pl, plainO ws kw) :: (Ce, PySem.W.listOf #[.int c0 t0, .int c1 t1, .int c2 t2, .int c3 t3] ep) :: rest))
    (done : ∀ h' tk' m' y ty nt', Fr h₀ L h' (ltM fr tf Ty Ce m') → News h₀ L h' ((Ty, plainO (ts ++ [.str y ty]) nt') :: (L + 1 + 1, op) :: (L + 1 + 1 + 1, oc) :: (Pl, plainO ws kw) :: (Ce, PySem.W.listOf #[.int c0 t0, .int c1 t1, .int c2 t2, .int c3 t3] ep) :: rest) → RowT p fr ls y → Q .next { s with heap := h', toks := tk' }) :
    wpAny (model PW w) (AT dp un gd (lEnv L) outer) (execs (forBody (lawS 5)) (lEnv L)) Q E s := by
 walk_at "ST"
 case oTag =>
  unfold lEnv
  with_unfolding_all show wpAny _ _ (execs [_, _, _, _] _) _ _ _
  unfold ltM at F
  k_steps
  all_goals refine done _ _ _ _ _ _ (ltM_end ‹Fr _ _ _ _› rfl rfl rfl) ‹News _ _ _ _› ?_
  all_goals first
    | exact row_mk (i := c2 + 5 * p) ‹TypW _ _› (by rw [if_neg (show p ≠ fr by first | assumption | omega)]; rfl) (by rw [if_pos ‹p < 3›]; exact dots2)
    | exact row_mk (i := c2 + 5 * p) ‹TypW _ _› (by rw [if_pos ‹p = fr›]; exact dots0) (by rw [if_pos ‹p < 3›]; exact dots2)
    | exact row_mk (i := c2 + 5 * p) ‹TypW _ _› (by rw [if_neg (show p ≠ fr by first | assumption | omega)]; rfl) (by rw [if_neg ‹¬ p < 3›]; exact dots1)
    | exact row_mk (i := c2 + 5 * p) ‹TypW _ _› (by rw [if_pos ‹p = fr›]; exact dots0) (by rw [if_neg ‹¬ p < 3›]; exact dots1)
 walk_at "EN"
end
end
section
open ZL ZTypf
structure RowsT (fr : Int) (lsf : Nat → List Nat) (ts : List Value) (j : Nat) : Prop where
  ex : ∃ ys, StrsAre ts ys ∧ ys.length = j ∧ ∀ i, i < j → RowT (i : Nat) fr (lsf i) (ys.getD i (Str.ofString ""))
theorem strs_snocT {vs : List Value} {ys : List Str} (h : StrsAre vs ys) (x : Str) (t : Tok) : StrsAre (vs ++ [.str x t]) (ys ++ [x]) := by
  induction h with
  | nil => exact .cons _ _ .nil
  | cons y u _ ih => exact .cons _ _ ih
theorem RowsT.snoc {fr : Int} {lsf : Nat → List Nat} {ts : List Value} {j : Nat} (h : RowsT fr lsf ts j) {y : Str} {t : Tok} (hy : RowT (j : Nat) fr (lsf j) y) : RowsT fr lsf (ts ++ [.str y t]) (j + 1) := by
 walk_at "ST"
 case oTag =>
  obtain ⟨ys, a, b, c⟩ := h.ex
  refine ⟨ys ++ [y], strs_snocT a _ _, by simp [b], fun i hi => ?_⟩
  by_cases hij : i = j
  · subst hij
    have : (ys ++ [y]).getD i (Str.ofString "") = y := by simp [List.getD_eq_getElem?_getD, ← b]
    rw [this]; exact hy
  · have hi' : i < ys.length := by omega
    have : (ys ++ [y]).getD i (Str.ofString "") = ys.getD i (Str.ofString "") := by simp [List.getD_eq_getElem?_getD, List.getElem?_append_left hi']
    rw [this]; exact c i (by omega)
 walk_at "EN"
noncomputable abbrev cellsO (c0 c1 c2 c3 : Int) (t0 t1 t2 t3 : Tok) (ep : Nat) : Obj := PySem.W.listOf #[.int c0 t0, .int c1 t1, .int c2 t2, .int c3 t3] ep
example : True := by
  k_with "!readr" => (guard_expr onTypf =~ onTypf; (first | walk_at "SUB" | (intro a'k ha'k; simp only [List.map_cons, List.mem_cons] at *; grind)))
  k_with "!pyIter ref" => (guard_expr onTypf =~ onTypf; (k_here; refine Stop.mk ?_))
  trivial
section
variable {w : World} {dp un : Nat} {gd : Option (List Code)} {outer : List Env} {A₀ : Around} {base : Heap} {E : Value → Shared → Prop} {Q : Flow → Shared → Prop} {h₀ : Heap} {L Ty Ce Pl J : Addr} {mg mb : Str → Option Value} {mean : ExcName → Option Value} {rest : List (Addr × Obj)} {oc : Obj} {ws : List Value} {wss : List Str} {kw ep : Nat}
  {fr c0 c1 c2 c3 : Int} {tf t0 t1 t2 t3 : Tok} {px : Pos}
theorem typ_loop (B : Below A₀ base outer h₀) (X : (KK w.params).In h₀) (T : Top qq LOOSE mean mg mb h₀) (hdp : dp + 40 < recursionLimit) (hun : un + 150 < cLine) (hE : PassesOwn (model PW w) (AT dp un gd (lEnv L) outer) (lEnv L) E)
    (d3 : oc.data = .cell (some (.ref Pl))) (z1 : 0 ≤ c1 ∧ c1 ≤ 64000000) (z2 : 0 ≤ c2 ∧ c2 ≤ 64000000) (hfr : 0 ≤ fr ∧ fr < 3) (hws : StrsAre ws wss) (hw5 : wss.length = 5)
    (hl : ∀ i, i < 5 → (toL (wss.getD i (Str.ofString ""))).all isLetter = true) (hz : ∀ i, i < 5 → (toL (wss.getD i (Str.ofString ""))).length ≤ 3)
    (hJ : NeA J (Ty :: (L + 1 + 1) :: (L + 1 + 1 + 1) :: Pl :: Ce :: rest.map (·.1))) (hTy : NeA Ty (J :: (L + 1 + 1) :: (L + 1 + 1 + 1) :: Pl :: Ce :: rest.map (·.1))) (hc2 : NeA (L + 1 + 1) (J :: Ty :: (L + 1 + 1 + 1) :: Pl :: Ce :: rest.map (·.1))) (s0 : Shared)
    (done : ∀ h' tk' m' ts nt op v2, Fr h₀ L h' (ltM fr tf Ty Ce m') → News h₀ L h' ((Ty, plainO ts nt) :: (L + 1 + 1, op) :: (L + 1 + 1 + 1, oc) :: (Pl, plainO ws kw) :: (Ce, cellsO c0 c1 c2 c3 t0 t1 t2 t3 ep) :: rest) → op.data = .cell v2 →
      RowsT fr (fun i => toL (wss.getD i (Str.ofString ""))) ts 5 → Q .next { s0 with heap := h', toks := tk' }) :
    ∀ (n j : Nat), j + n = 5 → ∀ h tk mx ts nt op v2, RowsT fr (fun i => toL (wss.getD i (Str.ofString ""))) ts j → op.data = .cell v2 → Fr h₀ L h (ltM fr tf Ty Ce mx) →
      News h₀ L h ((J, rIt (j : Int) ((n : Nat) : Int)) :: (Ty, plainO ts nt) :: (L + 1 + 1, op) :: (L + 1 + 1 + 1, oc) :: (Pl, plainO ws kw) :: (Ce, cellsO c0 c1 c2 c3 t0 t1 t2 t3 ep) :: rest) →
      LoopE PW w (AT dp un gd (lEnv L) outer) (tgt px) (forBody (lawS 5)) [] (lEnv L) J Q E { s0 with heap := h, toks := tk }
  | 0, j, hj, h, tk, mx, ts, nt, op, v2, hR, d2, F, N => by
    have hj' : j = 5 := by omega
    subst hj'
    have hI : ∀ p ∈ ((Ty, plainO ts nt) :: (L + 1 + 1, op) :: (L + 1 + 1 + 1, oc) :: (Pl, plainO ws kw) :: (Ce, cellsO c0 c1 c2 c3 t0 t1 t2 t3 ep) :: rest), p.1 ≠ J := NeAll.all (hJ.to (fun a ha => ha))
    exact loop_doneE (s := { s0 with heap := h, toks := tk }) rfl F N (.head hI) (by decide) hE fun h5 F5 N5 => wpAny_execs_nil (done h5 tk mx ts nt op v2 F5 N5 d2 hR)
  | n + 1, j, hj, h, tk, mx, ts, nt, op, v2, hR, d2, F, N => by
    refine loop_itemE (s := { s0 with heap := h, toks := tk }) F N (.head ?hI) (by omega) hE (fun _ => rfl) fun h1 t tk1 F1 N1 => ?_
    case hI => exact NeAll.all (hJ.to (fun a ha => ha))
    refine wpAny_assign_Name ?_
    have N1' : News h₀ L h1 ((L + 1 + 1, op) :: (J, rIt ((j : Int) + 1) (((n + 1 : Nat) : Int) - 1)) :: (Ty, plainO ts nt) :: (L + 1 + 1 + 1, oc) :: (Pl, plainO ws kw) :: (Ce, cellsO c0 c1 c2 c3 t0 t1 t2 t3 ep) :: rest) := fun q hq => N1 q (by
      clear N1 N
      first | (revert q hq; walk_at "SUB") | (simp only [List.mem_cons] at hq ⊢; grind))
    with_unfolding_all refine storeX_C (o := op) F1 N1' (by rfl) (.head ?_) d2 fun h2 o2 F2 N2 e2 => ?_
    · exact NeAll.all (hc2.to (fun a ha => ha))
    obtain ⟨tw, hv⟩ := strs_get hws j (by omega)
    obtain ⟨ys, ya, yb, yc⟩ := hR.ex
    have hts : ts.length ≤ 1000 := by have := ya.length; omega
    refine typ_body (s := { s0 with heap := h2, toks := tk1 }) (Ty := Ty) (Ce := Ce) (Pl := Pl) (ts := ts) (ws := ws) (nt := nt) (kw := kw) (ep := ep) (op := o2) (oc := oc) (c0 := c0) (c3 := c3) (t0 := t0) (t1 := t1) (t2 := t2) (t3 := t3) (rest := (J, rIt ((j : Int) + 1) (((n + 1 : Nat) : Int) - 1)) :: rest) B X T F2 (fun p hp => N2 p ?_) hdp hun e2 d3 (by omega) (by omega) z1 z2 hfr (by simpa using hv) rfl (hl j (by omega)) (hz j (by omega)) hts ?_ fun h' tk' m' y ty nt' F' N' hRT => ?_
    · clear N2 N1 N1' N
      simp only [List.mem_cons] at hp ⊢
      grind
    · refine hTy.to fun a ha => ?_
      first | (revert a ha; walk_at "SUB") | (simp only [List.map_cons, List.mem_cons] at ha ⊢; grind)
    · have hj1 : ((j : Int) + 1) = ((j + 1 : Nat) : Int) := by push_cast; rfl
      have hn1 : (((n + 1 : Nat) : Int) - 1) = ((n : Nat) : Int) := by omega
      rw [hj1, hn1] at N'
      exact typ_loop B X T hdp hun hE d3 z1 z2 hfr hws hw5 hl hz hJ hTy hc2 s0 done n (j + 1) (by omega) h' tk' m' (ts ++ [.str y ty]) nt' o2 _ (hR.snoc hRT) e2 F' (fun q hq => N' q (by
        clear N' N2 N1 N1' N
        first | (revert q hq; walk_at "SUB") | (simp only [List.mem_cons] at hq ⊢; grind)))
theorem typ_for {s : Shared} {mx : Str → Option Value} {op : Obj} {v2 : Option Value} {nt : Nat} (B : Below A₀ base outer h₀) (X : (KK w.params).In h₀) (T : Top qq LOOSE mean mg mb h₀) (hdp : dp + 40 < recursionLimit) (hun : un + 150 < cLine) (hE : PassesOwn (model PW w) (AT dp un gd (lEnv L) outer) (lEnv L) E)
    (F : Fr h₀ L s.heap (ltM fr tf Ty Ce mx)) (N : News h₀ L s.heap ((Ty, plainO [] nt) :: (L + 1 + 1, op) :: (L + 1 + 1 + 1, oc) :: (Pl, plainO ws kw) :: (Ce, cellsO c0 c1 c2 c3 t0 t1 t2 t3 ep) :: rest)) (d2 : op.data = .cell v2)
    (d3 : oc.data = .cell (some (.ref Pl))) (z1 : 0 ≤ c1 ∧ c1 ≤ 64000000) (z2 : 0 ≤ c2 ∧ c2 ≤ 64000000) (hfr : 0 ≤ fr ∧ fr < 3) (hws : StrsAre ws wss) (hw5 : wss.length = 5)
    (hl : ∀ i, i < 5 → (toL (wss.getD i (Str.ofString ""))).all isLetter = true) (hz : ∀ i, i < 5 → (toL (wss.getD i (Str.ofString ""))).length ≤ 3)
    (hTy : NeA Ty ((L + 1 + 1) :: (L + 1 + 1 + 1) :: Pl :: Ce :: rest.map (·.1))) (hc2 : NeA (L + 1 + 1) ((L + 1 + 1 + 1) :: Pl :: Ce :: rest.map (·.1)))
    (done : ∀ h' tk' m' ts nt op v2, Fr h₀ L h' (ltM fr tf Ty Ce m') → News h₀ L h' ((Ty, plainO ts nt) :: (L + 1 + 1, op) :: (L + 1 + 1 + 1, oc) :: (Pl, plainO ws kw) :: (Ce, cellsO c0 c1 c2 c3 t0 t1 t2 t3 ep) :: rest) → op.data = .cell v2 →
      RowsT fr (fun i => toL (wss.getD i (Str.ofString ""))) ts 5 → Q .next { s with heap := h', toks := tk' }) :
    wpAny (model PW w) (AT dp un gd (lEnv L) outer) (exec (lawS 5) (lEnv L)) Q E s := by
 walk_at "ST"
 case oTag =>
  with_unfolding_all refine for_headE (body := forBody (lawS 5)) (els := []) (target := tgt _) (iter := .Call (.Name (Str.ofString "range") _) [.Constant (.int 5) 0 _] [] _) (pos := _) ?_ (fun _ => rfl)
  show wpAny _ _ _ (fun x s₁ => wpAny (model PW w) (AT dp un gd (lEnv L) outer) (pyIter x) (fun it s₂ => ∃ I, it = .ref I ∧ LoopE PW w (AT dp un gd (lEnv L) outer) (tgt _) (forBody (lawS 5)) [] (lEnv L) I Q E s₂) E s₁) _ _
  generalize hPo : (fun (it : Value) (s₂ : Shared) => ∃ I, it = Value.ref I ∧ LoopE PW w (AT dp un gd (lEnv L) outer) (tgt _) (forBody (lawS 5)) [] (lEnv L) I Q E s₂) = Post
  unfold lEnv
  k_steps
  unfold Stop
  subst hPo
  refine' iter_rangeE ?F ?N ?hr ?hro ?sm ?ab ?_
  case hr => first | assumption | (exact News.get (by k_asm) (by k_mem))
  case hro => exact rfl
  case F => k_asm
  case N => k_asm
  case sm => decide +kernel
  case ab => decide
  intro J h1 F1 N1 hJ
  have hJA := (NeAll.mk hJ).toA (as := Ty :: (L + 1 + 1) :: (L + 1 + 1 + 1) :: Pl :: Ce :: rest.map (·.1)) (fun a ha => by simp only [List.map_cons]; exact ha)
  have hTJ : Ty ≠ J := fun e => hJA.no (e ▸ .head _)
  have h2J : L + 1 + 1 ≠ J := fun e => hJA.no (e ▸ .tail _ (.head _))
  have h2T : L + 1 + 1 ≠ Ty := fun e => hTy.no (e ▸ .head _)
  exact typ_loop (s0 := s) B X T hdp hun hE d3 z1 z2 hfr hws hw5 hl hz hJA (hTy.join hTJ) ((hc2.join h2T).join h2J) done 5 0 rfl h1 _ mx [] nt op v2 ⟨[], .nil, rfl, fun i hi => by omega⟩ d2 F1 N1
 walk_at "EN"
end
end
section
noncomputable def foldL (r : List Nat) : List Nat := r.flatMap fun c => toL (mapS c)
noncomputable def foldS (y : Str) : Str := Txt.join (Str.ofString "") ((toL y).map mapS)
theorem foldS_toL (y : Str) : toL (foldS y) = foldL (toL y) := by
  unfold foldS foldL
  rw [join_toL, List.flatMap_map]
theorem signs_pairs : ∀ (l : List Nat) (vs zs : List Value), vs.length = l.length → (∀ (j : Nat) v, vs[j]? = some v → ∃ c u, l[j]? = some c ∧ v = .str ⟨#[c]⟩ u) → Paired (fun v z => ∀ (c : Nat) u, v = .str ⟨#[c]⟩ u → ∃ t, z = .str (mapS c) t) vs zs → StrsAre zs (l.map mapS)
  | [], vs, zs, hl, _, hp => by
    have : vs = [] := List.eq_nil_of_length_eq_zero hl
    subst this
    cases hp
    exact .nil
  | c :: l, [], zs, hl, _, hp => by simp at hl
  | c :: l, v :: vs, zs, hl, hv, hp => by
    cases hp with
    | cons a hp =>
      obtain ⟨c', u, e1, e2⟩ := hv 0 v rfl
      have : c' = c := by simpa using e1.symm
      subst this
      obtain ⟨t, rfl⟩ := a _ _ e2
      exact .cons _ _ (signs_pairs l vs _ (by simpa using hl) (fun j w hw => hv (j + 1) w (by simpa using hw)) hp)
theorem fold_inner {w : World} {dp un : Nat} {gd : Option (List Code)} {env0 : Env} {outer : List Env} {A₀ : Around} {base : Heap} {mean : ExcName → Option Value} {mg mb : Str → Option Value} {E : Value → Shared → Prop} {s : Shared} {env : Env} {Q : Value → Shared → Prop} {h₀ : Heap} {L : Addr} {m mC : Str → Option Value} {scope : Scope} {y : Str} {ty : Tok} {p1 p2 p3 p4 p5 : Pos} {iter : PySem.Expr}
    (B : Below A₀ base outer h₀) (X : (KK w.params).In h₀) (T : Top qq LOOSE mean mg mb h₀) (hf : env0.frame = some L) (hke : env0.scope.kind = .function) (hdp : dp + 10 < recursionLimit) (hun : un + 60 < cLine) (F : Fr h₀ L s.heap m)
    (hns : s.heap.Ns env.locals mC) (hclos : closureFor scope env = pure []) (hcell : ∀ y ∈ scope.names, y.2 ≠ .cell) (hkind : scope.kind = .function) (hgl : env.globals = mainGlobals)
    (hnames : ∀ y ∈ scope.names, y.2 = .local → scope.names.lookup y.1 = some .local) (hxl : scope.names.lookup (Str.ofString "sign") = some .local) (hk : (relabel scope env).kind = .function) (hx : ∀ C, (compEnvC scope [] C env).kindOf (Str.ofString "sign") = some .local)
    (hy : ∀ C, (compEnvC scope [] C env).kindOf (Str.ofString "map_table_b3") = some .globalImplicit) (hz : y.cps.size ≤ 1000)
    (hiter : ∀ (Q' : Value → Shared → Prop), (∀ t tk, Q' (.str y t) { s with toks := tk }) → wpAny (model PW w) (AT dp un gd env0 outer) (eval iter env) Q' E s)
    (done : ∀ D h' tk ys n, h'.get? D = some (plainO ys n) → (∀ b o, s.heap.get? b = some o → h'.get? b = some o) → StrsAre ys ((toL y).map mapS) → Q (.ref D) { s with heap := h', toks := tk })
    (hs : ∀ x, foldedSetIterable iter env x = pure x) :
    wpAny (model PW w) (AT dp un gd env0 outer) (eval (.ListComp (.Call (.Name (Str.ofString "map_table_b3") p1) [.Name (Str.ofString "sign") p2] [] p3) [⟨.Name (Str.ofString "sign") p4, iter, [], 0⟩] scope p5) env) Q E s := by
 walk_at "ST"
 case oTag =>
  refine comp_go hclos hcell hkind hnames hxl (hiter _ fun t tk => ?_) hs
  refine compAt_strK (s := { s with toks := tk }) (m := mC) rfl hns (by rw [sizeLine_eq]; omega) (fun v z => ∀ (c : Nat) u, v = .str ⟨#[c]⟩ u → ∃ t, z = .str (mapS c) t) ?_ ?_
  · intro C c u s₃ m₃ E' _ hns' hx' hk'
    have F' : Fr h₀ L s₃.heap m := F.keeps hk'
    have l1 : ∀ {pos : Pos} {Q' E' : Value → Shared → Prop} {s' : Shared}, s'.heap = s₃.heap → Q' (.str ⟨#[c]⟩ u) s' → wpAny (model PW w) (AT dp un gd env0 outer) (eval (.Name (Str.ofString "sign") pos) (compEnvC scope [] C env)) Q' E' s' :=
      fun e h => wpAny_Name (wpAny_loadName_local hk (hx C) (e ▸ hns') hx' h) (by decide)
    refine Call_Name1 (Name_function_global hk (hy C) (loadGlobal_global (env := compEnvC scope [] C env) (by show s₃.heap.Ns env.globals mg; rw [hgl]; exact T.g.keeps F'.keep) (mg_of (v := .ref 127) X T.g (by k_is)) ?_) (by decide))
    refine callWith_def1 (o := O_127 w.params) (by rfl) (l1 rfl ⟨(X.keeps F'.keep) 127 _ (by rfl), ?_⟩)
    refine mapE_spec w c u mean mg mb dp un gd env0 outer A₀ base h₀ L m _ _ _ B F' X news_nil T hf hke hdp hun fun v h' tk' hR F1 kp => ⟨fun c' u' e => ?_, _, _, rfl, kp⟩
    obtain ⟨t1, rfl⟩ := hR
    injection e with e _
    injection e with e
    have : c = c' := by simpa using e
    subst this
    exact ⟨_, rfl⟩
  · intro D h' tk' ys n vs e1 e2 e3 e4 hp
    exact done D h' tk' ys n e1 e2 (signs_pairs (toL y) vs ys e3 (fun j v hv => by
      obtain ⟨c, u, hc, rfl⟩ := e4 j v hv
      exact ⟨c, u, by simpa [toL] using hc, rfl⟩) hp)
 walk_at "EN"
end
section
theorem strs_mem {vs : List Value} {ys : List Str} (h : StrsAre vs ys) : ∀ v ∈ vs, ∃ y t, v = .str y t ∧ y ∈ ys := by
  induction h with
  | nil => intro v hv; cases hv
  | cons k t _ ih =>
    intro v hv
    rcases List.mem_cons.mp hv with rfl | hv
    · exact ⟨_, _, rfl, .head _⟩
    · obtain ⟨a, b, e, h⟩ := ih v hv
      exact ⟨a, b, e, .tail _ h⟩
theorem strs_pairsS {f : Str → Str} {vs : List Value} {ns : List Str} (h : StrsAre vs ns) : ∀ {ys : List Value}, Paired (fun v y => ∀ k t, v = .str k t → ∃ t, y = .str (f k) t) vs ys → StrsAre ys (ns.map f) := by
  induction h with
  | nil => intro ys hp; cases hp; exact .nil
  | cons k t _ ih =>
    intro ys hp
    cases hp with
    | cons a hp =>
      obtain ⟨u, rfl⟩ := a _ _ rfl
      exact .cons _ _ (ih hp)
theorem joinF {w : World} {A : Around} {E : Value → Shared → Prop} {s : Shared} {D : Addr} {ys : List Value} {l : List Nat} {t : Tok} {n : Nat} {Q : Value → Shared → Prop} (hl : s.heap.get? D = some (plainO ys n)) (hS : StrsAre ys (l.map mapS)) (hz : (foldL l).length ≤ 1000)
    (h : ∀ t' k, Q (.str (Txt.join (Str.ofString "") (l.map mapS)) t') { s with toks := k }) : wpAny (model PW w) A (call (.builtin "str.join") [.str (Str.ofString "") t, .ref D]) Q E s := by
  refine join_list (items := ys.toArray) ⟨_, hl, rfl, _, rfl⟩ (by simpa using hS) ?_ h
  have e : (Str.ofString "").length = 0 := by decide +kernel
  have key : ∀ l : List Nat, ((l.map mapS).map (·.length)).sum = (foldL l).length := by
    intro l
    induction l with
    | nil => rfl
    | cons a r ih =>
      have : foldL (a :: r) = toL (mapS a) ++ foldL r := rfl
      rw [this, List.length_append, toL_len]
      simp only [List.map_cons, List.sum_cons, ih]
  rw [e, key]; omega
theorem fold_comp {w : World} {dp un : Nat} {gd : Option (List Code)} {env0 : Env} {outer : List Env} {A₀ : Around} {base : Heap} {mean : ExcName → Option Value} {mg mb : Str → Option Value} {env : Env} {E : Value → Shared → Prop} {s : Shared} {Q : Value → Shared → Prop} {h₀ : Heap} {m : Str → Option Value} {scope sc2 : Scope} {cl : List (Str × Addr)} {dst : Option Str} {S : Addr} {vs : List Value} {ks : Nat} {yss : List Str} {news : List (Addr × Obj)}
    {p1 p2 p3 p4 q1 q2 q3 q4 q5 : Pos}
    (B : Below A₀ base outer h₀) (X : (KK w.params).In h₀) (T : Top qq LOOSE mean mg mb h₀) (hf : env0.frame = some env.locals) (hke : env0.scope.kind = .function) (hdp : dp + 10 < recursionLimit) (hun : un + 60 < cLine)
    (F : Fr h₀ env.locals s.heap m) (N : News h₀ env.locals s.heap news) (hS : (S, plainO vs ks) ∈ news) (hvs : StrsAre vs yss) (hyl : yss.length ≤ 20) (hzz : ∀ y ∈ yss, y.length ≤ 1000 ∧ (foldL (toL y)).length ≤ 1000)
    (hpos : p2.endLine = p3.line) (hk : (relabel scope env).kind = .function) (hx : ∀ C, (compEnvC scope cl C env).kindOf (Str.ofString "row") = some .local) (hgl : env.globals = mainGlobals)
    (hclos : ∀ C, closureFor sc2 (compEnvC scope cl C env) = pure []) (hcell : ∀ y ∈ sc2.names, y.2 ≠ .cell) (hkind : sc2.kind = .function)
    (hnames : ∀ y ∈ sc2.names, y.2 = .local → sc2.names.lookup y.1 = some .local) (hxl : sc2.names.lookup (Str.ofString "sign") = some .local) (hk2 : ∀ C, (relabel sc2 (compEnvC scope cl C env)).kind = .function) (hx2 : ∀ C C2, (compEnvC sc2 [] C2 (compEnvC scope cl C env)).kindOf (Str.ofString "sign") = some .local)
    (hy2 : ∀ C C2, (compEnvC sc2 [] C2 (compEnvC scope cl C env)).kindOf (Str.ofString "map_table_b3") = some .globalImplicit)
    (hfs : ∀ C x, foldedSetIterable (.Name (Str.ofString "row") q5) (compEnvC scope cl C env) x = pure x)
    (done : ∀ D h' tk ys n, Fr h₀ env.locals h' (match dst with | some y => fun z => if z = y then some (.ref D) else m z | none => m) → News h₀ env.locals h' ((D, plainO ys n) :: news) → (∀ q ∈ news, @Ne Nat q.1 D) →
      StrsAre ys (yss.map foldS) → Q (.ref D) { s with heap := h', toks := tk }) :
    CompAt PW w (AT dp un gd env0 outer) env scope cl (Str.ofString "row") [] (.Call (.Attribute (.Constant (.str (Str.ofString "")) 0 p1) (Str.ofString "join") p2) [.ListComp (.Call (.Name (Str.ofString "map_table_b3") q1) [.Name (Str.ofString "sign") q2] [] q3)
      [⟨.Name (Str.ofString "sign") q4, .Name (Str.ofString "row") q5, [], 0⟩] sc2 p4] [] p3) dst Q E (.ref S) s := by
 walk_at "ST"
 case oTag =>
  have hlen := hvs.length
  refine compAt_list (vs := vs) rfl F N ⟨_, N.get hS, rfl, _, rfl⟩ (by rw [sizeLine_eq]; omega) (fun _ => true) (fun v y => ∀ k t, v = .str k t → ∃ t, y = .str (foldS k) t) ?_ ?_ ?_
  · intro C v s₃ m₃ E' _ _ _ _ _
    simp only [List.forIn_nil]
    exact wpAny_pure ⟨rfl, _, _, rfl, fun _ _ e => e⟩
  · intro C v s₃ m₃ E' hv _ hns hx' F' N'
    obtain ⟨y, ty, rfl, hym⟩ := strs_mem hvs v hv
    obtain ⟨z1, z2⟩ := hzz y hym
    refine join_eval hpos fun tj tkj => ?_
    refine fold_inner (s := { s₃ with toks := tkj }) (ty := ty) (y := y) (mC := m₃) B X T hf hke hdp hun F' hns (hclos C) hcell hkind hgl hnames hxl (hk2 C) (hx2 C) (hy2 C) z1 (fun Q' hQ' => ?_) (fun D h' tk' ys n g1 g2 g3 => ?_) (hfs C)
    · exact wpAny_Name (wpAny_loadName_local hk (hx C) hns hx' (hQ' _ _)) (by decide)
    · refine joinF g1 g3 z2 fun t' k' => ⟨fun k2 t2 e => ?_, _, _, rfl, g2⟩
      injection e with e _
      subst e
      exact ⟨_, rfl⟩
  · intro D h' tk ys n F' N' ne hpair
    refine done D h' tk ys n F' N' ne ?_
    have hfl : vs.filter (fun _ => true) = vs := List.filter_eq_self.mpr fun _ _ => rfl
    rw [hfl] at hpair
    exact strs_pairsS hvs hpair
 walk_at "EN"
end
section
theorem restL_get (pl fi : Int) (n : Nat) : 0 ≤ (restL pl fi).getD n 0 ∧ (restL pl fi).getD n 0 < 5 := by
  rw [List.getD_eq_getElem?_getD]
  cases h : (restL pl fi)[n]? with
  | none => simp
  | some v =>
    have hm : v ∈ restL pl fi := List.mem_of_getElem? h
    have := (List.mem_filter.mp hm).1
    simp at this
    simp
    omega +splitNatSub
theorem netR_ok (i : Int) (p : Int) (hp : 0 ≤ p ∧ p ≤ 2) : (0 ≤ netF i p ∧ netF i p < 5) ∧ 0 ≤ netS i p ∧ netS i p < 5 := by
  refine ⟨?_, restL_get _ _ _⟩
  unfold netF
  have h1 := fmod_lo ((i.fdiv (100 ^ p.toNat)).fmod 10) (n := 4 - p) (by omega +splitNatSub)
  have h2 := fmod_hi ((i.fdiv (100 ^ p.toNat)).fmod 10) (n := 4 - p) (by omega +splitNatSub)
  omega +splitNatSub
theorem ne_dc {h₀ h : Heap} {L c d : Addr} {o' : Obj} {xs : Array Value} {n : Nat} {cl : Value} {v : Option Value} {big : List (Addr × Obj)} (N : News h₀ L h big) (hm' : (d, o') ∈ big) (hd : o'.data = .cell v) (hm : (c, { cls := cl, data := .seq xs n }) ∈ big) : c ≠ d :=
  ne_data N hm hm' (by rw [hd]; intro h; cases h)
theorem ne_dc' {h₀ h : Heap} {L c d : Addr} {o' : Obj} {xs : Array Value} {n : Nat} {cl : Value} {v : Option Value} {big : List (Addr × Obj)} (N : News h₀ L h big) (hm' : (d, o') ∈ big) (hd : o'.data = .cell v) (hm : (c, { cls := cl, data := .seq xs n }) ∈ big) : d ≠ c := fun e => ne_dc N hm' hd hm e.symm
noncomputable abbrev netO (f s : Int) (t u : Tok) : Obj := PySem.W.listOf #[.int f t, .int s u] 0
noncomputable abbrev netA (b0 b1 b2 b3 b4 : Addr) : Obj := PySem.W.listOf #[.ref b0, .ref b1, .ref b2, .ref b3, .ref b4] 0
noncomputable def wssL (c0 : Int) : List Str := [plStr [0, netF c0 0, netS c0 0], plStr [1, netF c0 1, netS c0 1], plStr [2, netF c0 2, netS c0 2], plStr [3], plStr [4]]
theorem plStr_ok {ks : List Int} (h : ∀ k ∈ ks, 0 ≤ k ∧ k < 5) : (toL (plStr ks)).all isLetter = true := by
  rw [plStr_toL, List.all_eq_true]
  intro c hc
  obtain ⟨k, hk, rfl⟩ := List.mem_map.mp hc
  have := h k hk
  exact ltr_letter _ (by omega +splitNatSub)
theorem wss_ok (c0 : Int) : ∀ i, i < 5 → (toL ((wssL c0).getD i (Str.ofString ""))).all isLetter = true ∧ (toL ((wssL c0).getD i (Str.ofString ""))).length ≤ 3 := by
 walk_at "ST"
 case oTag =>
  have n0 := netR_ok c0 0 (by decide)
  have n1 := netR_ok c0 1 (by decide)
  have n2 := netR_ok c0 2 (by decide)
  intro i hi
  have : i = 0 ∨ i = 1 ∨ i = 2 ∨ i = 3 ∨ i = 4 := by omega +splitNatSub
  rcases this with rfl | rfl | rfl | rfl | rfl
  · exact ⟨plStr_ok (by simp; omega +splitNatSub), by show (toL (plStr _)).length ≤ 3; rw [plStr_toL]; simp⟩
  · exact ⟨plStr_ok (by simp; omega +splitNatSub), by show (toL (plStr _)).length ≤ 3; rw [plStr_toL]; simp⟩
  · exact ⟨plStr_ok (by simp; omega +splitNatSub), by show (toL (plStr _)).length ≤ 3; rw [plStr_toL]; simp⟩
  · exact ⟨plStr_ok (by simp), by show (toL (plStr _)).length ≤ 3; rw [plStr_toL]; simp⟩
  · exact ⟨plStr_ok (by simp), by show (toL (plStr _)).length ≤ 3; rw [plStr_toL]; simp⟩
 walk_at "EN"
noncomputable abbrev lawLed (L Pl Ce a b0 b1 b2 b3 b4 : Addr) (op oc o4 o1 : Obj) (ws : List Value) (kw : Nat) (c0 c1 c2 c3 : Int) (t0 t1 t2 t3 : Tok) (ep : Nat) (u0 u1 u2 v0 v1 v2 : Tok) : List (Addr × Obj) :=
  (L + 1 + 1, op) :: (L + 1 + 1 + 1, oc) :: (Pl, plainO ws kw) :: (Ce, cellsO c0 c1 c2 c3 t0 t1 t2 t3 ep) :: (a, netA b0 b1 b2 b3 b4) :: (b0, netO (netF c0 0) (netS c0 0) u0 v0) :: (b1, netO (netF c0 1) (netS c0 1) u1 v1) :: (b2, netO (netF c0 2) (netS c0 2) u2 v2) :: (b3, PySem.W.listOf #[] 0) :: (b4, PySem.W.listOf #[] 0) :: (L + 1 + 1 + 1 + 1, o4) :: (L + 1, o1) :: []
theorem to_lawLed {h₀ h : Heap} {L l Pl Ce a b0 b1 b2 b3 b4 : Addr} {op oc o4 o1 : Obj} {ws : List Value} {kw : Nat} {c0 c1 c2 c3 : Int} {t0 t1 t2 t3 : Tok} {ep : Nat} {u0 u1 u2 v0 v1 v2 : Tok}
    (N : News h₀ L h [(l, PySem.W.listOf #[] 0), (Pl, plainO ws kw), (a, netA b0 b1 b2 b3 b4), (b0, netO (netF c0 0) (netS c0 0) u0 v0), (b1, netO (netF c0 1) (netS c0 1) u1 v1), (b2, netO (netF c0 2) (netS c0 2) u2 v2), (b3, PySem.W.listOf #[] 0), (b4, PySem.W.listOf #[] 0), (Ce, cellsO c0 c1 c2 c3 t0 t1 t2 t3 ep), (L + 1 + 1 + 1 + 1, o4), (L + 1 + 1 + 1, oc), (L + 1 + 1, op), (L + 1, o1)]) :
    News h₀ L h ((l, plainO [] 0) :: lawLed L Pl Ce a b0 b1 b2 b3 b4 op oc o4 o1 ws kw c0 c1 c2 c3 t0 t1 t2 t3 ep u0 u1 u2 v0 v1 v2) := by
  intro q hq
  refine N q ?_
  clear N
  have e : (l, plainO [] 0) = (l, PySem.W.listOf #[] 0) := rfl
  rw [e] at hq
  first | (revert q hq; walk_at "SUB") | (simp only [List.mem_cons] at hq ⊢; grind)
theorem law_ne2 {h₀ h : Heap} {L l Pl Ce a b0 b1 b2 b3 b4 : Addr} {op oc o4 o1 : Obj} {ws : List Value} {kw : Nat} {c0 c1 c2 c3 : Int} {t0 t1 t2 t3 : Tok} {ep nt : Nat} {u0 u1 u2 v0 v1 v2 : Tok} {ts : List Value} {v : Option Value}
    (N : News h₀ L h ((l, plainO ts nt) :: lawLed L Pl Ce a b0 b1 b2 b3 b4 op oc o4 o1 ws kw c0 c1 c2 c3 t0 t1 t2 t3 ep u0 u1 u2 v0 v1 v2)) (hd : op.data = .cell v) :
    NeA (L + 1 + 1) ((L + 1 + 1 + 1) :: Pl :: Ce :: ((a, netA b0 b1 b2 b3 b4) :: (b0, netO (netF c0 0) (netS c0 0) u0 v0) :: (b1, netO (netF c0 1) (netS c0 1) u1 v1) :: (b2, netO (netF c0 2) (netS c0 2) u2 v2) :: (b3, PySem.W.listOf #[] 0) :: (b4, PySem.W.listOf #[] 0) :: (L + 1 + 1 + 1 + 1, o4) :: (L + 1, o1) :: []).map (·.1)) := by
 walk_at "ST"
 case oTag =>
  have z : ∀ {c : Addr} {xs : Array Value} {n : Nat} {cl : Value}, (c, { cls := cl, data := .seq xs n }) ∈ ((l, plainO ts nt) :: lawLed L Pl Ce a b0 b1 b2 b3 b4 op oc o4 o1 ws kw c0 c1 c2 c3 t0 t1 t2 t3 ep u0 u1 u2 v0 v1 v2) → c ≠ L + 1 + 1 := fun hm => ne_dc N (.tail _ (.head _)) hd hm
  refine mkNeA fun x hx => ?_
  simp only [List.map_cons, List.map_nil, List.mem_cons, List.not_mem_nil, or_false] at hx
  rcases hx with rfl | rfl | rfl | rfl | rfl | rfl | rfl | rfl | rfl | rfl | rfl
  · omega +splitNatSub
  · exact z (cl := .type "list") (xs := ws.toArray) (n := kw) (by repeat (first | exact .head _ | refine .tail _ ?_))
  · exact z (cl := .type "list") (xs := #[.int c0 t0, .int c1 t1, .int c2 t2, .int c3 t3]) (n := ep) (by repeat (first | exact .head _ | refine .tail _ ?_))
  · exact z (cl := .type "list") (xs := #[.ref b0, .ref b1, .ref b2, .ref b3, .ref b4]) (n := 0) (by repeat (first | exact .head _ | refine .tail _ ?_))
  · exact z (cl := .type "list") (xs := #[.int (netF c0 0) u0, .int (netS c0 0) v0]) (n := 0) (by repeat (first | exact .head _ | refine .tail _ ?_))
  · exact z (cl := .type "list") (xs := #[.int (netF c0 1) u1, .int (netS c0 1) v1]) (n := 0) (by repeat (first | exact .head _ | refine .tail _ ?_))
  · exact z (cl := .type "list") (xs := #[.int (netF c0 2) u2, .int (netS c0 2) v2]) (n := 0) (by repeat (first | exact .head _ | refine .tail _ ?_))
  · exact z (cl := .type "list") (xs := #[]) (n := 0) (by repeat (first | exact .head _ | refine .tail _ ?_))
  · exact z (cl := .type "list") (xs := #[]) (n := 0) (by repeat (first | exact .head _ | refine .tail _ ?_))
  · omega +splitNatSub
  · omega +splitNatSub
 walk_at "EN"
theorem law_neT {l L Pl Ce a b0 b1 b2 b3 b4 : Addr} {o1 o2 o3 o4 o5 o6 o7 o8 : Obj} (h : @LT.lt Nat _ Pl l ∧ @LT.lt Nat _ a l ∧ @LT.lt Nat _ b0 l ∧ @LT.lt Nat _ b1 l ∧ @LT.lt Nat _ b2 l ∧ @LT.lt Nat _ b3 l ∧ @LT.lt Nat _ b4 l ∧ @LT.lt Nat _ Ce l ∧ @LT.lt Nat _ (L + 1 + 1 + 1 + 1) l ∧ @LT.lt Nat _ (L + 1 + 1 + 1) l ∧ @LT.lt Nat _ (L + 1 + 1) l ∧ @LT.lt Nat _ (L + 1) l) :
    NeA l ((L + 1 + 1) :: (L + 1 + 1 + 1) :: Pl :: Ce :: ((a, o1) :: (b0, o2) :: (b1, o3) :: (b2, o4) :: (b3, o5) :: (b4, o6) :: (L + 1 + 1 + 1 + 1, o7) :: (L + 1, o8) :: []).map (·.1)) := by
 walk_at "ST"
 case oTag =>
  refine mkNeA fun x hx => ?_
  simp only [List.map_cons, List.map_nil, List.mem_cons, List.not_mem_nil, or_false] at hx
  rcases hx with rfl | rfl | rfl | rfl | rfl | rfl | rfl | rfl | rfl | rfl | rfl | rfl <;> omega +splitNatSub
 walk_at "EN"
end
section
open ZL ZC ZLaw3
example : True := by
  k_with "!MY NE" => (guard_expr onLaw3 =~ onLaw3; first | (refine' ne_r ?hh_162 ?hm_162; (case hh_162 => assumption); (case hm_162 => k_mem)) | (refine' ne_l ?hh_162 ?hm_162; (case hh_162 => assumption); (case hm_162 => k_mem)) | (refine neN ?_; (try dsimp only); omega))
  k_with "!MY CALLED" => (guard_expr onLaw3 =~ onLaw3; ((case kB => assumption); (case kF => assumption); (case kX => assumption); (case kN => assumption); (case kT => assumption); (case kf => exact rfl); (case kk => exact rfl); (case kd => (show _ < recursionLimit; (try dsimp only); omega)); (case ku => (show _ < cLine; (try dsimp only); omega)); k_whole))
  k_with "!call ref" => (guard_expr onLaw3 =~ onLaw3; (k_here; (with_reducible show wpAny _ _ (call (Value.ref 144) [_]) _ _ _); k_dflt (refine' cells_call ?kB ?kF ?kX ?kN ?kT ?kf ?kk ?kd ?ku ?hl_164 ?hi_164 ?hn_164 ?_; walk_at "MY CALLED"; (case hl_164 => assumption); (case hi_164 => assumption); (case hn_164 => assumption); intro hq''k tq''k aq''k c0''k c1''k c2''k c3''k t0''k t1''k t2''k t3''k ep''k F''k N''k hlt''k z0''k z1''k z2''k z3''k; (try k_lt hlt''k))))
  k_with "!call ref" => (guard_expr onLaw3 =~ onLaw3; (k_here; (with_reducible show wpAny _ _ (call (Value.ref 149) [_]) _ _ _); k_dflt (refine' net_call ?kB ?kF ?kX ?kN ?kT ?kf ?kk ?kd ?ku ?_; walk_at "MY CALLED"; intro hq''k tq''k aq''k b0''k b1''k b2''k b3''k b4''k t0''k t1''k t2''k u0''k u1''k u2''k F''k N''k hNL''k; (have hz''k := hNL''k.lt0); (try k_lt hz''k); (have y1''k := hNL''k.l01); (have y2''k := hNL''k.l12); (have y3''k := hNL''k.l23); (have y4''k := hNL''k.l34); (have y5''k := hNL''k.l4a))))
  k_with "!CompAt" => (guard_expr onLaw3 =~ onLaw3; (k_here; (with_reducible show CompAt _ _ _ _ _ _ (Str.ofString "place") _ _ _ _ _ _ _); k_dflt (refine' plain_comp ?k0_166 ?kF_166 ?kN_166 ?kr_166 ?ko_166 ?hpos_166 ?kk_166 ?kx_166 ?y1_166 ?c1_166 ?m1_166 ?d1_166 ?hnet_166 ?hclos_166 ?hcell_166 ?hkind_166 ?hnames_166 ?hxl_166 ?hk2_166 ?hx2_166 ?hfs_166 ?_; (case k0_166 => exact rfl); (case kF_166 => k_asm); (case kN_166 => k_asm); (case kr_166 => first | assumption | (exact News.get (by k_asm) (by k_mem))); (case ko_166 => exact rfl); (case hpos_166 => exact rfl); (case kk_166 => exact rfl); (case kx_166 => exact fun _ => rfl); (case y1_166 => exact fun _ => rfl); (case c1_166 => exact rfl); (case m1_166 => k_mem); (case d1_166 => k_asm); (case hnet_166 => exact ⟨by k_mem, ⟨_, _, by k_mem⟩, ⟨_, _, by k_mem⟩, ⟨_, _, by k_mem⟩, by k_mem, by k_mem, netR_ok _ _ (by decide), netR_ok _ _ (by decide), netR_ok _ _ (by decide)⟩); (case hclos_166 => exact fun _ => rfl); (case hcell_166 => decide); (case hkind_166 => exact rfl); (case hnames_166 => decide); (case hxl_166 => exact rfl); (case hk2_166 => exact fun _ => rfl); (case hx2_166 => exact fun _ _ => rfl); (case hfs_166 => exact fun _ _ => rfl); k_whole; intro D''k h''k tk''k ys''k n''k F''k N''k ne''k hi''k; (have ne''k := NeAll.mk ne''k); (try dsimp only at F''k N''k); (try dsimp only))))
  k_with "!exec" => (guard_expr onLaw3 =~ onLaw3; (k_here; (with_reducible show wpAny _ _ (exec (Stmt.For _ _ _ _ _) _) _ _ _); refine Stop.mk ?_))
  trivial
section
variable {w : World} {dp un : Nat} {gd : Option (List Code)} {outer : List Env} {A₀ : Around} {base : Heap} {E : Value → Shared → Prop} {s : Shared} {Q : Flow → Shared → Prop} {h₀ : Heap} {L l : Addr} {mx mg mb : Str → Option Value} {mean : ExcName → Option Value} {o1 o2 o3 o4 : Obj} {vs : List Value} {ns : List Int}
theorem law_a (B : Below A₀ base outer h₀) (X : (KK w.params).In h₀) (T : Top qq LOOSE mean mg mb h₀) (F : Fr h₀ L s.heap (fun y => if y = Str.ofString "script" then some (.ref l) else mx y))
    (N : News h₀ L s.heap [(L + 1 + 1 + 1 + 1, o4), (L + 1 + 1 + 1, o3), (L + 1 + 1, o2), (L + 1, o1)]) (hdp : dp + 40 < recursionLimit) (hun : un + 150 < cLine) (hE : PassesOwn (model PW w) (AT dp un gd (lEnv L) outer) (lEnv L) E) (d4 : o4.data = .cell none) (d3 : o3.data = .cell none) (d2 : o2.data = .cell none) (d1 : o1.data = .cell none)
    (hl : base.IsList l vs.toArray) (hi : IntsAre vs ns) (hn : ns.length ≤ 63)
    (next : ∀ h' tk' m' Ty Ce Pl a b0 b1 b2 b3 b4 c0 c1 c2 c3 t0 t1 t2 t3 ep nt kw ts ws op oc o1' u0 u1 u2 v0 v1 v2 tf, Fr h₀ L h' (ltM (c1.fmod 3) tf Ty Ce m') →
      News h₀ L h' ((Ty, plainO ts nt) :: lawLed L Pl Ce a b0 b1 b2 b3 b4 op oc o4 o1' ws kw c0 c1 c2 c3 t0 t1 t2 t3 ep u0 u1 u2 v0 v1 v2) → (∃ v, op.data = .cell v) → oc.data = .cell (some (.ref Pl)) → o1'.data = .cell (some (.ref a)) →
      (0 ≤ c0 ∧ c0 ≤ 64000000) → (0 ≤ c1 ∧ c1 ≤ 64000000) → (0 ≤ c2 ∧ c2 ≤ 64000000) → (0 ≤ c3 ∧ c3 ≤ 64000000) → StrsAre ws (wssL c0) → RowsT (c1.fmod 3) (fun i => toL ((wssL c0).getD i (Str.ofString ""))) ts 5 →
      wpAny (model PW w) (AT dp un gd (lEnv L) outer) (execs (restIn 77 6) (lEnv L)) Q E { s with heap := h', toks := tk' }) :
    wpAny (model PW w) (AT dp un gd (lEnv L) outer) (execs (restIn 77 0) (lEnv L)) Q E s := by
 walk_at "ST"
 case oTag =>
  unfold lEnv
  with_unfolding_all show wpAny _ _ (execs [_, _, _, _, _, _, _, _, _, _, _, _, _, _, _] _) _ _ _
  k_steps
  unfold Stop
  rename News _ _ _ _ => hNN
  rename Fr _ _ _ _ => hFF
  rename StrsAre _ _ => hWS
  rename (_ < _ ∧ _ < _ ∧ _ < _ ∧ _ < _ ∧ _ < _ ∧ _ < _ ∧ _ < _ ∧ _ < _ ∧ _ < _ ∧ _ < _ ∧ _ < _ ∧ _ < _) => hLL
  simp only [show Int.toNat 0 = 0 from rfl, show Int.toNat 1 = 1 from rfl, List.getD_cons_zero, List.getD_cons_succ] at hNN hWS hFF
  have hN3 := to_lawLed hNN
  have hT := law_neT (o1 := default) (o2 := default) (o3 := default) (o4 := default) (o5 := default) (o6 := default) (o7 := default) (o8 := default) hLL
  have h2 := law_ne2 hN3 d2
  have hWS' : StrsAre _ (wssL _) := hWS
  with_unfolding_all refine' typ_for B X T hdp hun ?hE (ltM_end hFF rfl rfl rfl) hN3 d2 ?d3 ?z1 ?z2 ?hfr hWS' ?w5 (fun i hi => (wss_ok _ i hi).1) (fun i hi => (wss_ok _ i hi).2) hT h2 ?dn
  case hE => exact hE
  case d3 => assumption
  case z1 => assumption
  case z2 => assumption
  case hfr => exact ⟨fmod_lo _ (by decide), fmod_hi _ (by decide)⟩
  case w5 => exact rfl
  intro h' tk' m' ts nt op v2 F' N' dv hR
  refine' post_next ?hb ?_
  case hb => assumption
  with_unfolding_all refine next _ _ _ _ _ _ _ _ _ _ _ _ _ _ _ _ _ _ _ _ _ _ _ _ _ _ _ _ _ _ _ _ _ _ _ F' N' ⟨_, dv⟩ ?e1 ?e2 ?z0 ?z1 ?z2 ?z3 hWS' hR
  all_goals assumption
 walk_at "EN"
end
end
section
theorem strs_app {a b : List Value} {x y : List Str} (h : StrsAre a x) (k : StrsAre b y) : StrsAre (a ++ b) (x ++ y) := by
  induction h with
  | nil => exact k
  | cons y t _ ih => exact .cons _ _ ih
theorem strs_rep (x : Str) (t : Tok) : ∀ n : Nat, StrsAre (List.replicate n [Value.str x t]).flatten (List.replicate n x)
  | 0 => .nil
  | n + 1 => .cons _ _ (strs_rep x t n)
theorem mul_one {w : World} {A : Around} {E : Value → Shared → Prop} {s : Shared} {h₀ : Heap} {L l : Addr} {m : Str → Option Value} {news : List (Addr × Obj)} {e : Str} {t u : Tok} {x : Int} {Q : Value → Shared → Prop}
    (F : Fr h₀ L s.heap m) (N : News h₀ L s.heap news) (hl : s.heap.IsList l [Value.str e t].toArray) (h0 : 0 ≤ x) (h1 : x < 2)
    (h : ∀ D h' mv, Fr h₀ L h' m → News h₀ L h' ((D, plainO mv 0) :: news) → (∀ p ∈ news, @LT.lt Nat _ p.1 D) → StrsAre mv (List.replicate x.toNat e) → mv.length ≤ 1 → Q (.ref D) { s with heap := h' }) :
    wpAny (model PW w) A (binaryOp .Mult (.ref l) (.int x u)) Q E s := by
  have hx : x.toNat ≤ 1 := by omega
  refine KMa.mul F N hl (by omega) (by omega) (by simp; omega) rfl fun D h' F' N' hlt => h D h' _ F' N' hlt (strs_rep e t _) ?_
  have := (strs_rep e t x.toNat).length
  rw [this]
  simpa using hx
theorem stay_call {w : World} {mean : ExcName → Option Value} {mg mb : Str → Option Value} {dp un : Nat} {gd : Option (List Code)} {env0 : Env} {outer : List Env} {A₀ : Around} {base h₀ : Heap} {L : Addr} {m : Str → Option Value} {s : Shared} {Q E : Value → Shared → Prop} {news : List (Addr × Obj)} {i : Int} {t : Tok}
    (kB : Below A₀ base outer h₀) (kF : Fr h₀ L s.heap m) (kX : (KK w.params).In h₀) (kN : News h₀ L s.heap news) (kT : Top qq LOOSE mean mg mb h₀) (kf : env0.frame = some L) (kk : env0.scope.kind = .function) (kd : dp + 10 < recursionLimit) (ku : un + 60 < cLine)
    (done : ∀ h' tk' t', Fr h₀ L h' m → News h₀ L h' news → Q (.str ⟨#[stayC i]⟩ t') { s with heap := h', toks := tk' }) :
    wpAny (model PW w) (AT dp un gd env0 outer) (call (.ref 163) [.int i t]) Q E s :=
  stay_spec w i t news _ _ _ _ _ _ _ _ _ _ _ _ _ _ _ _ kB kF kX kN kT kf kk kd ku fun v h' tk' n' hR F N => by
    obtain ⟨rfl, t', rfl⟩ := hR
    exact done _ _ _ F N
theorem add_N {w : World} {A : Around} {E : Value → Shared → Prop} {s : Shared} {h₀ : Heap} {L l b : Addr} {m : Str → Option Value} {news : List (Addr × Obj)} {vs ws : List Value} {n1 n2 : Nat} {Q : Value → Shared → Prop}
    (F : Fr h₀ L s.heap m) (N : News h₀ L s.heap news) (hl : (l, plainO vs n1) ∈ news) (hb : (b, plainO ws n2) ∈ news) (z1 : vs.length ≤ 20) (z2 : ws.length ≤ 20)
    (h : ∀ D h', Fr h₀ L h' m → News h₀ L h' ((D, plainO (vs ++ ws) 0) :: news) → (∀ p ∈ news, @LT.lt Nat _ p.1 D) → Q (.ref D) { s with heap := h' }) :
    wpAny (model PW w) A (binaryOp .Add (.ref l) (.ref b)) Q E s :=
  add_lists F N ⟨_, N.get hl, rfl, _, rfl⟩ ⟨_, N.get hb, rfl, _, rfl⟩ (fun h' F' N' => h _ h' F' N' fun p hp => Heap.lt_size (N p hp).1) (by rw [sizeLine_eq]; omega)
end
section
open ZL ZC ZLaw4
structure SentL (allY : List Str) : Prop where
  few : allY.length ≤ 20
  small : ∀ r ∈ (allY.map toL).map sentL, r.length ≤ 1000 ∧ (foldL r).length ≤ 1000
theorem sent_few {allY yq : List Str} (h : SentL allY) (e : yq.map toL = (allY.map toL).map sentL) : yq.length ≤ 20 := by
  have : yq.length = allY.length := by simpa using congrArg List.length e
  have := h.few
  omega
theorem sent_small {allY yq : List Str} (h : SentL allY) (e : yq.map toL = (allY.map toL).map sentL) : ∀ y ∈ yq, y.length ≤ 1000 ∧ (foldL (toL y)).length ≤ 1000 := by
  intro y hy
  have := h.small (toL y) (e ▸ List.mem_map_of_mem hy)
  rwa [toL_len] at this
theorem from_lb {h₀ h : Heap} {L : Addr} {a x1 x2 x3 x4 x5 b x6 c d : Addr × Obj} {led : List (Addr × Obj)} (N : News h₀ L h (a :: x1 :: x2 :: x3 :: x4 :: x5 :: b :: x6 :: c :: d :: led)) : News h₀ L h (a :: c :: b :: led) := by
 walk_at "ST"
 case oTag =>
  intro q hq
  refine N q ?_
  clear N
  simp only [List.mem_cons] at hq ⊢
  rcases hq with h | h | h | h <;> simp [h]
 walk_at "EN"
noncomputable def lrM (fr : Int) (tf : Tok) (Ce Re Mo Fo : Addr) (mx : Str → Option Value) : Str → Option Value := fun y =>
  if y = Str.ofString "cells" then some (.ref Ce) else if y = Str.ofString "fed_row" then some (.int fr tf) else if y = Str.ofString "rest" then some (.ref Re) else if y = Str.ofString "more" then some (.ref Mo) else if y = Str.ofString "folded" then some (.ref Fo) else mx y
theorem lrM_end {h₀ h : Heap} {L : Addr} {m' : Str → Option Value} {fr : Int} {tf : Tok} {Ce Re Mo Fo : Addr} (F : Fr h₀ L h m')
    (e1 : m' (Str.ofString "cells") = some (.ref Ce)) (e2 : m' (Str.ofString "fed_row") = some (.int fr tf)) (e3 : m' (Str.ofString "rest") = some (.ref Re)) (e4 : m' (Str.ofString "more") = some (.ref Mo)) (e5 : m' (Str.ofString "folded") = some (.ref Fo)) : Fr h₀ L h (lrM fr tf Ce Re Mo Fo m') := by
  have : m' = lrM fr tf Ce Re Mo Fo m' := by
    funext y
    unfold lrM
    repeat (split; (next q => rw [q]; assumption))
    rfl
  exact this ▸ F
noncomputable abbrev allYs (tys : List Str) (c2 : Int) : List Str := ((tys ++ [⟨#[stayC c2]⟩ ++ Str.ofString ".", Str.ofString ""]) ++ [Str.ofString "."]) ++ List.replicate (c2.fmod 2).toNat (Str.ofString "")
example : True := by
  k_with "!MY NE" => (guard_expr onLaw4 =~ onLaw4; first | (refine neN ?_; (try dsimp only); omega))
  k_with "!MY ALL" => (guard_expr onLaw4 =~ onLaw4; first | assumption | exact NeAll.all (by assumption))
  k_with "!MY CALLED" => (guard_expr onLaw4 =~ onLaw4; ((case kB => assumption); (case kF => assumption); (case kX => assumption); (case kN => assumption); (case kT => assumption); (case kf => exact rfl); (case kk => exact rfl); (case kd => (show _ < recursionLimit; (try dsimp only); omega)); (case ku => (show _ < cLine; (try dsimp only); omega)); k_whole))
  k_with "!call ref" => (guard_expr onLaw4 =~ onLaw4; (k_here; (with_reducible show wpAny _ _ (call (Value.ref 163) [_]) _ _ _); k_dflt (refine' stay_call ?kB ?kF ?kX ?kN ?kT ?kf ?kk ?kd ?ku ?_; walk_at "MY CALLED"; intro hq''k tq''k tn''k F''k N''k)))
  k_with "!call ref" => (guard_expr onLaw4 =~ onLaw4; (k_here; (with_reducible show wpAny _ _ (call (Value.ref 184) [_, _]) _ _ _); k_dflt (refine' sent_call ?kB ?kF ?kX ?kN ?kT ?kf ?kk ?kd ?ku ?hs_172 ?hp_172 ?hnn_172 ?_; walk_at "MY CALLED"; (case hs_172 => exact strs_app (strs_app (strs_app (by assumption) (.cons _ _ (.cons _ _ .nil))) (.cons _ _ .nil)) (by assumption)); (case hp_172 => assumption); (case hnn_172 => exact rfl); intro hq''k tq''k Dq''k vq''k kq''k yq''k hlq''k F''k N''k hlt''k hsq''k hmq''k)))
  k_with "!binaryOp Add ref ref" => (guard_expr onLaw4 =~ onLaw4; (k_here; k_dflt (refine' add_N ?k1_173 ?k2_173 ?k3_173 ?k4_173 ?z1_173 ?z2_173 ?_; (case k1_173 => k_asm); (case k2_173 => k_asm); (case k3_173 => k_mem); (case k4_173 => k_mem); (case z1_173 => (simp only [List.length_append, List.length_cons, List.length_nil]; omega)); (case z2_173 => (simp only [List.length_append, List.length_cons, List.length_nil]; omega)); k_whole; intro D''k h''k F''k N''k hlt''k)))
  k_with "!binaryOp Mult ref int" => (guard_expr onLaw4 =~ onLaw4; (k_here; k_dflt (refine' mul_one ?k1_174 ?k2_174 ?k3_174 ?k4_174 ?k5_174 ?_; (case k1_174 => k_asm); (case k2_174 => k_asm); (case k3_174 => exact ⟨_, News.get (by k_asm) (by k_mem), rfl, _, rfl⟩); (case k4_174 => exact fmod_lo _ (by decide)); (case k5_174 => exact fmod_hi _ (by decide)); k_whole; intro D''k h''k mv''k F''k N''k hlt''k hmv''k hml''k)))
  k_with "!CompAt" => (guard_expr onLaw4 =~ onLaw4; (k_here; (with_reducible show CompAt _ _ _ _ _ _ (Str.ofString "row") _ _ _ _ _ _ _); k_dflt (refine' fold_comp ?kB_175 ?kX_175 ?kT_175 ?kf_175 ?kke_175 ?kd_175 ?ku_175 ?kF_175 ?kN_175 ?hS_175 ?hvs_175 ?hyl_175 ?hzz_175 ?hpos_175 ?kk_175 ?kx_175 ?hgl_175 ?hclos_175 ?hcell_175 ?hkind_175 ?hnames_175 ?hxl_175 ?hk2_175 ?hx2_175 ?hy2_175 ?hfs_175 ?_; (case kB_175 => assumption); (case kX_175 => assumption); (case kT_175 => assumption); (case kf_175 => exact rfl); (case kke_175 => exact rfl); (case kd_175 => (show _ < recursionLimit; (try dsimp only); omega)); (case ku_175 => (show _ < cLine; (try dsimp only); omega)); (case kF_175 => k_asm); (case kN_175 => k_asm); (case hS_175 => k_mem); (case hvs_175 => assumption); (case hyl_175 => exact sent_few (by assumption) (by assumption)); (case hzz_175 => exact sent_small (by assumption) (by assumption)); (case hpos_175 => exact rfl); (case kk_175 => exact rfl); (case kx_175 => exact fun _ => rfl); (case hgl_175 => exact rfl); (case hclos_175 => exact fun _ => rfl); (case hcell_175 => decide); (case hkind_175 => exact rfl); (case hnames_175 => decide); (case hxl_175 => exact rfl); (case hk2_175 => exact fun _ => rfl); (case hx2_175 => exact fun _ _ => rfl); (case hy2_175 => exact fun _ _ => rfl); (case hfs_175 => exact fun _ _ => rfl); k_whole; intro D''k h''k tk''k ys''k n''k F''k N''k ne''k hi''k; (have ne''k := NeAll.mk ne''k); (try dsimp only at F''k N''k); (try dsimp only))))
  k_with "!subscriptTail Name Constant ref int" => (guard_expr onLaw4 =~ onLaw4; (k_here; k_dflt (refine' item_at ?k1_176 ?k2_176 ?k3_176 ?k4_176 ?_; (case k1_176 => exact ⟨_, News.get (by k_asm) (by k_mem), rfl, _, rfl⟩); (case k2_176 => decide); (case k3_176 => decide); (case k4_176 => exact rfl); k_whole)))
  k_with "!execs cons" => (guard_expr onLaw4 =~ onLaw4; (k_here; (with_reducible show wpAny _ _ (execs (Stmt.Assign _ (Expr.Call (Expr.Name _ _) [Expr.Subscript _ _ _, _, _, _, _] _ _) _ :: _) _) _ _ _); refine Stop.mk ?_))
  trivial
section
variable {w : World} {dp un : Nat} {gd : Option (List Code)} {outer : List Env} {A₀ : Around} {base : Heap} {E : Value → Shared → Prop} {s : Shared} {Q : Flow → Shared → Prop} {h₀ : Heap} {L : Addr} {mx mg mb : Str → Option Value} {mean : ExcName → Option Value} {o4 o1 op oc : Obj} {tys : List Str}
  {Ty Ce Pl a b0 b1 b2 b3 b4 : Addr} {c0 c1 c2 c3 fr : Int} {t0 t1 t2 t3 : Tok} {ep nt kw : Nat} {ts ws : List Value} {u0 u1 u2 v0 v1 v2 tf : Tok}
theorem law_b (B : Below A₀ base outer h₀) (X : (KK w.params).In h₀) (T : Top qq LOOSE mean mg mb h₀) (hdp : dp + 40 < recursionLimit) (hun : un + 150 < cLine)
    (F : Fr h₀ L s.heap (ltM fr tf Ty Ce mx)) (N : News h₀ L s.heap ((Ty, plainO ts nt) :: lawLed L Pl Ce a b0 b1 b2 b3 b4 op oc o4 o1 ws kw c0 c1 c2 c3 t0 t1 t2 t3 ep u0 u1 u2 v0 v1 v2))
    (hts : StrsAre ts tys) (htl : ts.length = 5) (hpre : SentPre (allYs tys c2)) (hsm : SentL (allYs tys c2)) (z2 : 0 ≤ c2 ∧ c2 ≤ 64000000)
    (next : ∀ h' tk' m' Fo Re Mo fs nf mv (yq : List Str) t k, Fr h₀ L h' (lrM fr tf Ce Re Mo Fo m') → News h₀ L h' ((Fo, plainO fs nf) :: (Re, PySem.W.listOf #[.str (⟨#[stayC c2]⟩ ++ Str.ofString ".") t, .str (Str.ofString "") k] 0) :: (Mo, plainO mv 0) :: lawLed L Pl Ce a b0 b1 b2 b3 b4 op oc o4 o1 ws kw c0 c1 c2 c3 t0 t1 t2 t3 ep u0 u1 u2 v0 v1 v2) →
      StrsAre fs (yq.map foldS) → yq.map toL = ((allYs tys c2).map toL).map sentL → StrsAre mv (List.replicate (c2.fmod 2).toNat (Str.ofString "")) →
      wpAny (model PW w) (AT dp un gd (lEnv L) outer) (execs (restIn 77 10) (lEnv L)) Q E { s with heap := h', toks := tk' }) :
    wpAny (model PW w) (AT dp un gd (lEnv L) outer) (execs (restIn 77 6) (lEnv L)) Q E s := by
 walk_at "ST"
 case oTag =>
  unfold lEnv
  with_unfolding_all show wpAny _ _ (execs [_, _, _, _, _, _, _, _, _] _) _ _ _
  unfold ltM at F
  k_steps
  unfold Stop
  rename News _ _ _ _ => hNN
  rename Fr _ _ _ _ => hFF
  rename StrsAre _ (List.map foldS _) => hfs
  rename StrsAre _ (List.replicate _ _) => hmv
  rename (List.map toL _ = _) => hmm
  with_unfolding_all refine next _ _ _ _ _ _ _ _ _ _ _ _ (lrM_end hFF rfl rfl rfl rfl rfl) (from_lb hNN) hfs hmm hmv
 walk_at "EN"
end
end
section
theorem slice_up {w : World} {A : Around} {E : Value → Shared → Prop} {s : Shared} {h₀ : Heap} {L l : Addr} {m : Str → Option Value} {news : List (Addr × Obj)} {value slice : PySem.Expr} {vs : List Value} {n : Nat} {t : Tok} {Q : Value → Shared → Prop}
    (F : Fr h₀ L s.heap m) (N : News h₀ L s.heap news) (hm : (l, plainO vs n) ∈ news) (hz : vs.length ≤ 20)
    (h : ∀ D h', Fr h₀ L h' m → News h₀ L h' ((D, plainO (vs.take 5) 0) :: news) → (∀ p ∈ news, @LT.lt Nat _ p.1 D) → Q (.ref D) { s with heap := h' })
    (hs : subscripted slice false (.ref l) (.ref s.heap.objs.size) = operate [.ref s.heap.objs.size, .ref l] (getItem (.ref l) (.ref s.heap.objs.size))) (ht : ∀ r, letTemporaryGo value (.ref l) r = pure ()) :
    wpAny (model PW w) A (subscriptTail value slice (.ref l) (.ref s.heap.objs.size)) Q E { s with heap := s.heap.push { cls := .type "slice", data := .fields #[.none, .int 5 t, .none] } } := by
  refine kmk_slice (its := vs.toArray) (lo := none) (hi := some 5) F N ⟨_, N.get hm, rfl, _, rfl⟩ (by first | exact rfl | kmk_part) (by first | exact rfl | kmk_part) (fun D h' F' N' l1 => h D h' F' ?_ l1) hs ht (by simp [sizeLine_eq]; omega)
  have e := slicePick_upto' vs.toArray 5
  rw [show ((5 : Nat) : Int) = 5 from rfl] at e
  rw [e] at N'
  simpa [plainO] using N'
theorem slice_dn {w : World} {A : Around} {E : Value → Shared → Prop} {s : Shared} {h₀ : Heap} {L l : Addr} {m : Str → Option Value} {news : List (Addr × Obj)} {value slice : PySem.Expr} {vs : List Value} {n : Nat} {t : Tok} {Q : Value → Shared → Prop}
    (F : Fr h₀ L s.heap m) (N : News h₀ L s.heap news) (hm : (l, plainO vs n) ∈ news) (hz : vs.length ≤ 20)
    (h : ∀ D h', Fr h₀ L h' m → News h₀ L h' ((D, plainO (vs.drop 5) 0) :: news) → (∀ p ∈ news, @LT.lt Nat _ p.1 D) → Q (.ref D) { s with heap := h' })
    (hs : subscripted slice false (.ref l) (.ref s.heap.objs.size) = operate [.ref s.heap.objs.size, .ref l] (getItem (.ref l) (.ref s.heap.objs.size))) (ht : ∀ r, letTemporaryGo value (.ref l) r = pure ()) :
    wpAny (model PW w) A (subscriptTail value slice (.ref l) (.ref s.heap.objs.size)) Q E { s with heap := s.heap.push { cls := .type "slice", data := .fields #[.int 5 t, .none, .none] } } := by
  refine kmk_slice (its := vs.toArray) (lo := some 5) (hi := none) F N ⟨_, N.get hm, rfl, _, rfl⟩ (by first | exact rfl | kmk_part) (by first | exact rfl | kmk_part) (fun D h' F' N' l1 => h D h' F' ?_ l1) hs ht (by simp [sizeLine_eq]; omega)
  have e := slicePick_from' vs.toArray 5
  rw [show ((5 : Nat) : Int) = 5 from rfl] at e
  rw [e] at N'
  simpa [plainO] using N'
theorem play_call {w : World} {mean : ExcName → Option Value} {mg mb : Str → Option Value} {dp un : Nat} {gd : Option (List Code)} {env0 : Env} {outer : List Env} {A₀ : Around} {base h₀ : Heap} {L : Addr} {m : Str → Option Value} {s : Shared} {Q E : Value → Shared → Prop} {news : List (Addr × Obj)} {D : Addr} {vs : List Value} {k : Nat} {fr la sh tu : Int} {t1 t2 t3 t4 : Tok} {g : Net} {st fin : St}
    (kB : Below A₀ base outer h₀) (kF : Fr h₀ L s.heap m) (kX : (KK w.params).In h₀) (kN : News h₀ L s.heap ((D, plainO vs k) :: news)) (kT : Top qq LOOSE mean mg mb h₀) (kf : env0.frame = some L) (kk : env0.scope.kind = .function) (kd : dp + 30 < recursionLimit) (ku : un + 120 < cLine)
    (hg : NetOk g) (hsh0 : 0 ≤ sh) (hsh1 : sh < 30) (hfr0 : 0 ≤ fr) (hfr3 : fr < 3) (hs : sim g fr.toNat (decide (la = 1)) 30 st = some fin) (hb : ∀ i, i < 5 → 1 ≤ st.n i ∧ st.n i ≤ 30) (hst : st.fed = 1 ∧ st.p = 0 ∧ st.q = 0 ∧ st.r = 0) (hR : RowsC vs (fun i => rowN g i (st.n i))) (hlt : ∀ p ∈ news, @LT.lt Nat _ p.1 D)
    (done : ∀ h' tk' R P tf kp y1 y2 y3 vs', Fr h₀ L h' m → News h₀ L h' ((R, PySem.W.listOf #[.int (fin.fed : Nat) tf, .ref P, .ref D] 0) :: (P, plainO [.int (fin.p : Nat) y1, .int (fin.q : Nat) y2, .int (fin.r : Nat) y3] kp) :: (D, plainO vs' k) :: news) → RowsC vs' (fun i => rowN g i (fin.n i)) → Q (.ref R) { s with heap := h', toks := tk' }) :
    wpAny (model PW w) (AT dp un gd env0 outer) (call (.ref 194) [.ref D, .int fr t1, .int la t2, .int sh t3, .int tu t4]) Q E s :=
  play_spec w D vs k fr la sh tu t1 t2 t3 t4 news g st fin hg hsh0 hsh1 hfr0 hfr3 hs hb hst hR (fun p hp e => Nat.lt_irrefl _ (e ▸ hlt p hp : @LT.lt Nat _ p.1 p.1)) _ _ _ _ _ _ _ _ _ _ _ _ _ _ _ _ kB kF kX kN kT kf kk kd ku fun v h' tk' n' hR F N => by
    obtain ⟨R, P, tf, kp, y1, y2, y3, vs', rfl, rfl, hr⟩ := hR
    exact done _ _ _ _ _ _ _ _ _ _ F N hr
theorem told_call {w : World} {mean : ExcName → Option Value} {mg mb : Str → Option Value} {dp un : Nat} {gd : Option (List Code)} {env0 : Env} {outer : List Env} {A₀ : Around} {base h₀ : Heap} {L : Addr} {m : Str → Option Value} {s : Shared} {Q E : Value → Shared → Prop} {news : List (Addr × Obj)} {a b0 b1 b2 b3 b4 : Addr} {f0 s0 f1 s1 f2 s2 r : Int} {t0 u0 t1 u1 t2 u2 tr : Tok} {c0 c1 c2 g0 g1 g2 : Int} {n : Nat}
    (kB : Below A₀ base outer h₀) (kF : Fr h₀ L s.heap m) (kX : (KK w.params).In h₀) (kN : News h₀ L s.heap news) (kT : Top qq LOOSE mean mg mb h₀) (kf : env0.frame = some L) (kk : env0.scope.kind = .function) (kd : dp + 20 < recursionLimit) (ku : un + 80 < cLine)
    (ha : (a, netA b0 b1 b2 b3 b4) ∈ news) (h0 : (b0, netO f0 s0 t0 u0) ∈ news) (h1 : (b1, netO f1 s1 t1 u1) ∈ news) (h2 : (b2, netO f2 s2 t2 u2) ∈ news) (hr0 : 0 ≤ r) (hr3 : r < 3)
    (hc : [c0, c1, c2] = cofs f0 s0 f1 s1 f2 s2 r) (hg0 : gcdI n (sumL f0 s0 f1 s1 f2 s2 r c0 c1 c2).sum c0 = some g0) (hg1 : gcdI n g0 c1 = some g1) (hg2 : gcdI n g1 c2 = some g2) (hgz : g2 ≠ 0) (hgb : -1000 ≤ g2 ∧ g2 ≤ 1000)
    (done : ∀ h' tk' Tp D2 ys k2 td, Fr h₀ L h' m → News h₀ L h' ((Tp, { cls := .type "tuple", data := .seq #[.int ((sumL f0 s0 f1 s1 f2 s2 r c0 c1 c2).sum.fdiv g2) td, .ref D2] 0 }) :: (D2, plainO ys k2) :: news) → IntsAre ys [c0.fdiv g2, c1.fdiv g2, c2.fdiv g2] → Q (.ref Tp) { s with heap := h', toks := tk' }) :
    wpAny (model PW w) (AT dp un gd env0 outer) (call (.ref 199) [.ref a, .int r tr]) Q E s :=
  told_spec w a b0 b1 b2 b3 b4 f0 s0 f1 s1 f2 s2 r t0 u0 t1 u1 t2 u2 tr news c0 c1 c2 g0 g1 g2 n hr0 hr3 hc hg0 hg1 hg2 hgz hgb _ _ _ _ _ _ _ _ _ _ _ _ _ _ _ _ kB kF kX (fun p hp => by
    rcases List.mem_cons.mp hp with rfl | hp
    · exact kN _ ha
    · rcases List.mem_cons.mp hp with rfl | hp
      · exact kN _ h0
      · rcases List.mem_cons.mp hp with rfl | hp
        · exact kN _ h1
        · rcases List.mem_cons.mp hp with rfl | hp
          · exact kN _ h2
          · exact kN p hp) kT kf kk kd ku fun v h' tk' n' hR F N => by
    obtain ⟨Tp, D2, ys, k2, td, rfl, rfl, hi⟩ := hR
    refine done h' tk' Tp D2 ys k2 td F (fun p hp => N p ?_) hi
    rcases List.mem_cons.mp hp with rfl | hp
    · exact .head _
    · rcases List.mem_cons.mp hp with rfl | hp
      · exact .tail _ (.head _)
      · exact .tail _ (.tail _ (.tail _ (.tail _ (.tail _ (.tail _ hp)))))
theorem due_comp {w : World} {A : Around} {env : Env} {E : Value → Shared → Prop} {s : Shared} {Q : Value → Shared → Prop} {h₀ : Heap} {m : Str → Option Value} {scope : Scope} {cl : List (Str × Addr)} {dst : Option Str} {r cp Pl : Addr} {ro op : Obj} {t u v : Tok} {news : List (Addr × Obj)} {ws : List Value} {kw : Nat} {d0 d1 d2 d3 d4 : Str} {p1 p2 p3 p4 p5 : Pos}
    (hh : A.handled = none) (F : Fr h₀ env.locals s.heap m) (N : News h₀ env.locals s.heap news) (hr : s.heap.get? r = some ro)
    (hro : ro = { cls := .type "range", dict := none, data := .fields #[.int 0 t, .int 3 u, .int 1 v], slots := #[] })
    (hk : (relabel scope env).kind = .function) (hx : ∀ C, (compEnvC scope cl C env).kindOf (Str.ofString "place") = some .local) (hy : ∀ C, (compEnvC scope cl C env).kindOf (Str.ofString "plain") = some .cell)
    (hc1 : cl.lookup (Str.ofString "plain") = some cp) (hm1 : (cp, op) ∈ news) (hd1 : op.data = .cell (some (.ref Pl))) (hP : (Pl, plainO ws kw) ∈ news) (hws : StrsAre ws [d0, d1, d2, d3, d4]) (hz : ∀ d ∈ [d0, d1, d2, d3, d4], d.length ≤ 3)
    (done : ∀ D h' tk ys n, Fr h₀ env.locals h' (match dst with | some y => fun z => if z = y then some (.ref D) else m z | none => m) → News h₀ env.locals h' ((D, plainO ys n) :: news) → (∀ q ∈ news, @Ne Nat q.1 D) →
      StrsAre ys [Str.ofString ".." ++ d0, Str.ofString ".." ++ d1, Str.ofString ".." ++ d2] → Q (.ref D) { s with heap := h', toks := tk }) :
    CompAt PW w A env scope cl (Str.ofString "place") [] (.BinOp (.Constant (.str (Str.ofString "..")) 0 p1) .Add (.Subscript (.Name (Str.ofString "plain") p2) (.Name (Str.ofString "place") p3) p4) p5) dst Q E (.ref r) s := by
 walk_at "ST"
 case oTag =>
  refine compAt_range hh F N hr hro (by decide +kernel) 3 (by decide) (by decide +kernel) (fun _ => true) (fun v y => ∀ k t, v = .int k t → ∃ t, y = .str (Str.ofString ".." ++ [d0, d1, d2, d3, d4].getD k.toNat (Str.ofString "")) t) ?_ ?_ ?_
  · intro C k t s₃ m₃ E' _ _ _ _ _ _
    simp only [List.forIn_nil]
    exact wpAny_pure ⟨rfl, _, _, rfl, fun _ _ e => e⟩
  · intro C k tk s₃ m₃ E' hk0 hk3 _ hns hx' F' N'
    have l1 : ∀ {pos : Pos} {Q' E' : Value → Shared → Prop} {s' : Shared}, s'.heap = s₃.heap → Q' (.int k tk) s' → wpAny (model PW w) A (eval (.Name (Str.ofString "place") pos) (compEnvC scope cl C env)) Q' E' s' :=
      fun e h => wpAny_Name (wpAny_loadName_local hk (hx C) (e ▸ hns) hx' h) (by decide)
    have l2 : ∀ {pos : Pos} {Q' E' : Value → Shared → Prop} {s' : Shared}, s'.heap = s₃.heap → Q' (.ref Pl) s' → wpAny (model PW w) A (eval (.Name (Str.ofString "plain") pos) (compEnvC scope cl C env)) Q' E' s' :=
      fun e h => wpAny_Name (wpAny_loadName_cell hk (hy C) hc1 ⟨op, e ▸ N'.get hm1, hd1⟩ h) (by decide)
    obtain ⟨tp, hp⟩ := strs_get hws k.toNat (show k.toNat < 5 by omega)
    have hl : s₃.heap.IsList Pl ws.toArray := ⟨_, N'.get hP, rfl, _, rfl⟩
    have hlen : ([d0, d1, d2, d3, d4].getD k.toNat (Str.ofString "")).length ≤ 3 := by
      have : k.toNat < [d0, d1, d2, d3, d4].length := by show k.toNat < 5; omega
      rw [List.getD_eq_getElem?_getD, List.getElem?_eq_getElem this]
      exact hz _ (List.getElem_mem this)
    refine wpAny_BinOp (wpAny_Constant_str (wpAny_Subscript_Name (T := "list") slot_list_getitem.lookup (l2 rfl (l1 rfl ⟨hl.typeIs, wpAny_getItem_list hl hk0 (by omega) (by simpa using hp) (add_str (fun t' k' => ⟨fun k2 t2 e => ?_, _, _, rfl, fun _ _ e => e⟩) ?_)⟩))))
    · injection e with e _
      subst e
      exact ⟨_, rfl⟩
    · rw [List.getD_eq_getElem?_getD] at hlen
      rw [sizeLine_eq, show (Str.ofString "..").length = 2 by decide +kernel]; omega
  · intro D h' tk ys n vs F' N' ne hvs hpair
    refine done D h' tk ys n F' N' ne ?_
    have hf : vs.filter (fun _ => true) = vs := List.filter_eq_self.mpr fun _ _ => rfl
    rw [hf] at hpair
    rw [show intsTo 0 ((3 : Int) - 0).toNat = [0, 1, 2] by decide +kernel] at hvs
    exact strs_of_pairsF (f := fun k => Str.ofString ".." ++ [d0, d1, d2, d3, d4].getD k.toNat (Str.ofString "")) hvs hpair
 walk_at "EN"
end
section
noncomputable def pkV (f : Int → Bool) (v : Value) : Bool := match v with
  | .int k _ => f k
  | _ => false
theorem ints_fm {pk : Int → Bool} {f : Int → Int} {vs : List Value} {ns : List Int} (h : IntsAre vs ns) : ∀ {ys : List Value}, Paired (fun v y => ∀ k t, v = .int k t → ∃ t, y = .int (f k) t) (vs.filter (pkV pk)) ys → IntsAre ys ((ns.filter pk).map f) := by
  induction h with
  | nil => intro ys hp; cases hp; exact .nil
  | cons k t _ ih =>
    intro ys hp
    rw [List.filter_cons] at hp
    have e : pkV pk (.int k t) = pk k := rfl
    rw [e] at hp
    rw [List.filter_cons]
    by_cases hk : pk k = true
    · rw [if_pos hk] at hp ⊢
      cases hp with
      | cons a hp =>
        obtain ⟨u, rfl⟩ := a _ _ rfl
        exact .cons _ _ (ih hp)
    · rw [if_neg hk] at hp ⊢
      exact ih hp
noncomputable def duesL (f0 s0 f1 s1 f2 s2 q0 q1 q2 pl : Int) : List Int := (([0, 1, 2] : List Int).filter fun k => [pick3 f0 f1 f2 k, pick3 s0 s1 s2 k].any (· == pl)).map fun k => pick3 q0 q1 q2 k
theorem dues_comp {w : World} {A : Around} {env : Env} {E : Value → Shared → Prop} {s : Shared} {Q : Value → Shared → Prop} {h₀ : Heap} {m : Str → Option Value} {scope : Scope} {cl : List (Str × Addr)} {dst : Option Str} {r cp cn cq a b0 b1 b2 b3 b4 D2 : Addr} {ro op on oq : Obj} {t u v tp : Tok} {news : List (Addr × Obj)} {qs : List Value} {k2 : Nat} {f0 s0 f1 s1 f2 s2 q0 q1 q2 pl : Int} {t0 t1 t2 u0 u1 u2 : Tok} {p1 p2 p3 p4 p5 p6 p7 p8 : Pos}
    (hh : A.handled = none) (F : Fr h₀ env.locals s.heap m) (N : News h₀ env.locals s.heap news) (hr : s.heap.get? r = some ro)
    (hro : ro = { cls := .type "range", dict := none, data := .fields #[.int 0 t, .int 3 u, .int 1 v], slots := #[] })
    (hk : (relabel scope env).kind = .function) (hx : ∀ C, (compEnvC scope cl C env).kindOf (Str.ofString "other") = some .local)
    (hy1 : ∀ C, (compEnvC scope cl C env).kindOf (Str.ofString "place") = some .cell) (hy2 : ∀ C, (compEnvC scope cl C env).kindOf (Str.ofString "net") = some .cell) (hy3 : ∀ C, (compEnvC scope cl C env).kindOf (Str.ofString "passed") = some .cell)
    (hc1 : cl.lookup (Str.ofString "place") = some cp) (hm1 : (cp, op) ∈ news) (hd1 : op.data = .cell (some (.int pl tp)))
    (hc2 : cl.lookup (Str.ofString "net") = some cn) (hm2 : (cn, on) ∈ news) (hd2 : on.data = .cell (some (.ref a)))
    (hc3 : cl.lookup (Str.ofString "passed") = some cq) (hm3 : (cq, oq) ∈ news) (hd3 : oq.data = .cell (some (.ref D2)))
    (ha : (a, netA b0 b1 b2 b3 b4) ∈ news) (h0 : (b0, netO f0 s0 t0 u0) ∈ news) (h1 : (b1, netO f1 s1 t1 u1) ∈ news) (h2 : (b2, netO f2 s2 t2 u2) ∈ news) (hD : (D2, plainO qs k2) ∈ news) (hqs : IntsAre qs [q0, q1, q2])
    (done : ∀ D h' tk ys n, Fr h₀ env.locals h' (match dst with | some y => fun z => if z = y then some (.ref D) else m z | none => m) → News h₀ env.locals h' ((D, plainO ys n) :: news) → (∀ q ∈ news, @Ne Nat q.1 D) →
      IntsAre ys (duesL f0 s0 f1 s1 f2 s2 q0 q1 q2 pl) → Q (.ref D) { s with heap := h', toks := tk }) :
    CompAt PW w A env scope cl (Str.ofString "other") [.Compare (.Name (Str.ofString "place") p1) [.In] [.Subscript (.Name (Str.ofString "net") p2) (.Name (Str.ofString "other") p3) p4] p5] (.Subscript (.Name (Str.ofString "passed") p6) (.Name (Str.ofString "other") p7) p8) dst Q E (.ref r) s := by
 walk_at "ST"
 case oTag =>
  refine compAt_range hh F N hr hro (by decide +kernel) 3 (by decide) (by decide +kernel) (pkV fun k => [pick3 f0 f1 f2 k, pick3 s0 s1 s2 k].any (· == pl)) (fun v y => ∀ k t, v = .int k t → ∃ t, y = .int (pick3 q0 q1 q2 k) t) ?_ ?_ ?_
  · intro C k tk s₃ m₃ E' hk0 hk3 hns hx' F' N'
    have l1 : ∀ {pos : Pos} {Q' : Value → Shared → Prop} {s' : Shared}, s'.heap = s₃.heap → Q' (.int k tk) s' → wpAny (model PW w) A (eval (.Name (Str.ofString "other") pos) (compEnvC scope cl C env)) Q' E' s' :=
      fun e h => wpAny_Name (wpAny_loadName_local hk (hx C) (e ▸ hns) hx' h) (by decide)
    have l2 : ∀ {pos : Pos} {Q' : Value → Shared → Prop} {s' : Shared}, s'.heap = s₃.heap → Q' (.int pl tp) s' → wpAny (model PW w) A (eval (.Name (Str.ofString "place") pos) (compEnvC scope cl C env)) Q' E' s' :=
      fun e h => wpAny_Name (wpAny_loadName_cell hk (hy1 C) hc1 ⟨op, e ▸ N'.get hm1, hd1⟩ h) (by decide)
    have l3 : ∀ {pos : Pos} {Q' : Value → Shared → Prop} {s' : Shared}, s'.heap = s₃.heap → Q' (.ref a) s' → wpAny (model PW w) A (eval (.Name (Str.ofString "net") pos) (compEnvC scope cl C env)) Q' E' s' :=
      fun e h => wpAny_Name (wpAny_loadName_cell hk (hy2 C) hc2 ⟨on, e ▸ N'.get hm2, hd2⟩ h) (by decide)
    have hla : s₃.heap.IsList a #[.ref b0, .ref b1, .ref b2, .ref b3, .ref b4] := ⟨_, N'.get ha, rfl, _, rfl⟩
    have main : ∀ (bk : Addr) (f s' : Int) (tf ts : Tok), (#[Value.ref b0, .ref b1, .ref b2, .ref b3, .ref b4] : Array Value)[k.toNat]? = some (.ref bk) → (bk, netO f s' tf ts) ∈ news → pick3 f0 f1 f2 k = f → pick3 s0 s1 s2 k = s' →
        wpAny (model PW w) A (forIn [PySem.Expr.Compare (.Name (Str.ofString "place") p1) [.In] [.Subscript (.Name (Str.ofString "net") p2) (.Name (Str.ofString "other") p3) p4] p5] true fun c r => if r = true then do let ok ← isTrue c (compEnvC scope cl C env) (eval c (compEnvC scope cl C env)); pure (ForInStep.yield ok) else pure (ForInStep.yield r))
          (fun ok s₄ => ok = pkV (fun k => [pick3 f0 f1 f2 k, pick3 s0 s1 s2 k].any (· == pl)) (.int k tk) ∧ Keeps s₃ s₄) E' s₃ := by
      intro bk f s' tf ts e1 e2 e3 e4
      simp only [List.forIn_cons, List.forIn_nil, if_true]
      have hlb : s₃.heap.IsList bk [Value.int f tf, .int s' ts].toArray := ⟨_, N'.get e2, rfl, _, rfl⟩
      refine wpAny_bind (wpAny_bind (wpAny_isTrue_Compare1 (l2 rfl (wpAny_Subscript_Name (T := "list") slot_list_getitem.lookup (l3 rfl (l1 rfl ⟨hla.typeIs, wpAny_getItem_list hla hk0 (by omega) e1 ?_⟩))))))
      refine in_list_ints hlb (.cons _ _ (.cons _ _ .nil)) (wpAny_truthy_bool (wpAny_pure (wpAny_pure ⟨?_, _, _, rfl, fun _ _ e => e⟩)))
      show _ = [pick3 f0 f1 f2 k, pick3 s0 s1 s2 k].any (· == pl)
      rw [e3, e4]
    have hn : k = 0 ∨ k = 1 ∨ k = 2 := by omega
    rcases hn with rfl | rfl | rfl
    · exact main b0 _ _ _ _ rfl h0 rfl rfl
    · exact main b1 _ _ _ _ rfl h1 rfl rfl
    · exact main b2 _ _ _ _ rfl h2 rfl rfl
  · intro C k tk s₃ m₃ E' hk0 hk3 _ hns hx' F' N'
    have l1 : ∀ {pos : Pos} {Q' E' : Value → Shared → Prop} {s' : Shared}, s'.heap = s₃.heap → Q' (.int k tk) s' → wpAny (model PW w) A (eval (.Name (Str.ofString "other") pos) (compEnvC scope cl C env)) Q' E' s' :=
      fun e h => wpAny_Name (wpAny_loadName_local hk (hx C) (e ▸ hns) hx' h) (by decide)
    have l4 : ∀ {pos : Pos} {Q' E' : Value → Shared → Prop} {s' : Shared}, s'.heap = s₃.heap → Q' (.ref D2) s' → wpAny (model PW w) A (eval (.Name (Str.ofString "passed") pos) (compEnvC scope cl C env)) Q' E' s' :=
      fun e h => wpAny_Name (wpAny_loadName_cell hk (hy3 C) hc3 ⟨oq, e ▸ N'.get hm3, hd3⟩ h) (by decide)
    have hn : k = 0 ∨ k = 1 ∨ k = 2 := by omega
    obtain ⟨tq, hq⟩ := hqs.get k.toNat (pick3 q0 q1 q2 k) (by rcases hn with rfl | rfl | rfl <;> rfl)
    have hl : s₃.heap.IsList D2 qs.toArray := ⟨_, N'.get hD, rfl, _, rfl⟩
    refine wpAny_Subscript_Name (T := "list") slot_list_getitem.lookup (l4 rfl (l1 rfl ⟨hl.typeIs, wpAny_getItem_list hl hk0 (by omega) (by simpa using hq) ⟨fun k' t' e => ?_, _, _, rfl, fun _ _ e => e⟩⟩))
    injection e with e _
    subst e
    exact ⟨_, rfl⟩
  · intro D h' tk ys n vs F' N' ne hvs hpair
    refine done D h' tk ys n F' N' ne ?_
    rw [show intsTo 0 ((3 : Int) - 0).toNat = [0, 1, 2] by decide +kernel] at hvs
    exact ints_fm (f := fun k => pick3 q0 q1 q2 k) hvs hpair
 walk_at "EN"
noncomputable def ldM (R Du Re Mo Fo : Addr) (fv : Int) (tv : Tok) (mx : Str → Option Value) : Str → Option Value := fun y =>
  if y = Str.ofString "played" then some (.ref R) else if y = Str.ofString "fed" then some (.int fv tv) else if y = Str.ofString "due" then some (.ref Du) else if y = Str.ofString "rest" then some (.ref Re) else if y = Str.ofString "more" then some (.ref Mo) else if y = Str.ofString "folded" then some (.ref Fo) else mx y
theorem ldM_end {h₀ h : Heap} {L : Addr} {m' : Str → Option Value} {R Du Re Mo Fo : Addr} {fv : Int} {tv : Tok} (F : Fr h₀ L h m')
    (e1 : m' (Str.ofString "played") = some (.ref R)) (e2 : m' (Str.ofString "fed") = some (.int fv tv)) (e3 : m' (Str.ofString "due") = some (.ref Du)) (e4 : m' (Str.ofString "rest") = some (.ref Re)) (e5 : m' (Str.ofString "more") = some (.ref Mo)) (e6 : m' (Str.ofString "folded") = some (.ref Fo)) : Fr h₀ L h (ldM R Du Re Mo Fo fv tv m') := by
  have : m' = ldM R Du Re Mo Fo fv tv m' := by
    funext y
    unfold ldM
    repeat (split; (next q => rw [q]; assumption))
    rfl
  exact this ▸ F
theorem news_2nd {h₀ h : Heap} {L : Addr} {a b : Addr × Obj} {led : List (Addr × Obj)} (N : News h₀ L h (a :: b :: led)) : News h₀ L h (a :: led) := fun q hq => N q (by
  rcases List.mem_cons.mp hq with rfl | hq
  · exact .head _
  · exact .tail _ (.tail _ hq))
end
section
open ZL ZC ZLaw5
example : True := by
  k_with "!MY NE" => (guard_expr onLaw5 =~ onLaw5; first | (refine neN ?_; (try dsimp only); omega) | (refine' ne_dc ?N_178 ?hm'_178 ?hd_178 ?hm_178; (case N_178 => assumption); (case hm'_178 => k_mem); (case hd_178 => assumption); (case hm_178 => repeat (first | exact .head _ | refine .tail _ ?_))) | (refine' ne_dc' ?N_178 ?hm'_178 ?hd_178 ?hm_178; (case N_178 => assumption); (case hm'_178 => k_mem); (case hd_178 => assumption); (case hm_178 => repeat (first | exact .head _ | refine .tail _ ?_))))
  k_with "!MY ALL" => (guard_expr onLaw5 =~ onLaw5; first | assumption | exact NeAll.all (by assumption))
  k_with "!MY CALLED" => (guard_expr onLaw5 =~ onLaw5; ((case kB => assumption); (case kF => assumption); (case kX => assumption); (case kN => assumption); (case kT => assumption); (case kf => exact rfl); (case kk => exact rfl); (case kd => (show _ < recursionLimit; (try dsimp only); omega)); (case ku => (show _ < cLine; (try dsimp only); omega)); k_whole))
  k_with "!call ref" => (guard_expr onLaw5 =~ onLaw5; (k_here; (with_reducible show wpAny _ _ (call (Value.ref 194) [_, _, _, _, _]) _ _ _); k_dflt (refine' play_call ?kB ?kF ?kX ?kN ?kT ?kf ?kk ?kd ?ku ?hg_181 ?h0_181 ?h1_181 ?h2_181 ?h3_181 ?hs_181 ?hb_181 ?hst_181 ?hR_181 ?hlt_181 ?_; walk_at "MY CALLED"; (case hg_181 => assumption); (case h0_181 => exact fmod_lo _ (by decide)); (case h1_181 => exact fmod_hi _ (by decide)); (case h2_181 => assumption); (case h3_181 => assumption); (case hs_181 => assumption); (case hb_181 => assumption); (case hst_181 => assumption); (case hR_181 => assumption); (case hlt_181 => assumption); intro hq''k tq''k R''k P''k tf''k kp''k y1''k y2''k y3''k vs''k F''k N''k hRows''k)))
  k_with "!call ref" => (guard_expr onLaw5 =~ onLaw5; (k_here; (with_reducible show wpAny _ _ (call (Value.ref 199) [_, _]) _ _ _); k_dflt (refine' told_call ?kB ?kF ?kX ?kN ?kT ?kf ?kk ?kd ?ku ?ha_182 ?h0_182 ?h1_182 ?h2_182 ?hr0_182 ?hr3_182 ?hc_182 ?hg0_182 ?hg1_182 ?hg2_182 ?hgz_182 ?hgb_182 ?_; walk_at "MY CALLED"; (case ha_182 => k_mem); (case h0_182 => k_mem); (case h1_182 => k_mem); (case h2_182 => k_mem); (case hr0_182 => assumption); (case hr3_182 => assumption); (case hc_182 => assumption); (case hg0_182 => assumption); (case hg1_182 => assumption); (case hg2_182 => assumption); (case hgz_182 => assumption); (case hgb_182 => assumption); intro hq''k tq''k T''k D2''k ys''k k2''k td''k F''k N''k hys''k)))
  k_with "!subscriptTail Name Slice ref ref" => (guard_expr onLaw5 =~ onLaw5; (k_here; k_dflt (refine' slice_up ?k1_183 ?k2_183 ?k3_183 ?k4_183 ?_ ?s_183 ?t_183; (case k1_183 => k_asm); (case k2_183 => k_asm); (case k3_183 => k_mem); (case k4_183 => assumption); (case s_183 => with_unfolding_all rfl); (case t_183 => (intro _; with_unfolding_all rfl)); k_whole; intro D''k h''k F''k N''k hlt''k)))
  k_with "!subscriptTail Name Constant ref int" => (guard_expr onLaw5 =~ onLaw5; (k_here; k_dflt (refine' item_at ?k1_184 ?k2_184 ?k3_184 ?k4_184 ?_; (case k1_184 => exact ⟨_, News.get (by k_asm) (by k_mem), rfl, _, rfl⟩); (case k2_184 => decide); (case k3_184 => decide); (case k4_184 => exact rfl); k_whole)))
  k_with "!assign Tuple" => (guard_expr onLaw5 =~ onLaw5; (k_here; k_dflt (refine' unpack_two ?k0_185 ?k1_185 ?k2_185 ?k3_185 ?k4_185 ?_; (case k0_185 => first | assumption | exact rfl); (case k1_185 => assumption); (case k2_185 => assumption); (case k3_185 => k_mem); (case k4_185 => exact fun e => ⟨_, e, rfl, _, rfl⟩); k_whole; intro h''k F''k N''k)))
  k_with "!CompAt" => (guard_expr onLaw5 =~ onLaw5; (k_here; (with_reducible show CompAt _ _ _ _ _ _ (Str.ofString "place") _ _ _ _ _ _ _); k_dflt (refine' due_comp ?k0_186 ?kF_186 ?kN_186 ?kr_186 ?ko_186 ?kk_186 ?kx_186 ?y1_186 ?c1_186 ?m1_186 ?d1_186 ?hP_186 ?hws_186 ?hz_186 ?_; (case k0_186 => exact rfl); (case kF_186 => k_asm); (case kN_186 => k_asm); (case kr_186 => first | assumption | (exact News.get (by k_asm) (by k_mem))); (case ko_186 => exact rfl); (case kk_186 => exact rfl); (case kx_186 => exact fun _ => rfl); (case y1_186 => exact fun _ => rfl); (case c1_186 => exact rfl); (case m1_186 => k_mem); (case d1_186 => k_asm); (case hP_186 => k_mem); (case hws_186 => assumption); (case hz_186 => assumption); k_whole; intro D''k h''k tk''k ys''k n''k F''k N''k ne''k hi''k; (have ne''k := NeAll.mk ne''k); (try dsimp only at F''k N''k); (try dsimp only))))
  k_with "!execs cons" => (guard_expr onLaw5 =~ onLaw5; (k_here; (with_reducible show wpAny _ _ (execs (Stmt.For _ _ _ _ _ :: _) _) _ _ _); refine Stop.mk ?_))
  trivial
section
variable {w : World} {dp un : Nat} {gd : Option (List Code)} {outer : List Env} {A₀ : Around} {base : Heap} {E : Value → Shared → Prop} {s : Shared} {Q : Flow → Shared → Prop} {h₀ : Heap} {L : Addr} {mx mg mb : Str → Option Value} {mean : ExcName → Option Value} {o4 o1 op oc : Obj}
  {Ce Pl a b0 b1 b2 b3 b4 Re Mo Fo : Addr} {c0 c1 c2 c3 fr : Int} {t0 t1 t2 t3 : Tok} {ep kw nf : Nat} {ws fs mv rs : List Value} {u0 u1 u2 v0 v1 v2 tf : Tok} {v9 : Option Value} {g : Net} {st fin : St} {k0 k1 k2 g0 g1 g2 : Int} {n : Nat} {w0 w1 w2 w3 w4 : Str}
theorem law_c (B : Below A₀ base outer h₀) (X : (KK w.params).In h₀) (T : Top qq LOOSE mean mg mb h₀) (hdp : dp + 40 < recursionLimit) (hun : un + 150 < cLine)
    (F : Fr h₀ L s.heap (lrM fr tf Ce Re Mo Fo mx)) (N : News h₀ L s.heap ((Fo, plainO fs nf) :: (Re, plainO rs 0) :: (Mo, plainO mv 0) :: lawLed L Pl Ce a b0 b1 b2 b3 b4 op oc o4 o1 ws kw c0 c1 c2 c3 t0 t1 t2 t3 ep u0 u1 u2 v0 v1 v2))
    (d2 : op.data = .cell v9) (d3 : oc.data = .cell (some (.ref Pl))) (d1 : o1.data = .cell (some (.ref a))) (d4 : o4.data = .cell none) (hfl : fs.length ≤ 20) (hfr0 : 0 ≤ fr) (hfr3 : fr < 3) (z1 : 0 ≤ c1 ∧ c1 ≤ 64000000) (z2 : 0 ≤ c2 ∧ c2 ≤ 64000000) (z3 : 0 ≤ c3 ∧ c3 ≤ 64000000)
    (hg : NetOk g) (hs : sim g fr.toNat (decide ((c1.fdiv 3).fmod 2 = 1)) 30 st = some fin) (hb : ∀ i, i < 5 → 1 ≤ st.n i ∧ st.n i ≤ 30) (hst : st.fed = 1 ∧ st.p = 0 ∧ st.q = 0 ∧ st.r = 0) (hR : RowsC (fs.take 5) (fun i => rowN g i (st.n i)))
    (hws : StrsAre ws [w0, w1, w2, w3, w4]) (hwz : ∀ d ∈ [w0, w1, w2, w3, w4], d.length ≤ 3)
    (hc : [k0, k1, k2] = cofs (netF c0 0) (netS c0 0) (netF c0 1) (netS c0 1) (netF c0 2) (netS c0 2) fr) (hg0 : gcdI n (sumL (netF c0 0) (netS c0 0) (netF c0 1) (netS c0 1) (netF c0 2) (netS c0 2) fr k0 k1 k2).sum k0 = some g0) (hg1 : gcdI n g0 k1 = some g1) (hg2 : gcdI n g1 k2 = some g2) (hgz : g2 ≠ 0) (hgb : -1000 ≤ g2 ∧ g2 ≤ 1000)
    (next : ∀ h' tk' m' R Du P D D2 ds qs vs' nd kq tfd kp y1 y2 y3 tv o4', Fr h₀ L h' (ldM R Du Re Mo Fo ((sumL (netF c0 0) (netS c0 0) (netF c0 1) (netS c0 1) (netF c0 2) (netS c0 2) fr k0 k1 k2).sum.fdiv g2) tv m') →
      News h₀ L h' ((Du, plainO ds nd) :: (D2, plainO qs kq) :: (R, PySem.W.listOf #[.int (fin.fed : Nat) tfd, .ref P, .ref D] 0) :: (P, plainO [.int (fin.p : Nat) y1, .int (fin.q : Nat) y2, .int (fin.r : Nat) y3] kp) :: (D, plainO vs' 0) :: (Fo, plainO fs nf) :: (Re, plainO rs 0) :: (Mo, plainO mv 0) :: lawLed L Pl Ce a b0 b1 b2 b3 b4 op oc o4' o1 ws kw c0 c1 c2 c3 t0 t1 t2 t3 ep u0 u1 u2 v0 v1 v2) →
      o4'.data = .cell (some (.ref D2)) → StrsAre ds [Str.ofString ".." ++ w0, Str.ofString ".." ++ w1, Str.ofString ".." ++ w2] → IntsAre qs [k0.fdiv g2, k1.fdiv g2, k2.fdiv g2] → RowsC vs' (fun i => rowN g i (fin.n i)) → (∀ q ∈ ((D2, plainO qs kq) :: (Fo, plainO fs nf) :: (Re, plainO rs 0) :: (Mo, plainO mv 0) :: lawLed L Pl Ce a b0 b1 b2 b3 b4 op oc o4' o1 ws kw c0 c1 c2 c3 t0 t1 t2 t3 ep u0 u1 u2 v0 v1 v2), @Ne Nat q.1 Du) →
      (@Ne Nat R Du) → (@Ne Nat P Du) → (@Ne Nat D Du) → wpAny (model PW w) (AT dp un gd (lEnv L) outer) (execs (restIn 77 13) (lEnv L)) Q E { s with heap := h', toks := tk' }) :
    wpAny (model PW w) (AT dp un gd (lEnv L) outer) (execs (restIn 77 10) (lEnv L)) Q E s := by
 walk_at "ST"
 case oTag =>
  unfold lEnv
  with_unfolding_all show wpAny _ _ (execs [_, _, _, _, _] _) _ _ _
  unfold lrM at F
  k_steps
  unfold Stop
  rename News _ _ _ _ => hNN
  rename Fr _ _ _ _ => hFF
  rename StrsAre _ [_, _, _] => hds
  rename IntsAre _ _ => hqs
  rename RowsC _ _ => hrw
  rename NeAll _ _ => hne
  have hN2 := news_2nd hNN
  with_unfolding_all refine next _ _ _ _ _ _ _ _ _ _ _ _ _ _ _ _ _ _ _ _ (ldM_end hFF rfl rfl rfl rfl rfl rfl) hN2 ?o4 hds hqs hrw ?ne ?n1 ?n2 ?n3
  case o4 => assumption
  case ne => exact fun q hq => hne.all q (by
    rcases List.mem_cons.mp hq with rfl | hq
    · exact .tail _ (.head _)
    · exact .tail _ (.tail _ (.tail _ (.tail _ (.tail _ hq)))))
  case n1 => exact hne.all _ (.tail _ (.tail _ (.head _)))
  case n2 => exact hne.all _ (.tail _ (.tail _ (.tail _ (.head _))))
  case n3 => exact hne.all _ (.tail _ (.tail _ (.tail _ (.tail _ (.head _)))))
 walk_at "EN"
end
end
section
open ZL ZC ZLaw6
example : True := by
  k_with "!MY NE" => (guard_expr onLaw6 =~ onLaw6; first | (refine neN ?_; (try dsimp only); omega))
  k_with "!MY ALL" => (guard_expr onLaw6 =~ onLaw6; first | assumption | exact NeAll.all (by assumption))
  k_with "!CompAt" => (guard_expr onLaw6 =~ onLaw6; (k_here; (with_reducible show CompAt _ _ _ _ _ _ (Str.ofString "other") _ _ _ _ _ _ _); k_dflt (refine' dues_comp ?k0_190 ?kF_190 ?kN_190 ?kr_190 ?ko_190 ?kk_190 ?kx_190 ?y1_190 ?y2_190 ?y3_190 ?c1_190 ?m1_190 ?d1_190 ?c2_190 ?m2_190 ?d2_190 ?c3_190 ?m3_190 ?d3_190 ?ha_190 ?h0_190 ?h1_190 ?h2_190 ?hD_190 ?hqs_190 ?_; (case k0_190 => first | assumption | exact rfl); (case kF_190 => k_asm); (case kN_190 => k_asm); (case kr_190 => first | assumption | (exact News.get (by k_asm) (by k_mem))); (case ko_190 => exact rfl); (case kk_190 => exact rfl); (case kx_190 => exact fun _ => rfl); (case y1_190 => exact fun _ => rfl); (case y2_190 => exact fun _ => rfl); (case y3_190 => exact fun _ => rfl); (case c1_190 => exact rfl); (case m1_190 => k_mem); (case d1_190 => k_asm); (case c2_190 => exact rfl); (case m2_190 => k_mem); (case d2_190 => k_asm); (case c3_190 => exact rfl); (case m3_190 => k_mem); (case d3_190 => k_asm); (case ha_190 => k_mem); (case h0_190 => k_mem); (case h1_190 => k_mem); (case h2_190 => k_mem); (case hD_190 => k_mem); (case hqs_190 => assumption); k_whole; intro D''k h''k tk''k ys''k n''k F''k N''k ne''k hi''k; (have ne''k := NeAll.mk ne''k); (try dsimp only at F''k N''k); (try dsimp only))))
  k_with "!call builtin:sum" => (guard_expr onLaw6 =~ onLaw6; (k_here; (with_reducible show wpAny _ _ (call (Value.builtin "sum") [Value.ref _]) _ _ _); k_dflt (refine' sum_N ?k0_191 ?k1_191 ?k2_191 ?k3_191 ?k4_191 ?_; (case k0_191 => first | assumption | exact rfl); (case k1_191 => assumption); (case k2_191 => assumption); (case k4_191 => assumption); (case k3_191 => exact ⟨_, News.get (by k_asm) (by k_mem), rfl, _, rfl⟩); k_whole; intro v''k h''k tk''k tv''k hS''k F''k N''k; (have hv''k := hS''k.eq); subst hv''k)))
  k_with "!subscriptTail Name Name ref int" => (guard_expr onLaw6 =~ onLaw6; (k_here; k_dflt (refine' item_at ?k1_192 ?k2_192 ?k3_192 ?k4_192 ?_; (case k1_192 => exact ⟨_, News.get (by k_asm) (by k_mem), rfl, _, rfl⟩); (case k2_192 => omega); (case k3_192 => omega); (case k4_192 => assumption); k_whole)))
  k_with "!call builtin:list.append" => (guard_expr onLaw6 =~ onLaw6; (k_here; (with_reducible show wpAny _ _ (call (Value.builtin "list.append") [Value.ref _, _]) _ _ _); k_dflt (refine' append_N ?k1_193 ?k2_193 ?k3_193 ?k4_193 ?_; (case k1_193 => assumption); (case k2_193 => assumption); (case k3_193 => exact UpdF.tail (by refine' ne_r ?hh_193 ?hm_193; (case hh_193 => assumption); (case hm_193 => k_mem)) (UpdF.head (NeAll.all (by assumption)))); (case k4_193 => assumption); k_whole; intro h''k ka'k F''k N''k)))
  trivial
section
variable {w : World} {A : Around} {E : Value → Shared → Prop} {s : Shared} {Q : Flow → Shared → Prop} {h₀ : Heap} {L Du Pl a b0 b1 b2 b3 b4 D2 : Addr} {mx mg mb : Str → Option Value} {mean : ExcName → Option Value} {rest : List (Addr × Obj)} {op oc oq on : Obj} {ds ws qs : List Value} {nd kw kq : Nat}
  {R Re Mo Fo : Addr} {fv p q0 q1 q2 : Int} {tv tp tw : Tok} {f0 s0 f1 s1 f2 s2 : Int} {t0 t1 t2 u0 u1 u2 : Tok} {wd : Str}
noncomputable abbrev ledD (L Du Pl a b0 b1 b2 b3 b4 D2 : Addr) (op oc oq on : Obj) (ds ws qs : List Value) (nd kw kq : Nat) (f0 s0 f1 s1 f2 s2 : Int) (t0 t1 t2 u0 u1 u2 : Tok) (rest : List (Addr × Obj)) : List (Addr × Obj) :=
  (Du, plainO ds nd) :: (L + 1 + 1, op) :: (L + 1 + 1 + 1, oc) :: (L + 1 + 1 + 1 + 1, oq) :: (L + 1, on) :: (Pl, plainO ws kw) :: (D2, plainO qs kq) :: (a, netA b0 b1 b2 b3 b4) :: (b0, netO f0 s0 t0 u0) :: (b1, netO f1 s1 t1 u1) :: (b2, netO f2 s2 t2 u2) :: rest
theorem due_body (hh : A.handled = none) (X : (KK w.params).In h₀) (T : Top qq LOOSE mean mg mb h₀) (F : Fr h₀ L s.heap (ldM R Du Re Mo Fo fv tv mx))
    (N : News h₀ L s.heap (ledD L Du Pl a b0 b1 b2 b3 b4 D2 op oc oq on ds ws qs nd kw kq f0 s0 f1 s1 f2 s2 t0 t1 t2 u0 u1 u2 rest))
    (d2 : op.data = .cell (some (.int p tp))) (d3 : oc.data = .cell (some (.ref Pl))) (d4 : oq.data = .cell (some (.ref D2))) (d1 : on.data = .cell (some (.ref a))) (hp0 : 0 ≤ p) (hp5 : p < 5) (hv : ws[p.toNat]? = some (.str wd tw)) (hwd : wd.length ≤ 3) (hqs : IntsAre qs [q0, q1, q2])
    (hb : 0 ≤ (duesL f0 s0 f1 s1 f2 s2 q0 q1 q2 p).sum ∧ (duesL f0 s0 f1 s1 f2 s2 q0 q1 q2 p).sum ≤ 100) (hdl : ds.length ≤ 1000)
    (hDu : NeAll Du ((L + 1 + 1, op) :: (L + 1 + 1 + 1, oc) :: (L + 1 + 1 + 1 + 1, oq) :: (L + 1, on) :: (Pl, plainO ws kw) :: (D2, plainO qs kq) :: (a, netA b0 b1 b2 b3 b4) :: (b0, netO f0 s0 t0 u0) :: (b1, netO f1 s1 t1 u1) :: (b2, netO f2 s2 t2 u2) :: rest))
    (done : ∀ h' tk' m' td nd', Fr h₀ L h' (ldM R Du Re Mo Fo fv tv m') → News h₀ L h' (ledD L Du Pl a b0 b1 b2 b3 b4 D2 op oc oq on (ds ++ [.str (Txt.mul (Str.ofString ".") (1 + (duesL f0 s0 f1 s1 f2 s2 q0 q1 q2 p).sum) ++ wd) td]) ws qs nd' kw kq f0 s0 f1 s1 f2 s2 t0 t1 t2 u0 u1 u2 rest) → Q .next { s with heap := h', toks := tk' }) :
    wpAny (model PW w) A (execs (forBody (lawS 13)) (lEnv L)) Q E s := by
 walk_at "ST"
 case oTag =>
  unfold lEnv
  with_unfolding_all show wpAny _ _ (execs [_] _) _ _ _
  unfold ldM at F
  k_steps
  rename News _ _ _ _ => hNN
  exact done _ _ _ _ _ (ldM_end ‹Fr _ _ _ _› rfl rfl rfl rfl rfl rfl) (fun q hq => hNN q (.tail _ hq))
 walk_at "EN"
end
end
section
open ZL ZLaw7
example : True := by
  k_with "!pyIter ref" => (guard_expr onLaw7 =~ onLaw7; (k_here; refine Stop.mk ?_))
  trivial
section
variable {w : World} {A : Around} {E : Value → Shared → Prop} {s : Shared} {Q : Flow → Shared → Prop} {h₀ : Heap} {L Du Pl a b0 b1 b2 b3 b4 D2 J : Addr} {mx mg mb : Str → Option Value} {mean : ExcName → Option Value} {rest : List (Addr × Obj)} {op oc oq on : Obj} {ds ws qs : List Value} {nd kw kq : Nat}
  {R Re Mo Fo : Addr} {fv p left q0 q1 q2 : Int} {tv tp tw : Tok} {f0 s0 f1 s1 f2 s2 : Int} {t0 t1 t2 u0 u1 u2 : Tok} {wd : Str} {px : Pos} {v9 : Option Value}
theorem due_turn (hh : A.handled = none) (X : (KK w.params).In h₀) (T : Top qq LOOSE mean mg mb h₀) (hE : PassesOwn (model PW w) A (lEnv L) E) (F : Fr h₀ L s.heap (ldM R Du Re Mo Fo fv tv mx))
    (N : News h₀ L s.heap ((J, rIt p left) :: ledD L Du Pl a b0 b1 b2 b3 b4 D2 op oc oq on ds ws qs nd kw kq f0 s0 f1 s1 f2 s2 t0 t1 t2 u0 u1 u2 rest)) (hleft : 0 < left)
    (d2 : op.data = .cell v9) (d3 : oc.data = .cell (some (.ref Pl))) (d4 : oq.data = .cell (some (.ref D2))) (d1 : on.data = .cell (some (.ref a))) (hp0 : 0 ≤ p) (hp5 : p < 5) (hv : ws[p.toNat]? = some (.str wd tw)) (hwd : wd.length ≤ 3) (hqs : IntsAre qs [q0, q1, q2])
    (hb : 0 ≤ (duesL f0 s0 f1 s1 f2 s2 q0 q1 q2 p).sum ∧ (duesL f0 s0 f1 s1 f2 s2 q0 q1 q2 p).sum ≤ 100) (hdl : ds.length ≤ 1000)
    (hJ : NeA J ((ledD L Du Pl a b0 b1 b2 b3 b4 D2 op oc oq on ds ws qs nd kw kq f0 s0 f1 s1 f2 s2 t0 t1 t2 u0 u1 u2 rest).map (·.1)))
    (hDu : NeA Du (J :: (L + 1 + 1) :: (L + 1 + 1 + 1) :: (L + 1 + 1 + 1 + 1) :: (L + 1) :: Pl :: D2 :: a :: b0 :: b1 :: b2 :: rest.map (·.1)))
    (h2 : NeA (L + 1 + 1) (J :: Du :: (L + 1 + 1 + 1) :: (L + 1 + 1 + 1 + 1) :: (L + 1) :: Pl :: D2 :: a :: b0 :: b1 :: b2 :: rest.map (·.1)))
    (next : ∀ h' tk' m' td nd' op' tp', Fr h₀ L h' (ldM R Du Re Mo Fo fv tv m') → op'.data = .cell (some (.int p tp')) → News h₀ L h' ((J, rIt (p + 1) (left - 1)) :: ledD L Du Pl a b0 b1 b2 b3 b4 D2 op' oc oq on (ds ++ [.str (Txt.mul (Str.ofString ".") (1 + (duesL f0 s0 f1 s1 f2 s2 q0 q1 q2 p).sum) ++ wd) td]) ws qs nd' kw kq f0 s0 f1 s1 f2 s2 t0 t1 t2 u0 u1 u2 rest) →
      LoopE PW w A (tgt px) (forBody (lawS 13)) [] (lEnv L) J Q E { s with heap := h', toks := tk' }) :
    LoopE PW w A (tgt px) (forBody (lawS 13)) [] (lEnv L) J Q E s := by
 walk_at "ST"
 case oTag =>
  refine loop_itemE F N (.head ?hI) hleft hE (fun _ => rfl) fun h1 t tk1 F1 N1 => ?_
  case hI => exact NeAll.all (hJ.to (fun a ha => ha))
  refine wpAny_assign_Name ?_
  have N1' : News h₀ L h1 ((L + 1 + 1, op) :: (J, rIt (p + 1) (left - 1)) :: (Du, plainO ds nd) :: (L + 1 + 1 + 1, oc) :: (L + 1 + 1 + 1 + 1, oq) :: (L + 1, on) :: (Pl, plainO ws kw) :: (D2, plainO qs kq) :: (a, netA b0 b1 b2 b3 b4) :: (b0, netO f0 s0 t0 u0) :: (b1, netO f1 s1 t1 u1) :: (b2, netO f2 s2 t2 u2) :: rest) := fun q hq => N1 q (by
    clear N1 N
    first | (revert q hq; walk_at "SUB") | (simp only [List.mem_cons] at hq ⊢; grind))
  with_unfolding_all refine storeX_C (o := op) F1 N1' (by rfl) (.head ?_) d2 fun h2 o2 F2 N2 e2 => ?_
  · exact NeAll.all (h2.to (fun a ha => ha))
  refine due_body (s := { s with heap := h2, toks := tk1 }) (Du := Du) (op := o2) (ds := ds) (nd := nd) (b0 := b0) (b1 := b1) (b2 := b2) (b3 := b3) (b4 := b4) (t0 := t0) (t1 := t1) (t2 := t2) (u0 := u0) (u1 := u1) (u2 := u2) (kw := kw) (kq := kq) (rest := (J, rIt (p + 1) (left - 1)) :: rest) hh X T F2 (fun q hq => N2 q ?_) e2 d3 d4 d1 hp0 hp5 hv hwd hqs hb hdl (hDu.to ?_) fun h' tk' m' td nd' F' N' => ?_
  · clear N2 N1 N1' N
    first | (revert q hq; walk_at "SUB") | (simp only [List.mem_cons] at hq ⊢; grind)
  · intro x hx
    first | (revert x hx; walk_at "SUB") | (simp only [List.map_cons, List.mem_cons] at hx ⊢; grind)
  · exact next h' tk' m' td nd' o2 _ F' e2 (fun q hq => N' q (by
      clear N' N2 N1 N1' N
      first | (revert q hq; walk_at "SUB") | (simp only [List.mem_cons] at hq ⊢; grind)))
 walk_at "EN"
theorem due_for {w3 w4 : Str} {tw3 tw4 : Tok} (hh : A.handled = none) (X : (KK w.params).In h₀) (T : Top qq LOOSE mean mg mb h₀) (hE : PassesOwn (model PW w) A (lEnv L) E) (F : Fr h₀ L s.heap (ldM R Du Re Mo Fo fv tv mx))
    (N : News h₀ L s.heap (ledD L Du Pl a b0 b1 b2 b3 b4 D2 op oc oq on ds ws qs nd kw kq f0 s0 f1 s1 f2 s2 t0 t1 t2 u0 u1 u2 rest))
    (d2 : op.data = .cell v9) (d3 : oc.data = .cell (some (.ref Pl))) (d4 : oq.data = .cell (some (.ref D2))) (d1 : on.data = .cell (some (.ref a))) (hv3 : ws[3]? = some (.str w3 tw3)) (hw3 : w3.length ≤ 3) (hv4 : ws[4]? = some (.str w4 tw4)) (hw4 : w4.length ≤ 3) (hqs : IntsAre qs [q0, q1, q2])
    (hb3 : 0 ≤ (duesL f0 s0 f1 s1 f2 s2 q0 q1 q2 3).sum ∧ (duesL f0 s0 f1 s1 f2 s2 q0 q1 q2 3).sum ≤ 100) (hb4 : 0 ≤ (duesL f0 s0 f1 s1 f2 s2 q0 q1 q2 4).sum ∧ (duesL f0 s0 f1 s1 f2 s2 q0 q1 q2 4).sum ≤ 100) (hdl : ds.length ≤ 900)
    (hDu : NeA Du ((L + 1 + 1) :: (L + 1 + 1 + 1) :: (L + 1 + 1 + 1 + 1) :: (L + 1) :: Pl :: D2 :: a :: b0 :: b1 :: b2 :: rest.map (·.1)))
    (h2 : NeA (L + 1 + 1) ((L + 1 + 1 + 1) :: (L + 1 + 1 + 1 + 1) :: (L + 1) :: Pl :: D2 :: a :: b0 :: b1 :: b2 :: rest.map (·.1)))
    (done : ∀ h' tk' m' td td' nd' op' , Fr h₀ L h' (ldM R Du Re Mo Fo fv tv m') → News h₀ L h' (ledD L Du Pl a b0 b1 b2 b3 b4 D2 op' oc oq on (ds ++ [.str (Txt.mul (Str.ofString ".") (1 + (duesL f0 s0 f1 s1 f2 s2 q0 q1 q2 3).sum) ++ w3) td] ++ [.str (Txt.mul (Str.ofString ".") (1 + (duesL f0 s0 f1 s1 f2 s2 q0 q1 q2 4).sum) ++ w4) td']) ws qs nd' kw kq f0 s0 f1 s1 f2 s2 t0 t1 t2 u0 u1 u2 rest) → Q .next { s with heap := h', toks := tk' }) :
    wpAny (model PW w) A (exec (lawS 13) (lEnv L)) Q E s := by
 walk_at "ST"
 case oTag =>
  with_unfolding_all refine for_headE (body := forBody (lawS 13)) (els := []) (target := tgt _) (iter := .Call (.Name (Str.ofString "range") _) [.Constant (.int 3) 0 _, .Constant (.int 5) 0 _] [] _) (pos := _) ?_ (fun _ => rfl)
  show wpAny _ _ _ (fun x s₁ => wpAny (model PW w) A (pyIter x) (fun it s₂ => ∃ I, it = .ref I ∧ LoopE PW w A (tgt _) (forBody (lawS 13)) [] (lEnv L) I Q E s₂) E s₁) _ _
  generalize hPo : (fun (it : Value) (s₂ : Shared) => ∃ I, it = Value.ref I ∧ LoopE PW w A (tgt _) (forBody (lawS 13)) [] (lEnv L) I Q E s₂) = Post
  unfold lEnv
  k_steps
  unfold Stop
  subst hPo
  refine' iter_rangeE ?F ?N ?hr ?hro ?sm ?ab ?_
  case hr => first | assumption | (exact News.get (by k_asm) (by k_mem))
  case hro => exact rfl
  case F => k_asm
  case N => k_asm
  case sm => decide +kernel
  case ab => decide
  intro J h1 F1 N1 hJ
  have hJA := fun op' ds' nd' => ((NeAll.mk hJ).re (l' := ledD L Du Pl a b0 b1 b2 b3 b4 D2 op' oc oq on ds' ws qs nd' kw kq f0 s0 f1 s1 f2 s2 t0 t1 t2 u0 u1 u2 rest) (fun _ h => h)).toA (as := (ledD L Du Pl a b0 b1 b2 b3 b4 D2 op' oc oq on ds' ws qs nd' kw kq f0 s0 f1 s1 f2 s2 t0 t1 t2 u0 u1 u2 rest).map (·.1)) (fun _ h => h)
  have hDJ : Du ≠ J := fun e => (hJA op ds nd).no (e ▸ .head _)
  have h2J : L + 1 + 1 ≠ J := fun e => (hJA op ds nd).no (e ▸ .tail _ (.head _))
  have h2D : L + 1 + 1 ≠ Du := fun e => hDu.no (e ▸ .head _)
  refine due_turn (s := _) hh X T hE F1 N1 (by decide) d2 d3 d4 d1 (by decide) (by decide) hv3 hw3 hqs hb3 (by omega) (hJA _ _ _) (hDu.join hDJ) ((h2.join h2D).join h2J) fun h2' tk2 m2 td nd2 op2 tp2 F2 e2 N2 => ?_
  refine due_turn (s := { s with heap := h2', toks := tk2 }) hh X T hE F2 N2 (by decide) e2 d3 d4 d1 (by decide) (by decide) hv4 hw4 hqs hb4 (by simp; omega) (hJA _ _ _) (hDu.join hDJ) ((h2.join h2D).join h2J) fun h3' tk3 m3 td' nd3 op3 tp3 F3 e3 N3 => ?_
  refine loop_doneE (s := { s with heap := h3', toks := tk3 }) hh F3 N3 (.head ?hI) (by decide) hE fun h5 F5 N5 => wpAny_execs_nil (done h5 tk3 m3 td td' nd3 op3 F5 N5)
  case hI => exact NeAll.all ((hJA op3 _ nd3).to (fun a ha => ha))
 walk_at "EN"
end
end
section
theorem strs_reads {h : Heap} {vs : List Value} {ys : List Str} (hs : StrsAre vs ys) : ReadsAll h vs (ys.map PyData.str) [] := by
  induction hs with
  | nil => exact .nil
  | cons y t _ ih => exact .cons (as := []) (bs := []) (.str y t) ih
theorem ints_reads {h : Heap} {vs : List Value} {ns : List Int} (hs : IntsAre vs ns) : ReadsAll h vs (ns.map PyData.int) [] := by
  induction hs with
  | nil => exact .nil
  | cons y t _ ih => exact .cons (as := []) (bs := []) (.int y t) ih
noncomputable def lawD (f : Int) (is : List Int) (rows rest : List Str) : PyData := .list [.list [.int f, .list (is.map PyData.int), .list (rows.map PyData.str)], .list (rest.map PyData.str)]
theorem law_reads {h : Heap} {X R P D S : Addr} {f : Int} {t : Tok} {ps ds ss : List Value} {kp kd ks : Nat} {is : List Int} {rows rest : List Str} (hX : h.get? X = some (PySem.W.listOf #[.ref R, .ref S] 0)) (hR : h.get? R = some (PySem.W.listOf #[.int f t, .ref P, .ref D] 0))
    (hP : h.get? P = some (plainO ps kp)) (hD : h.get? D = some (plainO ds kd)) (hS : h.get? S = some (plainO ss ks)) (ip : IntsAre ps is) (sd : StrsAre ds rows) (ss' : StrsAre ss rest) : ∃ as, Reads h (.ref X) (lawD f is rows rest) as := by
  have rP : Reads h (.ref P) (.list (is.map PyData.int)) [P] := .list (as := []) hP rfl rfl (by simpa using ints_reads ip)
  have rD : Reads h (.ref D) (.list (rows.map PyData.str)) [D] := .list (as := []) hD rfl rfl (by simpa using strs_reads sd)
  have rS : Reads h (.ref S) (.list (rest.map PyData.str)) [S] := .list (as := []) hS rfl rfl (by simpa using strs_reads ss')
  have rR : Reads h (.ref R) (.list [.int f, .list (is.map PyData.int), .list (rows.map PyData.str)]) _ := .list hR rfl rfl (.cons (.int f t) (.cons rP (.cons rD .nil)))
  exact ⟨_, .list hX rfl rfl (.cons rR (.cons rS .nil))⟩
theorem lawD_shaped {f : Int} {is : List Int} {rows rest : List Str} (h1 : ∀ x ∈ rows, PyData.strOk x = true) (h2 : ∀ x ∈ rest, PyData.strOk x = true) : SeqAt.shaped (lawD f is rows rest) = true := by
  have e1 := kes_canLay h1
  have e2 := kes_canLay h2
  simp [SeqAt.shaped, lawD, PyData.canLay0, PyData.canLayAll0, PyData.depth, PyData.depthAll, kes_depth, ke_canLayAll0, ke_depthAll, e1, e2]
theorem law_eq {w : World} {A : Around} {E : Value → Shared → Prop} {s : Shared} {Q : Value → Shared → Prop} {h₀ : Heap} {L : Addr} {news : List (Addr × Obj)} {X R P D S X' R' P' D' S' : Addr} {f f' : Int} {t t' : Tok} {ps ds ss ps' ds' ss' : List Value} {kp kd ks kp' kd' ks' : Nat} {is : List Int} {rows rest : List Str}
    (N : News h₀ L s.heap news) (hX : (X, PySem.W.listOf #[.ref R, .ref S] 0) ∈ news) (hR : (R, PySem.W.listOf #[.int f t, .ref P, .ref D] 0) ∈ news) (hP : (P, plainO ps kp) ∈ news) (hD : (D, plainO ds kd) ∈ news) (hS : (S, plainO ss ks) ∈ news)
    (hX' : (X', PySem.W.listOf #[.ref R', .ref S'] 0) ∈ news) (hR' : (R', PySem.W.listOf #[.int f' t', .ref P', .ref D'] 0) ∈ news) (hP' : (P', plainO ps' kp') ∈ news) (hD' : (D', plainO ds' kd') ∈ news) (hS' : (S', plainO ss' ks') ∈ news)
    (hf : f' = f) (i1 : IntsAre ps is) (i2 : IntsAre ps' is) (s1 : StrsAre ds rows) (s2 : StrsAre ds' rows) (s3 : StrsAre ss rest) (s4 : StrsAre ss' rest) (o1 : ∀ x ∈ rows, PyData.strOk x = true) (o2 : ∀ x ∈ rest, PyData.strOk x = true) (hu : A.units + 64 < cLine)
    (h : Q (.bool true) s) : wpAny (model PW w) A (compareOp .Eq (.ref X) (.ref X')) Q E s := by
  subst hf
  obtain ⟨as, ra⟩ := law_reads (N.get hX) (N.get hR) (N.get hP) (N.get hD) (N.get hS) i1 s1 s3
  obtain ⟨bs, rb⟩ := law_reads (N.get hX') (N.get hR') (N.get hP') (N.get hD') (N.get hS') i2 s2 s4
  have sh := lawD_shaped (f := f') (is := is) o1 o2
  refine eq_dataH ra rb sh sh hu ?_
  rw [PySem.SeqAt.eqv_refl _ (Bool.and_eq_true_iff.mp sh).1]
  exact h
end
section
open ZL ZLaw8
example : True := by
  k_with "!MY NE" => (guard_expr onLaw8 =~ onLaw8; first | (refine neN ?_; (try dsimp only); omega))
  k_with "!MY ALL" => (guard_expr onLaw8 =~ onLaw8; first | assumption | exact NeAll.all (by assumption))
  k_with "!subscriptTail Name Slice ref ref" => (guard_expr onLaw8 =~ onLaw8; (k_here; k_dflt (refine' slice_dn ?k1_197 ?k2_197 ?k3_197 ?k4_197 ?_ ?s_197 ?t_197; (case k1_197 => k_asm); (case k2_197 => k_asm); (case k3_197 => k_mem); (case k4_197 => assumption); (case s_197 => with_unfolding_all rfl); (case t_197 => (intro _; with_unfolding_all rfl)); k_whole; intro D''k h''k F''k N''k hlt''k)))
  k_with "!binaryOp Add ref ref" => (guard_expr onLaw8 =~ onLaw8; (k_here; k_dflt (refine' add_N ?k1_198 ?k2_198 ?k3_198 ?k4_198 ?z1_198 ?z2_198 ?_; (case k1_198 => k_asm); (case k2_198 => k_asm); (case k3_198 => first | k_mem | (repeat (first | exact .head _ | refine .tail _ ?_))); (case k4_198 => first | k_mem | (repeat (first | exact .head _ | refine .tail _ ?_))); (case z1_198 => first | omega | (simp only [List.length_append, List.length_cons, List.length_nil]; done) | (simp only [List.length_append, List.length_cons, List.length_nil]; omega)); (case z2_198 => first | omega | (simp only [List.length_append, List.length_cons, List.length_nil]; done) | (simp only [List.length_append, List.length_cons, List.length_nil]; omega)); k_whole; intro D''k h''k F''k N''k hlt''k)))
  k_with "!compareOp Eq ref ref" => (guard_expr onLaw8 =~ onLaw8; (k_here; (with_reducible show wpAny _ _ (compareOp CmpOp.Eq (Value.ref _) (Value.ref _)) _ _ _); refine Stop.mk ?_))
  k_with "!exec" => (guard_expr onLaw8 =~ onLaw8; (k_here; (with_reducible show wpAny _ _ (exec (Stmt.For _ _ _ _ _) _) _ _ _); refine Stop.mk ?_))
  trivial
section
variable {w : World} {dp un : Nat} {gd : Option (List Code)} {outer : List Env} {A₀ : Around} {base : Heap} {E : Value → Shared → Prop} {s : Shared} {Q : Flow → Shared → Prop} {h₀ : Heap} {L : Addr} {mx mg mb : Str → Option Value} {mean : ExcName → Option Value} {o4 o1 op oc : Obj}
  {Ce Pl a b0 b1 b2 b3 b4 Re Mo Fo R Du P D D2 : Addr} {c0 c1 c2 c3 fv : Int} {t0 t1 t2 t3 tv tfd y1 y2 y3 : Tok} {ep kw nf nd kq kp : Nat} {ws fs mv rs ds qs vs' : List Value} {u0 u1 u2 v0 v1 v2 : Tok} {v9 : Option Value} {ff p q r : Int} {rows rest : List Str} {w3 w4 : Str} {tw3 tw4 : Tok}
theorem law_d (hun : un + 150 < cLine) (X : (KK w.params).In h₀) (T : Top qq LOOSE mean mg mb h₀) (hE : PassesOwn (model PW w) (AT dp un gd (lEnv L) outer) (lEnv L) E)
    (F : Fr h₀ L s.heap (ldM R Du Re Mo Fo fv tv mx))
    (N : News h₀ L s.heap ((Du, plainO ds nd) :: (D2, plainO qs kq) :: (R, PySem.W.listOf #[.int ff tfd, .ref P, .ref D] 0) :: (P, plainO [.int p y1, .int q y2, .int r y3] kp) :: (D, plainO vs' 0) :: (Fo, plainO fs nf) :: (Re, plainO rs 0) :: (Mo, plainO mv 0) :: lawLed L Pl Ce a b0 b1 b2 b3 b4 op oc o4 o1 ws kw c0 c1 c2 c3 t0 t1 t2 t3 ep u0 u1 u2 v0 v1 v2))
    (d2 : op.data = .cell v9) (d3 : oc.data = .cell (some (.ref Pl))) (d1 : o1.data = .cell (some (.ref a))) (d4 : o4.data = .cell (some (.ref D2))) (hfl : fs.length ≤ 20) (hrl : rs.length ≤ 5) (hml : mv.length ≤ 5) (hdl : ds.length ≤ 900)
    (hv3 : ws[3]? = some (.str w3 tw3)) (hw3 : w3.length ≤ 3) (hv4 : ws[4]? = some (.str w4 tw4)) (hw4 : w4.length ≤ 3) (hqs : IntsAre qs [p, q, r]) (hff : fv = ff)
    (hb3 : 0 ≤ (duesL (netF c0 0) (netS c0 0) (netF c0 1) (netS c0 1) (netF c0 2) (netS c0 2) p q r 3).sum ∧ (duesL (netF c0 0) (netS c0 0) (netF c0 1) (netS c0 1) (netF c0 2) (netS c0 2) p q r 3).sum ≤ 100) (hb4 : 0 ≤ (duesL (netF c0 0) (netS c0 0) (netF c0 1) (netS c0 1) (netF c0 2) (netS c0 2) p q r 4).sum ∧ (duesL (netF c0 0) (netS c0 0) (netF c0 1) (netS c0 1) (netF c0 2) (netS c0 2) p q r 4).sum ≤ 100)
    (hDu : ∀ x ∈ ((D2, plainO qs kq) :: (Fo, plainO fs nf) :: (Re, plainO rs 0) :: (Mo, plainO mv 0) :: lawLed L Pl Ce a b0 b1 b2 b3 b4 op oc o4 o1 ws kw c0 c1 c2 c3 t0 t1 t2 t3 ep u0 u1 u2 v0 v1 v2), @Ne Nat x.1 Du) (n1 : @Ne Nat R Du) (n2 : @Ne Nat P Du) (n3 : @Ne Nat D Du)
    (hrows : StrsAre vs' rows) (hrows2 : ∀ td td', StrsAre (ds ++ [.str (Txt.mul (Str.ofString ".") (1 + (duesL (netF c0 0) (netS c0 0) (netF c0 1) (netS c0 1) (netF c0 2) (netS c0 2) p q r 3).sum) ++ w3) td] ++ [.str (Txt.mul (Str.ofString ".") (1 + (duesL (netF c0 0) (netS c0 0) (netF c0 1) (netS c0 1) (netF c0 2) (netS c0 2) p q r 4).sum) ++ w4) td']) rows)
    (hrest : StrsAre (fs.drop 5) rest) (hrest2 : ∀ t, StrsAre (rs ++ [.str (Str.ofString "..") t] ++ mv) rest) (ok1 : ∀ x ∈ rows, PyData.strOk x = true) (ok2 : ∀ x ∈ rest, PyData.strOk x = true)
    (done : ∀ h' tk' m', Fr h₀ L h' m' → Q (.ret (.bool true)) { s with heap := h', toks := tk' }) :
    wpAny (model PW w) (AT dp un gd (lEnv L) outer) (execs (restIn 77 13) (lEnv L)) Q E s := by
 walk_at "ST"
 case oTag =>
  have e13 : restIn 77 13 = [lawS 13, lawS 14] := by rfl
  rw [e13]
  refine wpAny_execs_cons ?_
  have hN0 : News h₀ L s.heap (ledD L Du Pl a b0 b1 b2 b3 b4 D2 op oc o4 o1 ds ws qs nd kw kq (netF c0 0) (netS c0 0) (netF c0 1) (netS c0 1) (netF c0 2) (netS c0 2) u0 u1 u2 v0 v1 v2 ((R, PySem.W.listOf #[.int ff tfd, .ref P, .ref D] 0) :: (P, plainO [.int p y1, .int q y2, .int r y3] kp) :: (D, plainO vs' 0) :: (Fo, plainO fs nf) :: (Re, plainO rs 0) :: (Mo, plainO mv 0) :: [])) := fun x hx => N x (by
    clear N
    first | (revert x hx; walk_at "SUB") | (simp only [List.mem_cons, List.not_mem_nil, or_false] at hx ⊢; grind))
  have hDu' : NeA Du ((L + 1 + 1) :: (L + 1 + 1 + 1) :: (L + 1 + 1 + 1 + 1) :: (L + 1) :: Pl :: D2 :: a :: b0 :: b1 :: b2 :: ((R, PySem.W.listOf #[.int ff tfd, .ref P, .ref D] 0) :: (P, plainO [.int p y1, .int q y2, .int r y3] kp) :: (D, plainO vs' 0) :: (Fo, plainO fs nf) :: (Re, plainO rs 0) :: (Mo, plainO mv 0) :: []).map (·.1)) := by
    have z := (NeAll.mk hDu).toA (as := ((D2, plainO qs kq) :: (Fo, plainO fs nf) :: (Re, plainO rs 0) :: (Mo, plainO mv 0) :: lawLed L Pl Ce a b0 b1 b2 b3 b4 op oc o4 o1 ws kw c0 c1 c2 c3 t0 t1 t2 t3 ep u0 u1 u2 v0 v1 v2).map (·.1)) (fun _ h => h)
    refine ⟨fun hm => ?_⟩
    have zn := z.no
    simp only [List.map_cons, List.map_nil, List.mem_cons, List.not_mem_nil, or_false] at hm zn
    grind
  have h2' : NeA (L + 1 + 1) ((L + 1 + 1 + 1) :: (L + 1 + 1 + 1 + 1) :: (L + 1) :: Pl :: D2 :: a :: b0 :: b1 :: b2 :: ((R, PySem.W.listOf #[.int ff tfd, .ref P, .ref D] 0) :: (P, plainO [.int p y1, .int q y2, .int r y3] kp) :: (D, plainO vs' 0) :: (Fo, plainO fs nf) :: (Re, plainO rs 0) :: (Mo, plainO mv 0) :: []).map (·.1)) := by
    refine neA_c (by omega) (neA_c (by omega) (neA_c (by omega) ?_))
    repeat (refine' neA_c (ne_dc hN0 (.tail _ (.head _)) d2 ?hm) ?_; (case hm => repeat (first | exact .head _ | refine .tail _ ?_)))
    exact ⟨fun h => by cases h⟩
  refine due_for rfl X T hE F hN0 d2 d3 d4 d1 hv3 hw3 hv4 hw4 hqs hb3 hb4 hdl hDu' h2' fun h' tk' m' td td' nd' op' F' N' => ?_
  have hr2 := hrows2 td td'
  generalize ds ++ [.str (Txt.mul (Str.ofString ".") (1 + (duesL (netF c0 0) (netS c0 0) (netF c0 1) (netS c0 1) (netF c0 2) (netS c0 2) p q r 3).sum) ++ w3) td] ++ [.str (Txt.mul (Str.ofString ".") (1 + (duesL (netF c0 0) (netS c0 0) (netF c0 1) (netS c0 1) (netF c0 2) (netS c0 2) p q r 4).sum) ++ w4) td'] = dz at N' hr2
  clear hN0 hDu' h2' hb3 hb4 hrows2 N F hDu n1 n2 n3
  unfold lEnv
  have e14 : [lawS 14] = restIn 77 14 := by rfl
  rw [e14]
  with_unfolding_all show wpAny _ _ (execs [_] _) _ _ _
  unfold ldM at F'
  k_steps
  unfold Stop
  rename News _ _ _ _ => hNN
  rename Fr _ _ _ _ => hFF
  refine' law_eq (is := [p, q, r]) (rows := rows) (rest := rest) hNN ?hX ?hR ?hP ?hD ?hS ?hX' ?hR' ?hP' ?hD' ?hS' hff ?i1 hqs hrows hr2 hrest (hrest2 _) ok1 ok2 ?hu ?_
  case hX => repeat (first | exact .head _ | refine .tail _ ?_)
  case hR => repeat (first | exact .head _ | refine .tail _ ?_)
  case hP => repeat (first | exact .head _ | refine .tail _ ?_)
  case hD => repeat (first | exact .head _ | refine .tail _ ?_)
  case hS => repeat (first | exact .head _ | refine .tail _ ?_)
  case hX' => repeat (first | exact .head _ | refine .tail _ ?_)
  case hR' => repeat (first | exact .head _ | refine .tail _ ?_)
  case hP' => repeat (first | exact .head _ | refine .tail _ ?_)
  case hD' => repeat (first | exact .head _ | refine .tail _ ?_)
  case hS' => repeat (first | exact .head _ | refine .tail _ ?_)
  case i1 => exact .cons _ _ (.cons _ _ (.cons _ _ .nil))
  case hu => show un + 64 < cLine; omega
  refine' post_ret ?hb ?_
  case hb => assumption
  exact done _ _ _ hFF
 walk_at "EN"
end
end
section
noncomputable def netOf (f0 s0 f1 s1 f2 s2 : Int) : Net := ⟨fun i => (pick3 f0 f1 f2 (i : Int)).toNat, fun i => (pick3 s0 s1 s2 (i : Int)).toNat⟩
noncomputable def initN (fr p : Nat) : Nat := if p = fr then 3 else if p < 3 then 2 else 1
noncomputable def initSt (fr : Nat) : St := ⟨initN fr 0, initN fr 1, initN fr 2, initN fr 3, initN fr 4, 1, 0, 0, 0⟩
structure Good (f0 s0 f1 s1 f2 s2 fr : Int) (last : Bool) (k0 k1 k2 g0 g1 g2 : Int) (fin : St) : Prop where
  hc : [k0, k1, k2] = cofs f0 s0 f1 s1 f2 s2 fr
  hg0 : gcdI 40 (sumL f0 s0 f1 s1 f2 s2 fr k0 k1 k2).sum k0 = some g0
  hg1 : gcdI 40 g0 k1 = some g1
  hg2 : gcdI 40 g1 k2 = some g2
  hgz : g2 ≠ 0
  hgb : -1000 ≤ g2 ∧ g2 ≤ 1000
  hs : sim (netOf f0 s0 f1 s1 f2 s2) fr.toNat last 30 (initSt fr.toNat) = some fin
  hf : (sumL f0 s0 f1 s1 f2 s2 fr k0 k1 k2).sum.fdiv g2 = (fin.fed : Nat)
  hp : k0.fdiv g2 = (fin.p : Nat)
  hq : k1.fdiv g2 = (fin.q : Nat)
  hr : k2.fdiv g2 = (fin.r : Nat)
  ha : fin.a = 2
  hb : fin.b = 2
  hcc : fin.c = 2
  hd : ((fin.d : Nat) : Int) = 1 + (duesL f0 s0 f1 s1 f2 s2 (fin.p : Nat) (fin.q : Nat) (fin.r : Nat) 3).sum
  he : ((fin.e : Nat) : Int) = 1 + (duesL f0 s0 f1 s1 f2 s2 (fin.p : Nat) (fin.q : Nat) (fin.r : Nat) 4).sum
  sd : fin.d ≤ 90 ∧ 1 ≤ fin.d
  se : fin.e ≤ 90 ∧ 1 ≤ fin.e
noncomputable def good (f0 s0 f1 s1 f2 s2 fr : Int) (last : Bool) : Bool :=
  match cofs f0 s0 f1 s1 f2 s2 fr with
  | [k0, k1, k2] => match gcdI 40 (sumL f0 s0 f1 s1 f2 s2 fr k0 k1 k2).sum k0 with
    | some g0 => match gcdI 40 g0 k1 with
      | some g1 => match gcdI 40 g1 k2 with
        | some g2 => match sim (netOf f0 s0 f1 s1 f2 s2) fr.toNat last 30 (initSt fr.toNat) with
          | some fin => decide (g2 ≠ 0) && decide (-1000 ≤ g2 ∧ g2 ≤ 1000) && decide ((sumL f0 s0 f1 s1 f2 s2 fr k0 k1 k2).sum.fdiv g2 = (fin.fed : Nat)) && decide (k0.fdiv g2 = (fin.p : Nat)) && decide (k1.fdiv g2 = (fin.q : Nat)) && decide (k2.fdiv g2 = (fin.r : Nat)) && decide (fin.a = 2) && decide (fin.b = 2) && decide (fin.c = 2)
              && decide (((fin.d : Nat) : Int) = 1 + (duesL f0 s0 f1 s1 f2 s2 (fin.p : Nat) (fin.q : Nat) (fin.r : Nat) 3).sum) && decide (((fin.e : Nat) : Int) = 1 + (duesL f0 s0 f1 s1 f2 s2 (fin.p : Nat) (fin.q : Nat) (fin.r : Nat) 4).sum) && decide (fin.d ≤ 90 ∧ 1 ≤ fin.d) && decide (fin.e ≤ 90 ∧ 1 ≤ fin.e)
          | none => false
        | none => false
      | none => false
    | none => false
  | _ => false
theorem good_is {f0 s0 f1 s1 f2 s2 fr : Int} {last : Bool} (h : good f0 s0 f1 s1 f2 s2 fr last = true) : ∃ k0 k1 k2 g0 g1 g2 fin, Good f0 s0 f1 s1 f2 s2 fr last k0 k1 k2 g0 g1 g2 fin := by
 walk_at "ST"
 case oTag =>
  unfold good at h
  split at h
  · rename_i k0 k1 k2 e0
    split at h
    · rename_i g0 e1
      split at h
      · rename_i g1 e2
        split at h
        · rename_i g2 e3
          split at h
          · rename_i fin e4
            simp only [Bool.and_eq_true, decide_eq_true_eq] at h
            obtain ⟨⟨⟨⟨⟨⟨⟨⟨⟨⟨⟨⟨h1, h2⟩, h3⟩, h4⟩, h5⟩, h6⟩, h7⟩, h8⟩, h9⟩, ha⟩, hb⟩, hc⟩, hd⟩ := h
            exact ⟨k0, k1, k2, g0, g1, g2, fin, e0.symm, e1, e2, e3, h1, h2, e4, h3, h4, h5, h6, h7, h8, h9, ha, hb, hc, hd⟩
          · cases h
        · cases h
      · cases h
    · cases h
  · cases h
 walk_at "EN"
noncomputable def nets (pl : Int) : List (Int × Int) := (([1, 2, 3, 4] : List Int).filter (fun f => decide (pl < f))).flatMap fun f => (restL pl f).map fun s => (f, s)
noncomputable def allGood (fr : Int) (last : Bool) : Bool := (nets 0).all fun a => (nets 1).all fun b => (nets 2).all fun c => good a.1 a.2 b.1 b.2 c.1 c.2 fr last
theorem good_00 : allGood 0 false = true := by decide +kernel
theorem good_01 : allGood 0 true = true := by decide +kernel
theorem good_10 : allGood 1 false = true := by decide +kernel
theorem good_11 : allGood 1 true = true := by decide +kernel
theorem good_20 : allGood 2 false = true := by decide +kernel
theorem good_21 : allGood 2 true = true := by decide +kernel
theorem all_good {fr : Int} (h0 : 0 ≤ fr) (h3 : fr < 3) (last : Bool) : allGood fr last = true := by
  have : fr = 0 ∨ fr = 1 ∨ fr = 2 := by omega +splitNatSub
  rcases this with rfl | rfl | rfl <;> cases last
  · exact good_00
  · exact good_01
  · exact good_10
  · exact good_11
  · exact good_20
  · exact good_21
theorem getD_mem {l : List Int} {k : Nat} (h : k < l.length) : l.getD k 0 ∈ l := by
  rw [List.getD_eq_getElem?_getD, List.getElem?_eq_getElem h]
  exact List.getElem_mem h
theorem net_mem (i : Int) (p : Int) (hp : 0 ≤ p ∧ p ≤ 2) : (netF i p, netS i p) ∈ nets p := by
  have h1 := fmod_lo ((i.fdiv (100 ^ p.toNat)).fmod 10) (n := 4 - p) (by omega +splitNatSub)
  have h2 := fmod_hi ((i.fdiv (100 ^ p.toNat)).fmod 10) (n := 4 - p) (by omega +splitNatSub)
  have h3 := fmod_lo (((i.fdiv (100 ^ p.toNat)).fdiv 10).fmod 10) (n := 3) (by omega +splitNatSub)
  have h4 := fmod_hi (((i.fdiv (100 ^ p.toNat)).fdiv 10).fmod 10) (n := 3) (by omega +splitNatSub)
  unfold nets
  rw [List.mem_flatMap]
  refine ⟨netF i p, ?_, ?_⟩
  · rw [List.mem_filter]
    unfold netF
    refine ⟨?_, by simp; omega +splitNatSub⟩
    have : p + 1 + ((i.fdiv (100 ^ p.toNat)).fmod 10).fmod (4 - p) = 1 ∨ p + 1 + ((i.fdiv (100 ^ p.toNat)).fmod 10).fmod (4 - p) = 2 ∨ p + 1 + ((i.fdiv (100 ^ p.toNat)).fmod 10).fmod (4 - p) = 3 ∨ p + 1 + ((i.fdiv (100 ^ p.toNat)).fmod 10).fmod (4 - p) = 4 := by omega +splitNatSub
    simp only [List.mem_cons, List.not_mem_nil, or_false]
    exact this
  · rw [List.mem_map]
    refine ⟨netS i p, ?_, rfl⟩
    unfold netS
    have hl := restL_len (pl := p) (a := (i.fdiv (100 ^ p.toNat)).fmod 10) hp
    exact getD_mem (by
      show _ < (restL p (netF i p)).length
      unfold netF
      rw [hl]; omega +splitNatSub)
theorem law_good (c0 : Int) {fr : Int} (h0 : 0 ≤ fr) (h3 : fr < 3) (last : Bool) : ∃ k0 k1 k2 g0 g1 g2 fin, Good (netF c0 0) (netS c0 0) (netF c0 1) (netS c0 1) (netF c0 2) (netS c0 2) fr last k0 k1 k2 g0 g1 g2 fin := by
  have h := all_good h0 h3 last
  unfold allGood at h
  have h1 := List.all_eq_true.mp h _ (net_mem c0 0 (by decide))
  have h2 := List.all_eq_true.mp h1 _ (net_mem c0 1 (by decide))
  have h3 := List.all_eq_true.mp h2 _ (net_mem c0 2 (by decide))
  exact good_is h3
end
section
theorem map_dot : toL (mapS 46) = [46] := by decide +kernel
theorem fold_app (a b : List Nat) : foldL (a ++ b) = foldL a ++ foldL b := by simp [foldL, List.flatMap_append]
theorem fold_dots : ∀ n : Nat, foldL (List.replicate n 46) = List.replicate n 46
  | 0 => rfl
  | n + 1 => by
    have : foldL (List.replicate (n + 1) 46) = toL (mapS 46) ++ foldL (List.replicate n 46) := rfl
    rw [this, map_dot, fold_dots n]; rfl
theorem seen_app (a b : List Nat) : seenL (a ++ b) = seenL a ++ seenL b := by simp [seenL, List.filter_append]
theorem seen_one {v : Nat} (h : b1S v = true) : seenL [v] = [] := by
  unfold seenL
  simp [List.filter, h]
theorem seen_dots : ∀ n : Nat, seenL (List.replicate n 46) = List.replicate n 46 := fun n => seen_id fun c hc => by rw [(List.mem_replicate.mp hc).2]; exact b1_dot
theorem typW_seen {ls : List Nat} {x : Str} (h : TypW ls x) : seenL (toL x) = toL x := seen_id fun c hc => (h.ok c hc).1
theorem row_sentT {p : Nat} {fr : Int} {ls : List Nat} {y : Str} (h : RowT (p : Int) fr ls y) (h0 : 0 ≤ fr) (h3 : fr < 3) :
    ∃ x : Str, TypW ls x ∧ sentL (toL y) = List.replicate (initN fr.toNat p) 46 ++ toL x ∧ (toL y).length ≤ 7 ∧ freeL (toL y) = true := by
 walk_at "ST"
 case oTag =>
  obtain ⟨x, v1, v2, hx, ⟨a1, a2, a3, a4⟩, ⟨b1, b2, b3, b4⟩, e⟩ := h.ex
  have hxl : (toL x).length ≤ 3 := by rw [toL_len]; exact hx.sz
  have hxf : ∀ c ∈ toL x, c ≠ 10 ∧ c ≠ 13 := fun c hc => ⟨(hx.ok c hc).2.1, (hx.ok c hc).2.2.1⟩
  have fx : (toL x).all (fun c => c != 10 && c != 13) = true := List.all_eq_true.mpr fun c hc => by
    obtain ⟨q1, q2⟩ := hxf c hc
    simp [q1, q2]
  refine ⟨x, hx, ?_⟩
  by_cases hp : (p : Int) = fr
  · have hp3 : (p : Int) < 3 := by omega
    rw [if_pos hp, if_pos hp3] at e
    have hn : initN fr.toNat p = 3 := by unfold initN; rw [if_pos (by omega)]
    rw [hn, e]
    refine ⟨?_, by simp; omega, by simp [freeL, fx, b3, b4]⟩
    have : stuffL ([] ++ [46, 46] ++ toL x ++ [v2]) = List.replicate 3 46 ++ toL x ++ [v2] := rfl
    rw [sentL, this, seen_app, seen_app, seen_one b1, seen_dots, typW_seen hx, List.append_nil]
  · rw [if_neg hp] at e
    by_cases hp3 : (p : Int) < 3
    · rw [if_pos hp3] at e
      have hn : initN fr.toNat p = 2 := by unfold initN; rw [if_neg (by omega), if_pos (by omega)]
      rw [hn, e]
      refine ⟨?_, by simp; omega, by simp [freeL, fx, a3, a4, b3, b4]⟩
      have : stuffL ([v1] ++ [46, 46] ++ toL x ++ [v2]) = [v1] ++ List.replicate 2 46 ++ toL x ++ [v2] := by
        show stuffL (v1 :: ([46, 46] ++ toL x ++ [v2])) = _
        unfold stuffL
        split
        · next h => injection h with h _; exact absurd h a2
        · rfl
      rw [sentL, this, seen_app, seen_app, seen_app, seen_one a1, seen_one b1, seen_dots, typW_seen hx, List.append_nil]
      rfl
    · rw [if_neg hp3] at e
      have hn : initN fr.toNat p = 1 := by unfold initN; rw [if_neg (by omega), if_neg (by omega)]
      rw [hn, e]
      refine ⟨?_, by simp; omega, by simp [freeL, fx, a3, a4, b3, b4]⟩
      have : stuffL ([v1] ++ [46] ++ toL x ++ [v2]) = [v1] ++ List.replicate 1 46 ++ toL x ++ [v2] := by
        show stuffL (v1 :: ([46] ++ toL x ++ [v2])) = _
        unfold stuffL
        split
        · next h => injection h with h _; exact absurd h a2
        · rfl
      rw [sentL, this, seen_app, seen_app, seen_app, seen_one a1, seen_one b1, seen_dots, typW_seen hx, List.append_nil]
      rfl
 walk_at "EN"
theorem stay_ok (i : Int) : b1S (stayC i) = false ∧ stayC i ≠ 46 ∧ stayC i ≠ 10 ∧ stayC i ≠ 13 ∧ toL (mapS (stayC i)) = [stayC i] ∧ stayC i < 70000 := by
  have h0 : 0 ≤ i.fmod 16 := Int.fmod_nonneg_of_pos _ (by decide)
  have h1 : i.fmod 16 < 16 := Int.fmod_lt_of_pos _ (by decide)
  have key : ∀ k : Nat, k < 16 → (let v := (besideL.getD ((k : Int)).toNat 0).toNat; b1S v = false ∧ v ≠ 46 ∧ v ≠ 10 ∧ v ≠ 13 ∧ toL (mapS v) = [v] ∧ v < 70000) := by decide +kernel
  have := key (i.fmod 16).toNat (by omega)
  rw [Int.toNat_of_nonneg h0] at this
  exact this
noncomputable def restS (c2 : Int) : List Str := [⟨#[stayC c2]⟩ ++ Str.ofString ".", Str.ofString "", Str.ofString ".."] ++ List.replicate (c2.fmod 2).toNat (Str.ofString "")
theorem toL_inj {x y : Str} (h : toL x = toL y) : x = y := by
  have a := str_of_toL h
  have b := str_of_toL (x := y) rfl
  exact a.trans b.symm
theorem strs_toL_inj : ∀ {a b : List Str}, a.map toL = b.map toL → a = b
  | [], [], _ => rfl
  | x :: a, y :: b, h => by
    simp only [List.map_cons, List.cons.injEq] at h
    rw [toL_inj h.1, strs_toL_inj h.2]
  | [], _ :: _, h => by simp at h
  | _ :: _, [], h => by simp at h
theorem stay_toL (c2 : Int) : toL (⟨#[stayC c2]⟩ ++ Str.ofString ".") = [stayC c2, 46] := by rw [toL_app, dots1]; rfl
theorem tail_sent (c2 : Int) : ((([⟨#[stayC c2]⟩ ++ Str.ofString ".", Str.ofString ""] ++ [Str.ofString "."]) ++ List.replicate (c2.fmod 2).toNat (Str.ofString "")).map toL).map sentL = (restS c2).map toL := by
 walk_at "ST"
 case oTag =>
  obtain ⟨q1, q2, _⟩ := stay_ok c2
  have e1 : sentL [stayC c2, 46] = [stayC c2, 46] := by
    have : stuffL [stayC c2, 46] = [stayC c2, 46] := by
      unfold stuffL
      split
      · next h => injection h with h _; exact absurd h q2
      · rfl
    rw [sentL, this]
    exact seen_id fun c hc => by
      simp only [List.mem_cons, List.not_mem_nil, or_false] at hc
      rcases hc with rfl | rfl
      · exact q1
      · exact b1_dot
  have e2 : sentL [] = [] := rfl
  have e3 : sentL [46] = [46, 46] := by decide +kernel
  have e4 : ∀ n : Nat, ((List.replicate n (Str.ofString "")).map toL).map sentL = (List.replicate n (Str.ofString "")).map toL := fun n => by
    rw [List.map_replicate, List.map_replicate, dots0]; rfl
  unfold restS
  simp only [List.map_append, e4, List.map_cons, List.map_nil, stay_toL, dots0, dots1, dots2, e1, e2, e3, List.cons_append, List.nil_append, List.singleton_append]
 walk_at "EN"
theorem rest_fold (c2 : Int) : ((restS c2).map toL).map foldL = (restS c2).map toL := by
  obtain ⟨_, _, _, _, q5, _⟩ := stay_ok c2
  have e1 : foldL [stayC c2, 46] = [stayC c2, 46] := by
    have : foldL [stayC c2, 46] = toL (mapS (stayC c2)) ++ (toL (mapS 46) ++ []) := rfl
    rw [this, q5, map_dot]; rfl
  have e3 : foldL [46, 46] = [46, 46] := fold_dots 2
  have e4 : ∀ n : Nat, ((List.replicate n (Str.ofString "")).map toL).map foldL = (List.replicate n (Str.ofString "")).map toL := fun n => by
    rw [List.map_replicate, List.map_replicate, dots0]; rfl
  unfold restS
  simp only [List.map_append, e4, List.map_cons, List.map_nil, stay_toL, dots0, dots2, e1, e3]
  rfl
end
section
theorem strs_take {vs : List Value} {ys : List Str} (h : StrsAre vs ys) : ∀ n, StrsAre (vs.take n) (ys.take n) := by
  induction h with
  | nil => intro n; simp; exact .nil
  | cons y t _ ih =>
    intro n
    cases n with
    | zero => exact .nil
    | succ n => exact .cons _ _ (ih n)
theorem strs_drop {vs : List Value} {ys : List Str} (h : StrsAre vs ys) : ∀ n, StrsAre (vs.drop n) (ys.drop n) := by
  induction h with
  | nil => intro n; simp; exact .nil
  | cons y t h ih =>
    intro n
    cases n with
    | zero => exact .cons _ _ h
    | succ n => exact ih n
theorem five {yss : List Str} (h : yss.length = 5) : ∃ a b c d e, yss = [a, b, c, d, e] := by
  obtain ⟨a, l1, rfl⟩ := List.exists_cons_of_length_eq_add_one h
  obtain ⟨b, l2, rfl⟩ := List.exists_cons_of_length_eq_add_one (Nat.succ.inj h)
  obtain ⟨c, l3, rfl⟩ := List.exists_cons_of_length_eq_add_one (Nat.succ.inj (Nat.succ.inj h))
  obtain ⟨d, l4, rfl⟩ := List.exists_cons_of_length_eq_add_one (Nat.succ.inj (Nat.succ.inj (Nat.succ.inj h)))
  obtain ⟨e, l5, rfl⟩ := List.exists_cons_of_length_eq_add_one (Nat.succ.inj (Nat.succ.inj (Nat.succ.inj (Nat.succ.inj h))))
  have := List.eq_nil_of_length_eq_zero (Nat.succ.inj (Nat.succ.inj (Nat.succ.inj (Nat.succ.inj (Nat.succ.inj h)))))
  subst this
  exact ⟨a, b, c, d, e, rfl⟩
noncomputable abbrev gN (c0 : Int) : Net := netOf (netF c0 0) (netS c0 0) (netF c0 1) (netS c0 1) (netF c0 2) (netS c0 2)
theorem gN_ok (c0 : Int) : NetOk (gN c0) := by
  have n0 := netR_ok c0 0 (by decide)
  have n1 := netR_ok c0 1 (by decide)
  have n2 := netR_ok c0 2 (by decide)
  refine ⟨fun i hi => ?_, fun i hi => ?_⟩
  · have : i = 0 ∨ i = 1 ∨ i = 2 := by omega
    rcases this with rfl | rfl | rfl
    · show (netF c0 0).toNat < 5; omega
    · show (netF c0 1).toNat < 5; omega
    · show (netF c0 2).toNat < 5; omega
  · have : i = 0 ∨ i = 1 ∨ i = 2 := by omega
    rcases this with rfl | rfl | rfl
    · show (netS c0 0).toNat < 5; omega
    · show (netS c0 1).toNat < 5; omega
    · show (netS c0 2).toNat < 5; omega
theorem wss_tail (c0 : Int) : ∀ i, i < 5 → toL ((wssL c0).getD i (Str.ofString "")) = tailL (gN c0) i := by
  intro i hi
  have : i = 0 ∨ i = 1 ∨ i = 2 ∨ i = 3 ∨ i = 4 := by omega
  rcases this with rfl | rfl | rfl | rfl | rfl
  · show toL (plStr _) = _; rw [plStr_toL]; rfl
  · show toL (plStr _) = _; rw [plStr_toL]; rfl
  · show toL (plStr _) = _; rw [plStr_toL]; rfl
  · show toL (plStr _) = _; rw [plStr_toL]; rfl
  · show toL (plStr _) = _; rw [plStr_toL]; rfl
structure Typed5 (c0 fr : Int) (tys : List Str) : Prop where
  len : tys.length = 5
  row : ∀ i, i < 5 → ∃ x : Str, TypW (tailL (gN c0) i) x ∧ sentL (toL (tys.getD i (Str.ofString ""))) = List.replicate (initN fr.toNat i) 46 ++ toL x ∧ (toL (tys.getD i (Str.ofString ""))).length ≤ 7 ∧ freeL (toL (tys.getD i (Str.ofString ""))) = true
theorem typed5 {c0 fr : Int} {ts : List Value} (h : RowsT fr (fun i => toL ((wssL c0).getD i (Str.ofString ""))) ts 5) (h0 : 0 ≤ fr) (h3 : fr < 3) : ∃ tys, StrsAre ts tys ∧ Typed5 c0 fr tys := by
  obtain ⟨ys, a, b, c⟩ := h.ex
  refine ⟨ys, a, b, fun i hi => ?_⟩
  have := row_sentT (c i hi) h0 h3
  rwa [wss_tail c0 i hi] at this
theorem initN_le (fr p : Nat) : 1 ≤ initN fr p ∧ initN fr p ≤ 3 := by unfold initN; split <;> (try split) <;> omega
theorem tail_len (g : Net) (i : Nat) : (tailL g i).length ≤ 3 := by unfold tailL; split <;> simp
theorem typ_fold {ls : List Nat} {x : Str} (h : TypW ls x) (n : Nat) : foldL (List.replicate n 46 ++ toL x) = List.replicate n 46 ++ ls := by
  rw [fold_app, fold_dots]
  congr 1
  exact h.fl
theorem mem_getD {l : List Str} {y : Str} (h : y ∈ l) : ∃ i, i < l.length ∧ l.getD i (Str.ofString "") = y := by
  obtain ⟨i, hi, e⟩ := List.mem_iff_getElem.mp h
  exact ⟨i, hi, by simp [List.getD_eq_getElem?_getD, hi, e]⟩
theorem rep_len (c2 : Int) : (List.replicate (c2.fmod 2).toNat (Str.ofString "")).length ≤ 1 := by
  have := fmod_hi c2 (n := 2) (by decide)
  have := fmod_lo c2 (n := 2) (by decide)
  simp; omega
theorem law_pre {c0 c2 fr : Int} {tys : List Str} (h : Typed5 c0 fr tys) : SentPre (allYs tys c2) := by
 walk_at "ST"
 case oTag =>
  have hl := h.len
  have hr := rep_len c2
  obtain ⟨_, _, q3, q4, _⟩ := stay_ok c2
  have szo : ∀ x : Str, x.cps.size = (toL x).length := fun x => by simp [toL]
  refine ⟨by simp; omega, by simp at hr ⊢; omega, ?_, ?_⟩
  · have e1 : (tys.map fun x => x.cps.size).sum ≤ 35 := by
      obtain ⟨a, b, c, d, e, rfl⟩ := five hl
      obtain ⟨_, _, _, z0, _⟩ := h.row 0 (by decide)
      obtain ⟨_, _, _, z1, _⟩ := h.row 1 (by decide)
      obtain ⟨_, _, _, z2, _⟩ := h.row 2 (by decide)
      obtain ⟨_, _, _, z3, _⟩ := h.row 3 (by decide)
      obtain ⟨_, _, _, z4, _⟩ := h.row 4 (by decide)
      change (toL a).length ≤ 7 at z0
      change (toL b).length ≤ 7 at z1
      change (toL c).length ≤ 7 at z2
      change (toL d).length ≤ 7 at z3
      change (toL e).length ≤ 7 at z4
      simp only [List.map_cons, List.map_nil, List.sum_cons, List.sum_nil, szo]
      omega
    have e2 : ∀ n : Nat, ((List.replicate n (Str.ofString "")).map fun x : Str => x.cps.size).sum = 0 := fun n => by
      rw [List.map_replicate, szo, dots0]; simp
    have e3 : (⟨#[stayC c2]⟩ ++ Str.ofString "." : Str).cps.size = 2 := by rw [szo, stay_toL]; rfl
    have e4 : (Str.ofString "").cps.size = 0 := by rw [szo, dots0]; rfl
    have e5 : (Str.ofString ".").cps.size = 1 := by rw [szo, dots1]; rfl
    simp only [List.map_append, List.sum_append, List.map_cons, List.map_nil, List.sum_cons, List.sum_nil, e2, e3, e4, e5]
    omega
  · rw [List.all_map, List.all_eq_true]
    intro y hy
    show freeL (toL y) = true
    simp only [List.mem_append, List.mem_cons, List.not_mem_nil, or_false] at hy
    rcases hy with ((hy | rfl | rfl) | rfl) | hy
    · obtain ⟨i, hi, rfl⟩ := mem_getD hy
      obtain ⟨_, _, _, _, z⟩ := h.row i (by omega)
      exact z
    · rw [stay_toL]; simp [freeL, q3, q4]
    · rw [dots0]; rfl
    · rw [dots1]; rfl
    · rw [(List.mem_replicate.mp hy).2, dots0]; rfl
 walk_at "EN"
theorem all_split {tys : List Str} (c2 : Int) : (((allYs tys c2).map toL).map sentL) = (tys.map toL).map sentL ++ (restS c2).map toL := by
  rw [← tail_sent c2]
  simp only [List.map_append, List.append_assoc]
theorem law_sml {c0 c2 fr : Int} {tys : List Str} (h : Typed5 c0 fr tys) : SentL (allYs tys c2) := by
 walk_at "ST"
 case oTag =>
  have hl := h.len
  have hr := rep_len c2
  refine ⟨by simp at hr ⊢; omega, fun r hr => ?_⟩
  rw [all_split] at hr
  rcases List.mem_append.mp hr with hr | hr
  · rw [List.map_map] at hr
    obtain ⟨y, hy, rfl⟩ := List.mem_map.mp hr
    obtain ⟨i, hi, rfl⟩ := mem_getD hy
    obtain ⟨x, hx, e, _⟩ := h.row i (by omega)
    have n3 := (initN_le fr.toNat i).2
    have t3 := tail_len (gN c0) i
    have xs : (toL x).length ≤ 3 := by rw [toL_len]; exact hx.sz
    show (sentL (toL (tys.getD i (Str.ofString "")))).length ≤ 1000 ∧ (foldL (sentL (toL (tys.getD i (Str.ofString ""))))).length ≤ 1000
    rw [e, typ_fold hx]
    simp only [List.length_append, List.length_replicate]
    omega
  · have e : ∀ r' ∈ (restS c2).map toL, r'.length ≤ 2 := by
      intro r' h'
      obtain ⟨y, hy, rfl⟩ := List.mem_map.mp h'
      simp only [restS, List.mem_append, List.mem_cons, List.not_mem_nil, or_false] at hy
      rcases hy with (rfl | rfl | rfl) | hy
      · rw [stay_toL]; exact Nat.le_refl 2
      · rw [dots0]; decide
      · rw [dots2]; decide
      · rw [(List.mem_replicate.mp hy).2, dots0]; decide
    refine ⟨Nat.le_trans (e r hr) (by decide), Nat.le_trans (e _ ?_) (by decide)⟩
    rw [← rest_fold]
    exact List.mem_map_of_mem hr
 walk_at "EN"
theorem fold_all {c0 c2 fr : Int} {tys yq : List Str} (h : Typed5 c0 fr tys) (e : yq.map toL = ((allYs tys c2).map toL).map sentL) :
    (∀ i, i < 5 → toL ((yq.map foldS).getD i (Str.ofString "")) = rowN (gN c0) i (initN fr.toNat i)) ∧ (yq.map foldS).drop 5 = restS c2 ∧ yq.length ≤ 20 ∧ 5 ≤ yq.length := by
 walk_at "ST"
 case oTag =>
  have hl := h.len
  have hr := rep_len c2
  have e0 : (yq.map foldS).map toL = ((tys.map toL).map sentL).map foldL ++ (restS c2).map toL := by
    have : (yq.map foldS).map toL = (yq.map toL).map foldL := by
      rw [List.map_map, List.map_map]
      exact List.map_congr_left fun y _ => foldS_toL y
    rw [this, e, all_split, List.map_append, rest_fold]
  have hyl : yq.length = 8 + (List.replicate (c2.fmod 2).toNat (Str.ofString "")).length := by
    have := congrArg List.length e0
    simp only [List.length_map, List.length_append, restS, List.length_cons, List.length_nil, hl] at this
    omega
  refine ⟨fun i hi => ?_, ?_, by omega, by omega⟩
  · have hi' : i < (yq.map foldS).length := by rw [List.length_map]; omega
    have h1 : ((yq.map foldS).map toL)[i]? = some (toL ((yq.map foldS).getD i (Str.ofString ""))) := by
      rw [List.getElem?_map, List.getElem?_eq_getElem hi', List.getD_eq_getElem?_getD, List.getElem?_eq_getElem hi']; rfl
    have hti : i < tys.length := by omega
    have h2 : (((tys.map toL).map sentL).map foldL ++ (restS c2).map toL)[i]? = some (foldL (sentL (toL (tys.getD i (Str.ofString ""))))) := by
      rw [List.getElem?_append_left (by simpa using hti)]
      simp only [List.getElem?_map, List.getElem?_eq_getElem hti, Option.map_some, List.getD_eq_getElem?_getD, Option.getD_some]
    rw [e0, h2] at h1
    injection h1 with h1
    obtain ⟨x, hx, ex, _⟩ := h.row i hi
    rw [← h1, ex, typ_fold hx]
    rfl
  · apply strs_toL_inj
    rw [List.map_drop, e0, List.drop_append_of_le_length (by simp [hl])]
    rw [List.drop_of_length_le (by simp [hl])]
    rfl
 walk_at "EN"
theorem rows_C {c0 c2 fr : Int} {tys yq : List Str} {fs : List Value} (h : Typed5 c0 fr tys) (e : yq.map toL = ((allYs tys c2).map toL).map sentL) (hf : StrsAre fs (yq.map foldS)) :
    RowsC (fs.take 5) (fun i => rowN (gN c0) i ((initSt fr.toNat).n i)) := by
 walk_at "ST"
 case oTag =>
  obtain ⟨z1, _, _, z4⟩ := fold_all h e
  refine ⟨(yq.map foldS).take 5, strs_take hf 5, by simp; omega, fun i hi => ?_⟩
  have : ((yq.map foldS).take 5).getD i (Str.ofString "") = (yq.map foldS).getD i (Str.ofString "") := by
    simp only [List.getD_eq_getElem?_getD, List.getElem?_take, hi, if_true]
  rw [this, z1 i hi]
  have c : i = 0 ∨ i = 1 ∨ i = 2 ∨ i = 3 ∨ i = 4 := by omega
  rcases c with rfl | rfl | rfl | rfl | rfl <;> rfl
 walk_at "EN"
theorem mul_dots : ∀ n : Nat, n < 102 → toL (Txt.mul (Str.ofString ".") (n : Int)) = List.replicate n 46 := by decide +kernel
noncomputable def rowsS (c0 d3 d4 : Int) : List Str := [Str.ofString ".." ++ plStr [0, netF c0 0, netS c0 0], Str.ofString ".." ++ plStr [1, netF c0 1, netS c0 1], Str.ofString ".." ++ plStr [2, netF c0 2, netS c0 2],
  Txt.mul (Str.ofString ".") (1 + d3) ++ plStr [3], Txt.mul (Str.ofString ".") (1 + d4) ++ plStr [4]]
theorem rows_end {c0 d3 d4 : Int} {fin : St} {vs : List Value} (h : RowsC vs (fun i => rowN (gN c0) i (fin.n i))) (ha : fin.a = 2) (hb : fin.b = 2) (hc : fin.c = 2) (hd : ((fin.d : Nat) : Int) = 1 + d3) (he : ((fin.e : Nat) : Int) = 1 + d4) (sd : fin.d ≤ 90) (se : fin.e ≤ 90) : StrsAre vs (rowsS c0 d3 d4) := by
 walk_at "ST"
 case oTag =>
  obtain ⟨yss, a, b, c⟩ := h.ex
  have wt := wss_tail c0
  have e : yss = rowsS c0 d3 d4 := by
    apply strs_toL_inj
    obtain ⟨x0, x1, x2, x3, x4, rfl⟩ := five b
    have t0 := c 0 (by decide)
    have t1 := c 1 (by decide)
    have t2 := c 2 (by decide)
    have t3 := c 3 (by decide)
    have t4 := c 4 (by decide)
    change toL x0 = rowN (gN c0) 0 fin.a at t0
    change toL x1 = rowN (gN c0) 1 fin.b at t1
    change toL x2 = rowN (gN c0) 2 fin.c at t2
    change toL x3 = rowN (gN c0) 3 fin.d at t3
    change toL x4 = rowN (gN c0) 4 fin.e at t4
    have w0 := wt 0 (by decide)
    have w1 := wt 1 (by decide)
    have w2 := wt 2 (by decide)
    have w3 := wt 3 (by decide)
    have w4 := wt 4 (by decide)
    change toL (plStr _) = _ at w0
    change toL (plStr _) = _ at w1
    change toL (plStr _) = _ at w2
    change toL (plStr _) = _ at w3
    change toL (plStr _) = _ at w4
    unfold rowsS
    simp only [List.map_cons, List.map_nil, t0, t1, t2, t3, t4, ha, hb, hc, toL_app, dots2, w0, w1, w2, w3, w4, ← hd, ← he, mul_dots _ (show fin.d < 102 by omega), mul_dots _ (show fin.e < 102 by omega)]
    rfl
  exact e ▸ a
 walk_at "EN"
theorem strOk_of {x : Str} (h : ∀ c ∈ toL x, c < 70000) : PyData.strOk x = true := by
  unfold PyData.strOk
  rw [← Array.all_toList, List.all_eq_true]
  intro c hc
  have := h c hc
  simp; omega
theorem rest_okS (c2 : Int) : ∀ x ∈ restS c2, PyData.strOk x = true := by
 walk_at "ST"
 case oTag =>
  obtain ⟨_, _, _, _, _, q6⟩ := stay_ok c2
  intro x hx
  apply strOk_of
  intro c hc
  simp only [restS, List.mem_append, List.mem_cons, List.not_mem_nil, or_false] at hx
  rcases hx with (rfl | rfl | rfl) | hx
  · rw [stay_toL] at hc
    simp only [List.mem_cons, List.not_mem_nil, or_false] at hc
    rcases hc with rfl | rfl <;> omega
  · rw [dots0] at hc; cases hc
  · rw [dots2] at hc
    simp only [List.mem_cons, List.not_mem_nil, or_false] at hc
    omega
  · rw [(List.mem_replicate.mp hx).2, dots0] at hc; cases hc
 walk_at "EN"
theorem rows_okS {c0 d3 d4 : Int} {fin : St} {vs : List Value} (h : RowsC vs (fun i => rowN (gN c0) i (fin.n i))) (hs : StrsAre vs (rowsS c0 d3 d4)) : ∀ x ∈ rowsS c0 d3 d4, PyData.strOk x = true := by
 walk_at "ST"
 case oTag =>
  obtain ⟨yss, a, b, c⟩ := h.ex
  have e : yss = rowsS c0 d3 d4 := by
    have key : ∀ {vs : List Value} {x y : List Str}, StrsAre vs x → StrsAre vs y → x = y := by
      intro vs x y hx
      induction hx generalizing y with
      | nil => intro hy; cases hy; rfl
      | cons a t _ ih => intro hy; cases hy with | cons _ _ hy => rw [ih hy]
    exact key a hs
  intro x hx
  rw [← e] at hx
  obtain ⟨i, hi, rfl⟩ := mem_getD hx
  apply strOk_of
  rw [c i (by omega)]
  intro z hz
  rcases List.mem_append.mp hz with hz | hz
  · rw [(List.mem_replicate.mp hz).2]; omega
  · rcases isLetter_cases (tail_letters (gN_ok c0) (show i < 5 by omega) z hz) with rfl | rfl | rfl | rfl | rfl <;> omega
 walk_at "EN"
end
section
section
variable {w : World} {dp un : Nat} {gd : Option (List Code)} {outer : List Env} {A₀ : Around} {base : Heap} {E : Value → Shared → Prop} {s : Shared} {Q : Flow → Shared → Prop} {h₀ : Heap} {L l : Addr} {mx mg mb : Str → Option Value} {mean : ExcName → Option Value} {o1 o2 o3 o4 : Obj} {vs : List Value} {ns : List Int}
theorem law_body (B : Below A₀ base outer h₀) (X : (KK w.params).In h₀) (T : Top qq LOOSE mean mg mb h₀) (F : Fr h₀ L s.heap (fun y => if y = Str.ofString "script" then some (.ref l) else mx y))
    (N : News h₀ L s.heap [(L + 1 + 1 + 1 + 1, o4), (L + 1 + 1 + 1, o3), (L + 1 + 1, o2), (L + 1, o1)]) (hdp : dp + 40 < recursionLimit) (hun : un + 150 < cLine) (hE : PassesOwn (model PW w) (AT dp un gd (lEnv L) outer) (lEnv L) E) (d4 : o4.data = .cell none) (d3 : o3.data = .cell none) (d2 : o2.data = .cell none) (d1 : o1.data = .cell none)
    (hl : base.IsList l vs.toArray) (hi : IntsAre vs ns) (hn : ns.length ≤ 63) (done : ∀ h' tk' m', Fr h₀ L h' m' → Q (.ret (.bool true)) { s with heap := h', toks := tk' }) :
    wpAny (model PW w) (AT dp un gd (lEnv L) outer) (execs (restIn 77 0) (lEnv L)) Q E s := by
 walk_at "ST"
 case oTag =>
  refine law_a B X T F N hdp hun hE d4 d3 d2 d1 hl hi hn fun h1 tk1 m1 Ty Ce Pl a b0 b1 b2 b3 b4 c0 c1 c2 c3 t0 t1 t2 t3 ep nt kw ts ws op oc o1' u0 u1 u2 v0 v1 v2 tf F1 N1 e2 e3 e1 z0 z1 z2 z3 hws hRT => ?_
  obtain ⟨v9, e2⟩ := e2
  have hfr0 : 0 ≤ c1.fmod 3 := fmod_lo _ (by decide)
  have hfr3 : c1.fmod 3 < 3 := fmod_hi _ (by decide)
  obtain ⟨tys, hts, h5⟩ := typed5 hRT hfr0 hfr3
  have htl : ts.length = 5 := hts.length.trans h5.len
  refine law_b (s := { s with heap := h1, toks := tk1 }) B X T hdp hun F1 N1 hts htl (law_pre h5) (law_sml h5) z2 fun h2 tk2 m2 Fo Re Mo fs nf mv yq t k F2 N2 hfs hyq hmv => ?_
  obtain ⟨f1, f2, f3, f4⟩ := fold_all h5 hyq
  have hfl : fs.length ≤ 20 := by
    have := hfs.length
    rw [List.length_map] at this
    omega
  obtain ⟨k0, k1, k2, g0, g1, g2, fin, hG⟩ := law_good c0 hfr0 hfr3 (decide ((c1.fdiv 3).fmod 2 = 1))
  have hwl : ∀ d ∈ [plStr [0, netF c0 0, netS c0 0], plStr [1, netF c0 1, netS c0 1], plStr [2, netF c0 2, netS c0 2], plStr [3], plStr [4]], d.length ≤ 3 := by
    intro d hd
    obtain ⟨i, hi', rfl⟩ := mem_getD hd
    have := (wss_ok c0 i hi').2
    rw [toL_len] at this
    exact this
  have N2' : News h₀ L h2 ((Fo, plainO fs nf) :: (Re, plainO [.str (⟨#[stayC c2]⟩ ++ Str.ofString ".") t, .str (Str.ofString "") k] 0) :: (Mo, plainO mv 0) :: lawLed L Pl Ce a b0 b1 b2 b3 b4 op oc o4 o1' ws kw c0 c1 c2 c3 t0 t1 t2 t3 ep u0 u1 u2 v0 v1 v2) := N2
  have hgb := hG.hgb
  refine law_c (s := { s with heap := h2, toks := tk2 }) (n := 40) B X T hdp hun F2 N2' e2 e3 e1 d4 hfl hfr0 hfr3 z1 z2 z3 (gN_ok c0) hG.hs (fun i hi' => ?_) ⟨rfl, rfl, rfl, rfl⟩ (rows_C h5 hyq hfs) hws hwl hG.hc hG.hg0 hG.hg1 hG.hg2 hG.hgz hgb
    fun h3 tk3 m3 R Du P D D2 ds qs vs' nd kq tfd kp y1 y2 y3 tv o4' F3 N3 e4 hds hqs hrw hne n1 n2 n3 => ?_
  · have c : i = 0 ∨ i = 1 ∨ i = 2 ∨ i = 3 ∨ i = 4 := by omega
    rcases c with rfl | rfl | rfl | rfl | rfl
    · have := initN_le (c1.fmod 3).toNat 0; show 1 ≤ initN _ _ ∧ initN _ _ ≤ 30; omega
    · have := initN_le (c1.fmod 3).toNat 1; show 1 ≤ initN _ _ ∧ initN _ _ ≤ 30; omega
    · have := initN_le (c1.fmod 3).toNat 2; show 1 ≤ initN _ _ ∧ initN _ _ ≤ 30; omega
    · have := initN_le (c1.fmod 3).toNat 3; show 1 ≤ initN _ _ ∧ initN _ _ ≤ 30; omega
    · have := initN_le (c1.fmod 3).toNat 4; show 1 ≤ initN _ _ ∧ initN _ _ ≤ 30; omega
  rw [hG.hf] at F3
  rw [hG.hp, hG.hq, hG.hr] at hqs
  obtain ⟨tw3, hv3⟩ := strs_get hws 3 (show 3 < 5 by decide)
  obtain ⟨tw4, hv4⟩ := strs_get hws 4 (show 4 < 5 by decide)
  have hv3 : ws[3]? = some (.str (plStr [3]) tw3) := hv3
  have hv4 : ws[4]? = some (.str (plStr [4]) tw4) := hv4
  have hdr := strs_drop hfs 5
  rw [f2] at hdr
  have hrows := rows_end hrw hG.ha hG.hb hG.hcc hG.hd hG.he hG.sd.1 hG.se.1
  have hmr := hmv.length
  have hrl := rep_len c2
  have hd := hG.hd
  have he := hG.he
  obtain ⟨sd1, sd2⟩ := hG.sd
  obtain ⟨se1, se2⟩ := hG.se
  refine law_d (s := { s with heap := h3, toks := tk3 }) (rest := restS c2) (fv := (fin.fed : Nat)) (ff := (fin.fed : Nat)) (p := (fin.p : Nat)) (q := (fin.q : Nat)) (r := (fin.r : Nat)) hun X T hE F3 N3 e2 e3 e1 e4 hfl (by simp) (by omega) (by have := hds.length; simp at this; omega) hv3 (hwl _ (by simp)) hv4 (hwl _ (by simp)) hqs rfl (by omega) (by omega) hne n1 n2 n3
    hrows (fun td td' => strs_app (strs_app hds (.cons _ _ .nil)) (.cons _ _ .nil)) hdr (fun t' => strs_app (strs_app (.cons _ _ (.cons _ _ .nil)) (.cons _ _ .nil)) hmv) (rows_okS hrw hrows) (rest_okS c2) fun h' tk' m' F' => done h' tk' m' F'
 walk_at "EN"
end
end
section
theorem script_end {h₀ h : Heap} {L : Addr} {m' : Str → Option Value} {v : Value} (F : Fr h₀ L h m') (e : m' (Str.ofString "script") = some v) : Fr h₀ L h (fun y => if y = Str.ofString "script" then some v else m' y) := by
  have : m' = fun y => if y = Str.ofString "script" then some v else m' y := by
    funext y
    split
    · next q => rw [q, e]
    · rfl
  exact this ▸ F
theorem law_walk : WalkP := by
 walk_at "ST"
 case oTag =>
  refine walk_of (by rfl) ?_
  k_fill
  intro w s₀ s₁ mg mb G Y fa o pm cd doc dV kV ho hd hcd hD hmg hg args vals as hpre hlay hrd hwl hlo
  have KX := kIn_of Y
  have e0 : mg (Str.ofString "law") = some (.ref 204) := mg_of (v := .ref 204) KX G.T.g (by k_is)
  have hfa : fa = 204 := by
    have : some (Value.ref fa) = some (.ref 204) := hmg.symm.trans e0
    injection this with this
    injection this
  subst hfa
  have ho4 : o = O_204 w.params := by
    have := KX 204 _ (show (KK w.params).lookup 204 = some (O_204 w.params) by rfl)
    rw [ho] at this
    injection this
  subst ho4
  have hcd3 : cd = .ref 203 := by
    have := congrArg (fun d => match d with | Data.func fd => fd.code | _ => Value.none) hd
    exact this.symm
  subst hcd3
  have hloose := loose_is
  k_behind G ho hd hcd hD hmg hpre hlay hrd hwl hlo cd
  all_goals try k_fold
  rename (KK _).In _ => h1
  rename Below _ _ _ _ => h2
  rename Top _ _ _ _ _ _ => h3
  rename Fr _ _ _ _ => h4
  rename News _ _ _ _ => h5
  rename IntsAre _ _ => h6
  rw [loose_is] at h3
  with_unfolding_all refine' law_body h2 h1 h3 ?F ?N ?hdp ?hun ?hE ?d4 ?d3 ?d2 ?d1 ?hl h6 ?hn ?done
  case N => exact h5
  case F => exact script_end h4 (by rfl)
  case hdp => decide
  case hun => decide
  case hE => passes_own
  case d4 => assumption
  case d3 => assumption
  case d2 => assumption
  case d1 => assumption
  case hl => assumption
  case hn => omega
  case done =>
    intro h' tk' m' F'
    clear h5 h4
    k_steps
 walk_at "EN"
end
section
theorem walk_to {d : DefRec} {kwd : List (Str × PySem.Expr)} (e : defOf qq (Str.ofString "law") = some (d, kwd)) (h : WalkP) : WalkO qq LOOSE (XL qq []) HK.says PySem.Challenge.rw_uk0015_01.row.toRowW d kwd fun f vs => PySem.call f vs := by
  obtain ⟨d', k', e', h'⟩ := h
  have q := Option.some.inj (e'.symm.trans e)
  injection q with q1 q2
  subst q1; subst q2
  exact h'
theorem saidW : PySem.Challenge.rw_uk0015_01.wellSaid = true := by
 walk_at "ST"
 case oTag =>
  unfold OpenLaw.wellSaid OpenRow.wellSaid
  repeat' with_reducible refine look_both ?_ ?_
  all_goals try unfold OpenRow.partSaid
  repeat' with_reducible refine look_both ?_ ?_
  all_goals try unfold looksOpen
  repeat' with_reducible refine look_both ?_ ?_
  all_goals as_aux_lemma => decide +kernel
 walk_at "EN"
end
section
noncomputable def hdE (P : Params) (s : String) (n : Nat) (v : Value) : DictEntry := ⟨PyData.keyHash P (Str.ofString s), .str (Str.ofString s) n, v⟩
set_option maxHeartbeats 0
noncomputable def LFH : Life := {}
noncomputable def envH : Env := { scope := PW.main.scope, locals := mainNs, globals := mainNs, cells := [], code := .ref 30, frame := some 31 }
noncomputable def bodyH : List Stmt := behindTheImports PW
noncomputable def cH : Code := .body bodyH envH
noncomputable abbrev qH : Pos := ⟨0, 0, 0, 0⟩
noncomputable abbrev BH : List PySem.Frame := [topFrame qH]
noncomputable abbrev annH : Option Value := some (.ref 6)
noncomputable def oQ_0 (P : Params) : Obj := ⟨.type "dict", none, .dict #[hdE P "__name__" 1 (.str (Str.ofString "builtins") 160), hdE P "__doc__" 2 (.builtin "builtins.__doc__:str#opaque"), hdE P "__package__" 3 (.builtin "builtins.__package__:str#opaque"), hdE P "__loader__" 4 (.builtin "builtins.__loader__:shared#opaque"), hdE P "__spec__" 5 (.builtin "builtins.__spec__#opaque"), hdE P "__build_class__" 6 (.builtin "__build_class__"), hdE P "__import__" 7 (.builtin "__import__"), hdE P "abs" 8 (.builtin "abs"), hdE P "all" 9 (.builtin "all"), hdE P "any" 10 (.builtin "any"), hdE P "ascii" 11 (.builtin "ascii"), hdE P "bin" 12 (.builtin "bin"), hdE P "breakpoint" 13 (.builtin "breakpoint"), hdE P "callable" 14 (.builtin "callable"), hdE P "chr" 15 (.builtin "chr"), hdE P "compile" 16 (.builtin "compile"), hdE P "delattr" 17 (.builtin "delattr"), hdE P "dir" 18 (.builtin "dir"), hdE P "divmod" 19 (.builtin "divmod"), hdE P "eval" 20 (.builtin "eval"), hdE P "exec" 21 (.builtin "exec"), hdE P "format" 22 (.builtin "format"), hdE P "getattr" 23 (.builtin "getattr"), hdE P "globals" 24 (.builtin "globals"), hdE P "hasattr" 25 (.builtin "hasattr"), hdE P "hash" 26 (.builtin "hash"), hdE P "hex" 27 (.builtin "hex"), hdE P "id" 28 (.builtin "id"), hdE P "input" 29 (.builtin "input"), hdE P "isinstance" 30 (.builtin "isinstance"), hdE P "issubclass" 31 (.builtin "issubclass"), hdE P "iter" 32 (.builtin "iter"), hdE P "aiter" 33 (.builtin "aiter"), hdE P "len" 34 (.builtin "len"), hdE P "locals" 35 (.builtin "locals"), hdE P "max" 36 (.builtin "max"), hdE P "min" 37 (.builtin "min"), hdE P "next" 38 (.builtin "next"), hdE P "anext" 39 (.builtin "anext"), hdE P "oct" 40 (.builtin "oct"), hdE P "ord" 41 (.builtin "ord"), hdE P "pow" 42 (.builtin "pow"), hdE P "print" 43 (.builtin "print"), hdE P "repr" 44 (.builtin "repr"), hdE P "round" 45 (.builtin "round"), hdE P "setattr" 46 (.builtin "setattr"), hdE P "sorted" 47 (.builtin "sorted"), hdE P "sum" 48 (.builtin "sum"), hdE P "vars" 49 (.builtin "vars"), hdE P "None" 50 (.none), hdE P "Ellipsis" 51 (.ellipsis), hdE P "NotImplemented" 52 (.notImplemented), hdE P "False" 53 (.bool false), hdE P "True" 54 (.bool true), hdE P "bool" 55 (.type "bool"), hdE P "memoryview" 56 (.type "memoryview"), hdE P "bytearray" 57 (.type "bytearray"), hdE P "bytes" 58 (.type "bytes"), hdE P "classmethod" 59 (.type "classmethod"), hdE P "complex" 60 (.type "complex"), hdE P "dict" 61 (.type "dict"), hdE P "enumerate" 62 (.type "enumerate"), hdE P "filter" 63 (.type "filter"), hdE P "float" 64 (.type "float"), hdE P "frozenset" 65 (.type "frozenset"), hdE P "property" 66 (.type "property"), hdE P "int" 67 (.type "int"), hdE P "list" 68 (.type "list"), hdE P "map" 69 (.type "map"), hdE P "object" 70 (.type "object"), hdE P "range" 71 (.type "range"), hdE P "reversed" 72 (.type "reversed"), hdE P "set" 73 (.type "set"), hdE P "slice" 74 (.type "slice"), hdE P "staticmethod" 75 (.type "staticmethod"), hdE P "str" 76 (.type "str"), hdE P "super" 77 (.type "super"), hdE P "tuple" 78 (.type "tuple"), hdE P "type" 79 (.type "type"), hdE P "zip" 80 (.type "zip"), hdE P "__debug__" 81 (.bool true), hdE P "BaseException" 82 (.type "BaseException"), hdE P "BaseExceptionGroup" 83 (.type "BaseExceptionGroup"), hdE P "Exception" 84 (.type "Exception"), hdE P "GeneratorExit" 85 (.type "GeneratorExit"), hdE P "KeyboardInterrupt" 86 (.type "KeyboardInterrupt"), hdE P "SystemExit" 87 (.type "SystemExit"), hdE P "ArithmeticError" 88 (.type "ArithmeticError"), hdE P "AssertionError" 89 (.type "AssertionError"), hdE P "AttributeError" 90 (.type "AttributeError"), hdE P "BufferError" 91 (.type "BufferError"), hdE P "EOFError" 92 (.type "EOFError"), hdE P "ImportError" 93 (.type "ImportError"), hdE P "LookupError" 94 (.type "LookupError"), hdE P "MemoryError" 95 (.type "MemoryError"), hdE P "NameError" 96 (.type "NameError"), hdE P "OSError" 97 (.type "OSError"), hdE P "ReferenceError" 98 (.type "ReferenceError"), hdE P "RuntimeError" 99 (.type "RuntimeError"), hdE P "StopAsyncIteration" 100 (.type "StopAsyncIteration"), hdE P "StopIteration" 101 (.type "StopIteration"), hdE P "SyntaxError" 102 (.type "SyntaxError"), hdE P "SystemError" 103 (.type "SystemError"), hdE P "TypeError" 104 (.type "TypeError"), hdE P "ValueError" 105 (.type "ValueError"), hdE P "Warning" 106 (.type "Warning"), hdE P "FloatingPointError" 107 (.type "FloatingPointError"), hdE P "OverflowError" 108 (.type "OverflowError"), hdE P "ZeroDivisionError" 109 (.type "ZeroDivisionError"), hdE P "BytesWarning" 110 (.type "BytesWarning"), hdE P "DeprecationWarning" 111 (.type "DeprecationWarning"), hdE P "EncodingWarning" 112 (.type "EncodingWarning"), hdE P "FutureWarning" 113 (.type "FutureWarning"), hdE P "ImportWarning" 114 (.type "ImportWarning"), hdE P "PendingDeprecationWarning" 115 (.type "PendingDeprecationWarning"), hdE P "ResourceWarning" 116 (.type "ResourceWarning"), hdE P "RuntimeWarning" 117 (.type "RuntimeWarning"), hdE P "SyntaxWarning" 118 (.type "SyntaxWarning"), hdE P "UnicodeWarning" 119 (.type "UnicodeWarning"), hdE P "UserWarning" 120 (.type "UserWarning"), hdE P "BlockingIOError" 121 (.type "BlockingIOError"), hdE P "ChildProcessError" 122 (.type "ChildProcessError"), hdE P "ConnectionError" 123 (.type "ConnectionError"), hdE P "FileExistsError" 124 (.type "FileExistsError"), hdE P "FileNotFoundError" 125 (.type "FileNotFoundError"), hdE P "InterruptedError" 126 (.type "InterruptedError"), hdE P "IsADirectoryError" 127 (.type "IsADirectoryError"), hdE P "NotADirectoryError" 128 (.type "NotADirectoryError"), hdE P "PermissionError" 129 (.type "PermissionError"), hdE P "ProcessLookupError" 130 (.type "ProcessLookupError"), hdE P "TimeoutError" 131 (.type "TimeoutError"), hdE P "IndentationError" 132 (.type "IndentationError"), hdE P "_IncompleteInputError" 133 (.type "_IncompleteInputError"), hdE P "IndexError" 134 (.type "IndexError"), hdE P "KeyError" 135 (.type "KeyError"), hdE P "ModuleNotFoundError" 136 (.type "ModuleNotFoundError"), hdE P "NotImplementedError" 137 (.type "NotImplementedError"), hdE P "PythonFinalizationError" 138 (.type "PythonFinalizationError"), hdE P "RecursionError" 139 (.type "RecursionError"), hdE P "UnboundLocalError" 140 (.type "UnboundLocalError"), hdE P "UnicodeError" 141 (.type "UnicodeError"), hdE P "BrokenPipeError" 142 (.type "BrokenPipeError"), hdE P "ConnectionAbortedError" 143 (.type "ConnectionAbortedError"), hdE P "ConnectionRefusedError" 144 (.type "ConnectionRefusedError"), hdE P "ConnectionResetError" 145 (.type "ConnectionResetError"), hdE P "TabError" 146 (.type "TabError"), hdE P "UnicodeDecodeError" 147 (.type "UnicodeDecodeError"), hdE P "UnicodeEncodeError" 148 (.type "UnicodeEncodeError"), hdE P "UnicodeTranslateError" 149 (.type "UnicodeTranslateError"), hdE P "ExceptionGroup" 150 (.type "ExceptionGroup"), hdE P "EnvironmentError" 151 (.type "OSError"), hdE P "IOError" 152 (.type "OSError"), hdE P "open" 153 (.builtin "open"), hdE P "quit" 154 (.builtin "builtins.quit#opaque"), hdE P "exit" 155 (.builtin "builtins.exit#opaque"), hdE P "copyright" 156 (.builtin "builtins.copyright#opaque"), hdE P "credits" 157 (.builtin "builtins.credits#opaque"), hdE P "license" 158 (.builtin "builtins.license#opaque"), hdE P "help" 159 (.builtin "builtins.help#opaque")] 159, #[]⟩
noncomputable def oQ_1 (P : Params) : Obj := ⟨.type "dict", none, .dict #[hdE P "builtins" 162 (.ref 4), hdE P "__main__" 163 (.ref 5), hdE P "_sre" 244 (.ref 12)] 3, #[]⟩
noncomputable def oQ_3 (P : Params) : Obj := ⟨.type "dict", none, .dict #[hdE P "__name__" 165 (.str (Str.ofString "__main__") 164), hdE P "__doc__" 166 (.none), hdE P "__package__" 167 (.none), hdE P "__loader__" 168 (.builtin "__main__.__loader__#opaque"), hdE P "__spec__" 169 (.none), hdE P "__annotations__" 170 (.ref 6), hdE P "__builtins__" 171 (.ref 4), hdE P "__file__" 173 (.str (Str.ofString "/claim/cut.py") 172), hdE P "__cached__" 174 (.none), hdE P "_sre" 275 (.ref 12)] 10, #[]⟩
noncomputable def oQ_4 (_ : Params) : Obj := ⟨.type "module", some 0, .plain, #[]⟩
noncomputable def oQ_5 (_ : Params) : Obj := ⟨.type "module", some 3, .plain, #[]⟩
noncomputable def oQ_6 (_ : Params) : Obj := ⟨.type "dict", none, .dict #[] 0, #[]⟩
noncomputable def oQ_7 (_ : Params) : Obj := ⟨.type "tuple", none, .seq #[] 0, #[]⟩
noncomputable def oQ_8 (_ : Params) : Obj := ⟨.none, none, .fields #[], #[]⟩
noncomputable def oQ_9 (_ : Params) : Obj := ⟨.type "code", none, .fields #[.str (Str.ofString "<module>") 176, .str (Str.ofString "<module>") 177, .str (Str.ofString "/claim/cut.py") 178, .int 1 0, .int 0 0, .int 0 0, .int 0 0, .int 0 0, .ref 7, .bool false, .int 175 0, .ref 8, .none, .none, .none, .none, .int 179 0, .int 1 0, .str (Str.ofString "/claim/cut.py") 180], #[]⟩
noncomputable def oQ_10 (_ : Params) : Obj := ⟨.type "frame", none, .plain, #[(some (.ref 9)), (some (.ref 3)), (some (.ref 3)), none, (some (.str (Str.ofString "__main__") 164)), none, (some (.ref 0))]⟩
noncomputable def oQ_11 (P : Params) : Obj := ⟨.type "dict", none, .dict #[hdE P "__name__" 247 (.str (Str.ofString "_sre") 246), hdE P "__doc__" 248 (.none), hdE P "__package__" 250 (.str (Str.ofString "") 249), hdE P "__loader__" 251 (.ref 14), hdE P "__spec__" 252 (.ref 26), hdE P "compile" 253 (.builtin "_sre.compile"), hdE P "template" 254 (.builtin "_sre.template"), hdE P "getcodesize" 255 (.builtin "_sre.getcodesize"), hdE P "ascii_iscased" 256 (.builtin "_sre.ascii_iscased"), hdE P "unicode_iscased" 257 (.builtin "_sre.unicode_iscased"), hdE P "ascii_tolower" 258 (.builtin "_sre.ascii_tolower"), hdE P "unicode_tolower" 259 (.builtin "_sre.unicode_tolower"), hdE P "MAGIC" 261 (.int 20230612 260), hdE P "CODESIZE" 263 (.int 4 262), hdE P "MAXREPEAT" 265 (.int 4294967295 264), hdE P "MAXGROUPS" 267 (.int 1073741823 266), hdE P "copyright" 269 (.str (Str.ofString " SRE 2.2.2 Copyright (c) 1997-2002 by Secret Labs AB ") 268)] 17, #[]⟩
noncomputable def oQ_12 (_ : Params) : Obj := ⟨.type "module", some 11, .plain, #[]⟩
noncomputable def oQ_13 (P : Params) : Obj := ⟨.type "dict", none, .dict #[hdE P "__module__" 189 (.str (Str.ofString "_frozen_importlib") 186), hdE P "__firstlineno__" 190 (.int 971 187), hdE P "__doc__" 191 (.builtin "_frozen_importlib.BuiltinImporter.__doc__:str#opaque"), hdE P "_ORIGIN" 192 (.str (Str.ofString "built-in") 188), hdE P "find_spec" 193 (.builtin "_frozen_importlib.BuiltinImporter.find_spec#opaque"), hdE P "create_module" 194 (.builtin "_frozen_importlib.BuiltinImporter.create_module#opaque"), hdE P "exec_module" 195 (.builtin "_frozen_importlib.BuiltinImporter.exec_module#opaque"), hdE P "get_code" 196 (.builtin "_frozen_importlib.BuiltinImporter.get_code#opaque"), hdE P "get_source" 197 (.builtin "_frozen_importlib.BuiltinImporter.get_source#opaque"), hdE P "is_package" 198 (.builtin "_frozen_importlib.BuiltinImporter.is_package#opaque"), hdE P "load_module" 199 (.builtin "_frozen_importlib.BuiltinImporter.load_module#opaque"), hdE P "__static_attributes__" 200 (.ref 15), hdE P "__dict__" 202 (.ref 16), hdE P "__weakref__" 204 (.ref 17)] 14, #[]⟩
noncomputable def oQ_14 (_ : Params) : Obj := Obj.mk (Value.type "type") none (Data.cls (ClassData.mk (Str.ofString "BuiltinImporter") [Value.type "object"] [Value.ref 14, Value.type "object"] 13 (Str.ofString "BuiltinImporter") true [] [] false none false)) #[]
noncomputable def oQ_15 (_ : Params) : Obj := ⟨.type "tuple", none, .seq #[] 0, #[]⟩
noncomputable def oQ_16 (_ : Params) : Obj := ⟨.type "getset_descriptor", none, .fields #[.str (Str.ofString "__dict__") 201, .ref 14, .builtin "function.__dict__", .builtin "function.__dict__#set"], #[]⟩
noncomputable def oQ_17 (_ : Params) : Obj := ⟨.type "getset_descriptor", none, .fields #[.str (Str.ofString "__weakref__") 203, .ref 14, .builtin "ExceptionGroup.__weakref__", .none], #[]⟩
noncomputable def oQ_18 (_ : Params) : Obj := ⟨.none, none, .seq #[.int 13 0, .str ⟨#[6, 189, 10, 95, 95, 109, 111, 100, 117, 108, 101, 95, 95, 6, 186, 17, 95, 102, 114, 111, 122, 101, 110, 95, 105, 109, 112, 111, 114, 116, 108, 105, 98, 6, 190, 15, 95, 95, 102, 105, 114, 115, 116, 108, 105, 110, 101, 110, 111, 95, 95, 4, 187, 0, 971, 6, 191, 7, 95, 95, 100, 111, 99, 95, 95, 9, 52, 95, 102, 114, 111, 122, 101, 110, 95, 105, 109, 112, 111, 114, 116, 108, 105, 98, 46, 66, 117, 105, 108, 116, 105, 110, 73, 109, 112, 111, 114, 116, 101, 114, 46, 95, 95, 100, 111, 99, 95, 95, 58, 115, 116, 114, 35, 111, 112, 97, 113, 117, 101, 6, 192, 7, 95, 79, 82, 73, 71, 73, 78, 6, 188, 8, 98, 117, 105, 108, 116, 45, 105, 110, 6, 193, 9, 102, 105, 110, 100, 95, 115, 112, 101, 99, 9, 50, 95, 102, 114, 111, 122, 101, 110, 95, 105, 109, 112, 111, 114, 116, 108, 105, 98, 46, 66, 117, 105, 108, 116, 105, 110, 73, 109, 112, 111, 114, 116, 101, 114, 46, 102, 105, 110, 100, 95, 115, 112, 101, 99, 35, 111, 112, 97, 113, 117, 101, 6, 194, 13, 99, 114, 101, 97, 116, 101, 95, 109, 111, 100, 117, 108, 101, 9, 54, 95, 102, 114, 111, 122, 101, 110, 95, 105, 109, 112, 111, 114, 116, 108, 105, 98, 46, 66, 117, 105, 108, 116, 105, 110, 73, 109, 112, 111, 114, 116, 101, 114, 46, 99, 114, 101, 97, 116, 101, 95, 109, 111, 100, 117, 108, 101, 35, 111, 112, 97, 113, 117, 101, 6, 195, 11, 101, 120, 101, 99, 95, 109, 111, 100, 117, 108, 101, 9, 52, 95, 102, 114, 111, 122, 101, 110, 95, 105, 109, 112, 111, 114, 116, 108, 105, 98, 46, 66, 117, 105, 108, 116, 105, 110, 73, 109, 112, 111, 114, 116, 101, 114, 46, 101, 120, 101, 99, 95, 109, 111, 100, 117, 108, 101, 35, 111, 112, 97, 113, 117, 101, 6, 196, 8, 103, 101, 116, 95, 99, 111, 100, 101, 9, 49, 95, 102, 114, 111, 122, 101, 110, 95, 105, 109, 112, 111, 114, 116, 108, 105, 98, 46, 66, 117, 105, 108, 116, 105, 110, 73, 109, 112, 111, 114, 116, 101, 114, 46, 103, 101, 116, 95, 99, 111, 100, 101, 35, 111, 112, 97, 113, 117, 101, 6, 197, 10, 103, 101, 116, 95, 115, 111, 117, 114, 99, 101, 9, 51, 95, 102, 114, 111, 122, 101, 110, 95, 105, 109, 112, 111, 114, 116, 108, 105, 98, 46, 66, 117, 105, 108, 116, 105, 110, 73, 109, 112, 111, 114, 116, 101, 114, 46, 103, 101, 116, 95, 115, 111, 117, 114, 99, 101, 35, 111, 112, 97, 113, 117, 101, 6, 198, 10, 105, 115, 95, 112, 97, 99, 107, 97, 103, 101, 9, 51, 95, 102, 114, 111, 122, 101, 110, 95, 105, 109, 112, 111, 114, 116, 108, 105, 98, 46, 66, 117, 105, 108, 116, 105, 110, 73, 109, 112, 111, 114, 116, 101, 114, 46, 105, 115, 95, 112, 97, 99, 107, 97, 103, 101, 35, 111, 112, 97, 113, 117, 101, 6, 199, 11, 108, 111, 97, 100, 95, 109, 111, 100, 117, 108, 101, 9, 52, 95, 102, 114, 111, 122, 101, 110, 95, 105, 109, 112, 111, 114, 116, 108, 105, 98, 46, 66, 117, 105, 108, 116, 105, 110, 73, 109, 112, 111, 114, 116, 101, 114, 46, 108, 111, 97, 100, 95, 109, 111, 100, 117, 108, 101, 35, 111, 112, 97, 113, 117, 101, 6, 200, 21, 95, 95, 115, 116, 97, 116, 105, 99, 95, 97, 116, 116, 114, 105, 98, 117, 116, 101, 115, 95, 95, 4, 0, 0, 15, 6, 202, 8, 95, 95, 100, 105, 99, 116, 95, 95, 4, 0, 0, 16, 6, 204, 11, 95, 95, 119, 101, 97, 107, 114, 101, 102, 95, 95, 4, 0, 0, 17]⟩ 0, .bool true, .bool true, .str (Str.ofString "") 205, .int 21 0, .str ⟨#[6, 227, 10, 95, 95, 109, 111, 100, 117, 108, 101, 95, 95, 6, 217, 17, 95, 102, 114, 111, 122, 101, 110, 95, 105, 109, 112, 111, 114, 116, 108, 105, 98, 6, 228, 15, 95, 95, 102, 105, 114, 115, 116, 108, 105, 110, 101, 110, 111, 95, 95, 4, 218, 0, 562, 6, 229, 7, 95, 95, 100, 111, 99, 95, 95, 9, 47, 95, 102, 114, 111, 122, 101, 110, 95, 105, 109, 112, 111, 114, 116, 108, 105, 98, 46, 77, 111, 100, 117, 108, 101, 83, 112, 101, 99, 46, 95, 95, 100, 111, 99, 95, 95, 58, 115, 116, 114, 35, 111, 112, 97, 113, 117, 101, 6, 230, 8, 95, 95, 105, 110, 105, 116, 95, 95, 9, 44, 95, 102, 114, 111, 122, 101, 110, 95, 105, 109, 112, 111, 114, 116, 108, 105, 98, 46, 77, 111, 100, 117, 108, 101, 83, 112, 101, 99, 46, 95, 95, 105, 110, 105, 116, 95, 95, 35, 111, 112, 97, 113, 117, 101, 6, 231, 8, 95, 95, 114, 101, 112, 114, 95, 95, 9, 44, 95, 102, 114, 111, 122, 101, 110, 95, 105, 109, 112, 111, 114, 116, 108, 105, 98, 46, 77, 111, 100, 117, 108, 101, 83, 112, 101, 99, 46, 95, 95, 114, 101, 112, 114, 95, 95, 35, 111, 112, 97, 113, 117, 101, 6, 232, 6, 95, 95, 101, 113, 95, 95, 9, 42, 95, 102, 114, 111, 122, 101, 110, 95, 105, 109, 112, 111, 114, 116, 108, 105, 98, 46, 77, 111, 100, 117, 108, 101, 83, 112, 101, 99, 46, 95, 95, 101, 113, 95, 95, 35, 111, 112, 97, 113, 117, 101, 6, 233, 6, 99, 97, 99, 104, 101, 100, 9, 42, 95, 102, 114, 111, 122, 101, 110, 95, 105, 109, 112, 111, 114, 116, 108, 105, 98, 46, 77, 111, 100, 117, 108, 101, 83, 112, 101, 99, 46, 99, 97, 99, 104, 101, 100, 35, 111, 112, 97, 113, 117, 101, 6, 234, 6, 112, 97, 114, 101, 110, 116, 9, 42, 95, 102, 114, 111, 122, 101, 110, 95, 105, 109, 112, 111, 114, 116, 108, 105, 98, 46, 77, 111, 100, 117, 108, 101, 83, 112, 101, 99, 46, 112, 97, 114, 101, 110, 116, 35, 111, 112, 97, 113, 117, 101, 6, 235, 12, 104, 97, 115, 95, 108, 111, 99, 97, 116, 105, 111, 110, 9, 48, 95, 102, 114, 111, 122, 101, 110, 95, 105, 109, 112, 111, 114, 116, 108, 105, 98, 46, 77, 111, 100, 117, 108, 101, 83, 112, 101, 99, 46, 104, 97, 115, 95, 108, 111, 99, 97, 116, 105, 111, 110, 35, 111, 112, 97, 113, 117, 101, 6, 236, 21, 95, 95, 115, 116, 97, 116, 105, 99, 95, 97, 116, 116, 114, 105, 98, 117, 116, 101, 115, 95, 95, 4, 0, 0, 23, 6, 238, 8, 95, 95, 100, 105, 99, 116, 95, 95, 4, 0, 0, 24, 6, 240, 11, 95, 95, 119, 101, 97, 107, 114, 101, 102, 95, 95, 4, 0, 0, 25, 6, 241, 8, 95, 95, 104, 97, 115, 104, 95, 95, 0]⟩ 0, .bool true, .bool true, .str (Str.ofString "") 242] 1, #[]⟩
noncomputable def oQ_19 (_ : Params) : Obj := ⟨.type "list", none, .seq #[] 0, #[]⟩
noncomputable def oQ_20 (P : Params) : Obj := ⟨.type "dict", none, .dict #[hdE P "name" 208 (.str (Str.ofString "_sre") 207), hdE P "loader" 209 (.ref 14), hdE P "origin" 210 (.str (Str.ofString "built-in") 184), hdE P "loader_state" 211 (.none), hdE P "submodule_search_locations" 212 (.none), hdE P "_uninitialized_submodules" 213 (.ref 19), hdE P "_set_fileattr" 214 (.bool false), hdE P "_cached" 215 (.none), hdE P "_initializing" 243 (.bool false)] 9, #[]⟩
noncomputable def oQ_21 (P : Params) : Obj := ⟨.type "dict", none, .dict #[hdE P "__module__" 227 (.str (Str.ofString "_frozen_importlib") 217), hdE P "__firstlineno__" 228 (.int 562 218), hdE P "__doc__" 229 (.builtin "_frozen_importlib.ModuleSpec.__doc__:str#opaque"), hdE P "__init__" 230 (.builtin "_frozen_importlib.ModuleSpec.__init__#opaque"), hdE P "__repr__" 231 (.builtin "_frozen_importlib.ModuleSpec.__repr__#opaque"), hdE P "__eq__" 232 (.builtin "_frozen_importlib.ModuleSpec.__eq__#opaque"), hdE P "cached" 233 (.builtin "_frozen_importlib.ModuleSpec.cached#opaque"), hdE P "parent" 234 (.builtin "_frozen_importlib.ModuleSpec.parent#opaque"), hdE P "has_location" 235 (.builtin "_frozen_importlib.ModuleSpec.has_location#opaque"), hdE P "__static_attributes__" 236 (.ref 23), hdE P "__dict__" 238 (.ref 24), hdE P "__weakref__" 240 (.ref 25), hdE P "__hash__" 241 (.none)] 13, #[]⟩
noncomputable def oQ_22 (_ : Params) : Obj := Obj.mk (Value.type "type") none (Data.cls (ClassData.mk (Str.ofString "ModuleSpec") [Value.type "object"] [Value.ref 22, Value.type "object"] 21 (Str.ofString "ModuleSpec") true [] [] false none false)) #[]
noncomputable def oQ_23 (_ : Params) : Obj := ⟨.type "tuple", none, .seq #[.str (Str.ofString "_cached") 219, .str (Str.ofString "_set_fileattr") 220, .str (Str.ofString "_uninitialized_submodules") 221, .str (Str.ofString "loader") 222, .str (Str.ofString "loader_state") 223, .str (Str.ofString "name") 224, .str (Str.ofString "origin") 225, .str (Str.ofString "submodule_search_locations") 226] 0, #[]⟩
noncomputable def oQ_24 (_ : Params) : Obj := ⟨.type "getset_descriptor", none, .fields #[.str (Str.ofString "__dict__") 237, .ref 22, .builtin "function.__dict__", .builtin "function.__dict__#set"], #[]⟩
noncomputable def oQ_25 (_ : Params) : Obj := ⟨.type "getset_descriptor", none, .fields #[.str (Str.ofString "__weakref__") 239, .ref 22, .builtin "ExceptionGroup.__weakref__", .none], #[]⟩
noncomputable def oQ_26 (_ : Params) : Obj := ⟨.ref 22, some 20, .plain, #[]⟩
noncomputable def oQ_27 (_ : Params) : Obj := ⟨.none, none, .seq #[.int 11 0, .str ⟨#[6, 247, 8, 95, 95, 110, 97, 109, 101, 95, 95, 6, 246, 4, 95, 115, 114, 101, 6, 248, 7, 95, 95, 100, 111, 99, 95, 95, 0, 6, 250, 11, 95, 95, 112, 97, 99, 107, 97, 103, 101, 95, 95, 6, 249, 0, 6, 251, 10, 95, 95, 108, 111, 97, 100, 101, 114, 95, 95, 4, 0, 0, 14, 6, 252, 8, 95, 95, 115, 112, 101, 99, 95, 95, 4, 0, 0, 26, 6, 253, 7, 99, 111, 109, 112, 105, 108, 101, 9, 12, 95, 115, 114, 101, 46, 99, 111, 109, 112, 105, 108, 101, 6, 254, 8, 116, 101, 109, 112, 108, 97, 116, 101, 9, 13, 95, 115, 114, 101, 46, 116, 101, 109, 112, 108, 97, 116, 101, 6, 255, 11, 103, 101, 116, 99, 111, 100, 101, 115, 105, 122, 101, 9, 16, 95, 115, 114, 101, 46, 103, 101, 116, 99, 111, 100, 101, 115, 105, 122, 101, 6, 256, 13, 97, 115, 99, 105, 105, 95, 105, 115, 99, 97, 115, 101, 100, 9, 18, 95, 115, 114, 101, 46, 97, 115, 99, 105, 105, 95, 105, 115, 99, 97, 115, 101, 100, 6, 257, 15, 117, 110, 105, 99, 111, 100, 101, 95, 105, 115, 99, 97, 115, 101, 100, 9, 20, 95, 115, 114, 101, 46, 117, 110, 105, 99, 111, 100, 101, 95, 105, 115, 99, 97, 115, 101, 100, 6, 258, 13, 97, 115, 99, 105, 105, 95, 116, 111, 108, 111, 119, 101, 114, 9, 18, 95, 115, 114, 101, 46, 97, 115, 99, 105, 105, 95, 116, 111, 108, 111, 119, 101, 114, 6, 259, 15, 117, 110, 105, 99, 111, 100, 101, 95, 116, 111, 108, 111, 119, 101, 114, 9, 20, 95, 115, 114, 101, 46, 117, 110, 105, 99, 111, 100, 101, 95, 116, 111, 108, 111, 119, 101, 114, 6, 261, 5, 77, 65, 71, 73, 67, 4, 260, 0, 20230612, 6, 263, 8, 67, 79, 68, 69, 83, 73, 90, 69, 4, 262, 0, 4, 6, 265, 9, 77, 65, 88, 82, 69, 80, 69, 65, 84, 4, 264, 0, 4294967295, 6, 267, 9, 77, 65, 88, 71, 82, 79, 85, 80, 83, 4, 266, 0, 1073741823, 6, 269, 9, 99, 111, 112, 121, 114, 105, 103, 104, 116, 6, 268, 53, 32, 83, 82, 69, 32, 50, 46, 50, 46, 50, 32, 67, 111, 112, 121, 114, 105, 103, 104, 116, 32, 40, 99, 41, 32, 49, 57, 57, 55, 45, 50, 48, 48, 50, 32, 98, 121, 32, 83, 101, 99, 114, 101, 116, 32, 76, 97, 98, 115, 32, 65, 66, 32]⟩ 0, .bool true, .bool false, .str (Str.ofString "_sre") 271] 0, #[]⟩
noncomputable def heapQ (P : Params) : Heap := ⟨⟨[oQ_0 P, oQ_1 P, O_2 P, oQ_3 P, oQ_4 P, oQ_5 P, oQ_6 P, oQ_7 P, oQ_8 P, oQ_9 P, oQ_10 P, oQ_11 P, oQ_12 P, oQ_13 P, oQ_14 P, oQ_15 P, oQ_16 P, oQ_17 P, oQ_18 P, oQ_19 P, oQ_20 P, oQ_21 P, oQ_22 P, oQ_23 P, oQ_24 P, oQ_25 P, oQ_26 P, oQ_27 P]⟩, LFH⟩
noncomputable def oS_11 (P : Params) : Obj := ⟨.type "dict", none, .dict #[hdE P "__name__" 247 (.str (Str.ofString "_sre") 246), hdE P "__doc__" 248 (.none), hdE P "__package__" 250 (.str (Str.ofString "") 249), hdE P "__loader__" 251 (.builtin "off-the-table:_sre.__loader__:shared#opaque"), hdE P "__spec__" 252 (.builtin "off-the-table:_sre.__spec__:shared#opaque"), hdE P "compile" 253 (.builtin "_sre.compile"), hdE P "template" 254 (.builtin "off-the-table:_sre.template:shared#opaque"), hdE P "getcodesize" 255 (.builtin "off-the-table:_sre.getcodesize:shared#opaque"), hdE P "ascii_iscased" 256 (.builtin "off-the-table:_sre.ascii_iscased:shared#opaque"), hdE P "unicode_iscased" 257 (.builtin "off-the-table:_sre.unicode_iscased:shared#opaque"), hdE P "ascii_tolower" 258 (.builtin "off-the-table:_sre.ascii_tolower:shared#opaque"), hdE P "unicode_tolower" 259 (.builtin "off-the-table:_sre.unicode_tolower:shared#opaque"), hdE P "MAGIC" 261 (.int 20230612 260), hdE P "CODESIZE" 263 (.int 4 262), hdE P "MAXREPEAT" 265 (.int 4294967295 264), hdE P "MAXGROUPS" 267 (.int 1073741823 266), hdE P "copyright" 269 (.str (Str.ofString " SRE 2.2.2 Copyright (c) 1997-2002 by Secret Labs AB ") 268)] 17, #[]⟩
noncomputable def heapS (P : Params) : Heap := ⟨⟨[oQ_0 P, oQ_1 P, O_2 P, oQ_3 P, oQ_4 P, oQ_5 P, oQ_6 P, oQ_7 P, oQ_8 P, oQ_9 P, oQ_10 P, oS_11 P, oQ_12 P, oQ_13 P, oQ_14 P, oQ_15 P, oQ_16 P, oQ_17 P, oQ_18 P, oQ_19 P, oQ_20 P, oQ_21 P, oQ_22 P, oQ_23 P, oQ_24 P, oQ_25 P, oQ_26 P, oQ_27 P]⟩, LFH⟩
noncomputable def oR_29 (_ : Params) : Obj := ⟨.none, none, .fields #[], #[]⟩
noncomputable def heapR (P : Params) : Heap := ⟨⟨[oQ_0 P, oQ_1 P, O_2 P, oQ_3 P, oQ_4 P, oQ_5 P, oQ_6 P, oQ_7 P, oQ_8 P, oQ_9 P, oQ_10 P, oS_11 P, oQ_12 P, oQ_13 P, oQ_14 P, oQ_15 P, oQ_16 P, oQ_17 P, oQ_18 P, oQ_19 P, oQ_20 P, oQ_21 P, oQ_22 P, oQ_23 P, oQ_24 P, oQ_25 P, oQ_26 P, oQ_27 P, O_28 P, oR_29 P, O_30 P, O_31 P]⟩, LFH⟩
noncomputable def tR (P : Params) : BT := (.node (oQ_0 P) (.node (oQ_1 P) (.node (oQ_3 P) (.node (oQ_7 P) (.node (oQ_15 P) (.node (O_31 P) .nil .nil) .nil) (.node (oQ_23 P) .nil .nil)) (.node (oS_11 P) (.node (oQ_19 P) .nil .nil) (.node (oQ_27 P) .nil .nil))) (.node (oQ_5 P) (.node (oQ_9 P) (.node (oQ_17 P) .nil .nil) (.node (oQ_25 P) .nil .nil)) (.node (oQ_13 P) (.node (oQ_21 P) .nil .nil) (.node (oR_29 P) .nil .nil)))) (.node (O_2 P) (.node (oQ_4 P) (.node (oQ_8 P) (.node (oQ_16 P) .nil .nil) (.node (oQ_24 P) .nil .nil)) (.node (oQ_12 P) (.node (oQ_20 P) .nil .nil) (.node (O_28 P) .nil .nil))) (.node (oQ_6 P) (.node (oQ_10 P) (.node (oQ_18 P) .nil .nil) (.node (oQ_26 P) .nil .nil)) (.node (oQ_14 P) (.node (oQ_22 P) .nil .nil) (.node (O_30 P) .nil .nil)))))
noncomputable def sR (P : Params) (os : OsState) : SharedT := ⟨tR P, 32, LFH, ⟨[]⟩, boot_drawn, 282, os⟩
noncomputable def oA_3 (P : Params) : Obj := ⟨.type "dict", none, .dict #[hdE P "__name__" 165 (.str (Str.ofString "cpy313.stringprep") 403), hdE P "__doc__" 166 (.none), hdE P "__package__" 167 (.none), hdE P "__loader__" 168 (.builtin "__main__.__loader__#opaque"), hdE P "__spec__" 169 (.none), hdE P "__annotations__" 170 (.ref 6), hdE P "__builtins__" 171 (.ref 4), hdE P "__file__" 173 (.str (Str.ofString "/claim/cut.py") 172), hdE P "__cached__" 174 (.none), hdE P "_sre" 275 (.ref 12), hdE P "_twin_re_1" 299 (.ref 36), hdE P "_twin_re_2" 341 (.ref 41), hdE P "CRLF" 343 (.str (Str.ofString "\x0d\n") 342), hdE P "quotedata" 350 (.ref 48), hdE P "COMPILER_FLAG_NAMES" 383 (.ref 49), hdE P "pretty_flags" 393 (.ref 56), hdE P "_parse_varint" 402 (.ref 63)] 17, #[]⟩
noncomputable def oA_29 (_ : Params) : Obj := ⟨.none, none, .fields #[.int 6 0, .int 0 0, .ref 47, .int 10 0, .int 0 0, .ref 55, .int 22 0, .int 0 0, .ref 62], #[]⟩
noncomputable def tA (P : Params) : BT := (.node (oQ_0 P) (.node (oQ_1 P) (.node (oA_3 P) (.node (oQ_7 P) (.node (oQ_15 P) (.node (O_31 P) (.node (O_63 P) .nil .nil) .nil) (.node (O_47 P) .nil .nil)) (.node (oQ_23 P) (.node (O_39 P) .nil .nil) (.node (O_55 P) .nil .nil))) (.node (oS_11 P) (.node (oQ_19 P) (.node (O_35 P) .nil .nil) (.node (O_51 P) .nil .nil)) (.node (oQ_27 P) (.node (O_43 P) .nil .nil) (.node (O_59 P) .nil .nil)))) (.node (oQ_5 P) (.node (oQ_9 P) (.node (oQ_17 P) (.node (O_33 P) .nil .nil) (.node (O_49 P) .nil .nil)) (.node (oQ_25 P) (.node (O_41 P) .nil .nil) (.node (O_57 P) .nil .nil))) (.node (oQ_13 P) (.node (oQ_21 P) (.node (O_37 P) .nil .nil) (.node (O_53 P) .nil .nil)) (.node (oA_29 P) (.node (O_45 P) .nil .nil) (.node (O_61 P) .nil .nil))))) (.node (O_2 P) (.node (oQ_4 P) (.node (oQ_8 P) (.node (oQ_16 P) (.node (O_32 P) .nil .nil) (.node (O_48 P) .nil .nil)) (.node (oQ_24 P) (.node (O_40 P) .nil .nil) (.node (O_56 P) .nil .nil))) (.node (oQ_12 P) (.node (oQ_20 P) (.node (O_36 P) .nil .nil) (.node (O_52 P) .nil .nil)) (.node (O_28 P) (.node (O_44 P) .nil .nil) (.node (O_60 P) .nil .nil)))) (.node (oQ_6 P) (.node (oQ_10 P) (.node (oQ_18 P) (.node (O_34 P) .nil .nil) (.node (O_50 P) .nil .nil)) (.node (oQ_26 P) (.node (O_42 P) .nil .nil) (.node (O_58 P) .nil .nil))) (.node (oQ_14 P) (.node (oQ_22 P) (.node (O_38 P) .nil .nil) (.node (O_54 P) .nil .nil)) (.node (O_30 P) (.node (O_46 P) .nil .nil) (.node (O_62 P) .nil .nil))))))
noncomputable def sA (P : Params) (os : OsState) : SharedT := ⟨tA P, 64, LFH, ⟨[]⟩, boot_drawn, 405, os⟩
noncomputable def oB_3 (P : Params) : Obj := ⟨.type "dict", none, .dict #[hdE P "__name__" 165 (.str (Str.ofString "cpy313.stringprep") 403), hdE P "__doc__" 166 (.none), hdE P "__package__" 167 (.none), hdE P "__loader__" 168 (.builtin "__main__.__loader__#opaque"), hdE P "__spec__" 169 (.none), hdE P "__annotations__" 170 (.ref 6), hdE P "__builtins__" 171 (.ref 4), hdE P "__file__" 173 (.str (Str.ofString "/claim/cut.py") 172), hdE P "__cached__" 174 (.none), hdE P "_sre" 275 (.ref 12), hdE P "_twin_re_1" 299 (.ref 36), hdE P "_twin_re_2" 341 (.ref 41), hdE P "CRLF" 343 (.str (Str.ofString "\x0d\n") 342), hdE P "quotedata" 350 (.ref 48), hdE P "COMPILER_FLAG_NAMES" 383 (.ref 49), hdE P "pretty_flags" 393 (.ref 56), hdE P "_parse_varint" 402 (.ref 63), hdE P "b1_set" 464 (.ref 71)] 18, #[]⟩
noncomputable def tB (P : Params) : BT := (.node (oQ_0 P) (.node (oQ_1 P) (.node (oB_3 P) (.node (oQ_7 P) (.node (oQ_15 P) (.node (O_31 P) (.node (O_63 P) .nil .nil) .nil) (.node (O_47 P) .nil .nil)) (.node (oQ_23 P) (.node (O_39 P) (.node (O_71 P) .nil .nil) .nil) (.node (O_55 P) .nil .nil))) (.node (oS_11 P) (.node (oQ_19 P) (.node (O_35 P) (.node (O_67 P) .nil .nil) .nil) (.node (O_51 P) .nil .nil)) (.node (oQ_27 P) (.node (O_43 P) .nil .nil) (.node (O_59 P) .nil .nil)))) (.node (oQ_5 P) (.node (oQ_9 P) (.node (oQ_17 P) (.node (O_33 P) (.node (O_65 P) .nil .nil) .nil) (.node (O_49 P) .nil .nil)) (.node (oQ_25 P) (.node (O_41 P) (.node (O_73 P) .nil .nil) .nil) (.node (O_57 P) .nil .nil))) (.node (oQ_13 P) (.node (oQ_21 P) (.node (O_37 P) (.node (O_69 P) .nil .nil) .nil) (.node (O_53 P) .nil .nil)) (.node (oA_29 P) (.node (O_45 P) .nil .nil) (.node (O_61 P) .nil .nil))))) (.node (O_2 P) (.node (oQ_4 P) (.node (oQ_8 P) (.node (oQ_16 P) (.node (O_32 P) (.node (O_64 P) .nil .nil) .nil) (.node (O_48 P) .nil .nil)) (.node (oQ_24 P) (.node (O_40 P) (.node (O_72 P) .nil .nil) .nil) (.node (O_56 P) .nil .nil))) (.node (oQ_12 P) (.node (oQ_20 P) (.node (O_36 P) (.node (O_68 P) .nil .nil) .nil) (.node (O_52 P) .nil .nil)) (.node (O_28 P) (.node (O_44 P) .nil .nil) (.node (O_60 P) .nil .nil)))) (.node (oQ_6 P) (.node (oQ_10 P) (.node (oQ_18 P) (.node (O_34 P) (.node (O_66 P) .nil .nil) .nil) (.node (O_50 P) .nil .nil)) (.node (oQ_26 P) (.node (O_42 P) (.node (O_74 P) .nil .nil) .nil) (.node (O_58 P) .nil .nil))) (.node (oQ_14 P) (.node (oQ_22 P) (.node (O_38 P) (.node (O_70 P) .nil .nil) .nil) (.node (O_54 P) .nil .nil)) (.node (O_30 P) (.node (O_46 P) .nil .nil) (.node (O_62 P) .nil .nil))))))
noncomputable def sB (P : Params) (os : OsState) : SharedT := ⟨tB P, 75, LFH, ⟨[]⟩, boot_drawn, 465, os⟩
noncomputable def oC_3 (P : Params) : Obj := ⟨.type "dict", none, .dict #[hdE P "__name__" 165 (.str (Str.ofString "cpy313.stringprep") 403), hdE P "__doc__" 166 (.none), hdE P "__package__" 167 (.none), hdE P "__loader__" 168 (.builtin "__main__.__loader__#opaque"), hdE P "__spec__" 169 (.none), hdE P "__annotations__" 170 (.ref 6), hdE P "__builtins__" 171 (.ref 4), hdE P "__file__" 173 (.str (Str.ofString "/claim/cut.py") 172), hdE P "__cached__" 174 (.none), hdE P "_sre" 275 (.ref 12), hdE P "_twin_re_1" 299 (.ref 36), hdE P "_twin_re_2" 341 (.ref 41), hdE P "CRLF" 343 (.str (Str.ofString "\x0d\n") 342), hdE P "quotedata" 350 (.ref 48), hdE P "COMPILER_FLAG_NAMES" 383 (.ref 49), hdE P "pretty_flags" 393 (.ref 56), hdE P "_parse_varint" 402 (.ref 63), hdE P "b1_set" 464 (.ref 71), hdE P "in_table_b1" 471 (.ref 81)] 19, #[]⟩
noncomputable def oC_29 (_ : Params) : Obj := ⟨.none, none, .fields #[.int 6 0, .int 0 0, .ref 47, .int 10 0, .int 0 0, .ref 55, .int 22 0, .int 0 0, .ref 62, .int 32 0, .int 0 0, .ref 80], #[]⟩
noncomputable def tC (P : Params) : BT := (.node (oQ_0 P) (.node (oQ_1 P) (.node (oC_3 P) (.node (oQ_7 P) (.node (oQ_15 P) (.node (O_31 P) (.node (O_63 P) .nil .nil) .nil) (.node (O_47 P) (.node (O_79 P) .nil .nil) .nil)) (.node (oQ_23 P) (.node (O_39 P) (.node (O_71 P) .nil .nil) .nil) (.node (O_55 P) .nil .nil))) (.node (oS_11 P) (.node (oQ_19 P) (.node (O_35 P) (.node (O_67 P) .nil .nil) .nil) (.node (O_51 P) .nil .nil)) (.node (oQ_27 P) (.node (O_43 P) (.node (O_75 P) .nil .nil) .nil) (.node (O_59 P) .nil .nil)))) (.node (oQ_5 P) (.node (oQ_9 P) (.node (oQ_17 P) (.node (O_33 P) (.node (O_65 P) .nil .nil) .nil) (.node (O_49 P) (.node (O_81 P) .nil .nil) .nil)) (.node (oQ_25 P) (.node (O_41 P) (.node (O_73 P) .nil .nil) .nil) (.node (O_57 P) .nil .nil))) (.node (oQ_13 P) (.node (oQ_21 P) (.node (O_37 P) (.node (O_69 P) .nil .nil) .nil) (.node (O_53 P) .nil .nil)) (.node (oC_29 P) (.node (O_45 P) (.node (O_77 P) .nil .nil) .nil) (.node (O_61 P) .nil .nil))))) (.node (O_2 P) (.node (oQ_4 P) (.node (oQ_8 P) (.node (oQ_16 P) (.node (O_32 P) (.node (O_64 P) .nil .nil) .nil) (.node (O_48 P) (.node (O_80 P) .nil .nil) .nil)) (.node (oQ_24 P) (.node (O_40 P) (.node (O_72 P) .nil .nil) .nil) (.node (O_56 P) .nil .nil))) (.node (oQ_12 P) (.node (oQ_20 P) (.node (O_36 P) (.node (O_68 P) .nil .nil) .nil) (.node (O_52 P) .nil .nil)) (.node (O_28 P) (.node (O_44 P) (.node (O_76 P) .nil .nil) .nil) (.node (O_60 P) .nil .nil)))) (.node (oQ_6 P) (.node (oQ_10 P) (.node (oQ_18 P) (.node (O_34 P) (.node (O_66 P) .nil .nil) .nil) (.node (O_50 P) .nil .nil)) (.node (oQ_26 P) (.node (O_42 P) (.node (O_74 P) .nil .nil) .nil) (.node (O_58 P) .nil .nil))) (.node (oQ_14 P) (.node (oQ_22 P) (.node (O_38 P) (.node (O_70 P) .nil .nil) .nil) (.node (O_54 P) .nil .nil)) (.node (O_30 P) (.node (O_46 P) (.node (O_78 P) .nil .nil) .nil) (.node (O_62 P) .nil .nil))))))
noncomputable def sC (P : Params) (os : OsState) : SharedT := ⟨tC P, 82, LFH, ⟨[]⟩, boot_drawn, 472, os⟩
noncomputable def lC (P : Params) : List Obj := [oQ_0 P, oQ_1 P, O_2 P, oC_3 P, oQ_4 P, oQ_5 P, oQ_6 P, oQ_7 P, oQ_8 P, oQ_9 P, oQ_10 P, oS_11 P, oQ_12 P, oQ_13 P, oQ_14 P, oQ_15 P, oQ_16 P, oQ_17 P, oQ_18 P, oQ_19 P, oQ_20 P, oQ_21 P, oQ_22 P, oQ_23 P, oQ_24 P, oQ_25 P, oQ_26 P, oQ_27 P, O_28 P, oC_29 P, O_30 P, O_31 P, O_32 P, O_33 P, O_34 P, O_35 P, O_36 P, O_37 P, O_38 P, O_39 P, O_40 P, O_41 P, O_42 P, O_43 P, O_44 P, O_45 P, O_46 P, O_47 P, O_48 P, O_49 P, O_50 P, O_51 P, O_52 P, O_53 P, O_54 P, O_55 P, O_56 P, O_57 P, O_58 P, O_59 P, O_60 P, O_61 P, O_62 P, O_63 P, O_64 P, O_65 P, O_66 P, O_67 P, O_68 P, O_69 P, O_70 P, O_71 P, O_72 P, O_73 P, O_74 P, O_75 P, O_76 P, O_77 P, O_78 P, O_79 P, O_80 P, O_81 P]
noncomputable def tDp (P : Params) : BT := (.node (oQ_0 P) (.node (oQ_1 P) (.node (oC_3 P) (.node (oQ_7 P) (.node (oQ_15 P) (.node (O_31 P) (.node (O_63 P) .nil .nil) (.node (O_95 P) .nil .nil)) (.node (O_47 P) (.node (O_79 P) .nil .nil) (.node (O_111 P) .nil .nil))) (.node (oQ_23 P) (.node (O_39 P) (.node (O_71 P) .nil .nil) (.node (O_103 P) .nil .nil)) (.node (O_55 P) (.node (O_87 P) .nil .nil) (.node (O_119 P) .nil .nil)))) (.node (oS_11 P) (.node (oQ_19 P) (.node (O_35 P) (.node (O_67 P) .nil .nil) (.node (O_99 P) .nil .nil)) (.node (O_51 P) (.node (O_83 P) .nil .nil) (.node (O_115 P) .nil .nil))) (.node (oQ_27 P) (.node (O_43 P) (.node (O_75 P) .nil .nil) (.node (O_107 P) .nil .nil)) (.node (O_59 P) (.node (O_91 P) .nil .nil) .nil)))) (.node (oQ_5 P) (.node (oQ_9 P) (.node (oQ_17 P) (.node (O_33 P) (.node (O_65 P) .nil .nil) (.node (O_97 P) .nil .nil)) (.node (O_49 P) (.node (O_81 P) .nil .nil) (.node (O_113 P) .nil .nil))) (.node (oQ_25 P) (.node (O_41 P) (.node (O_73 P) .nil .nil) (.node (O_105 P) .nil .nil)) (.node (O_57 P) (.node (O_89 P) .nil .nil) .nil))) (.node (oQ_13 P) (.node (oQ_21 P) (.node (O_37 P) (.node (O_69 P) .nil .nil) (.node (O_101 P) .nil .nil)) (.node (O_53 P) (.node (O_85 P) .nil .nil) (.node (O_117 P) .nil .nil))) (.node (oC_29 P) (.node (O_45 P) (.node (O_77 P) .nil .nil) (.node (O_109 P) .nil .nil)) (.node (O_61 P) (.node (O_93 P) .nil .nil) .nil))))) (.node (O_2 P) (.node (oQ_4 P) (.node (oQ_8 P) (.node (oQ_16 P) (.node (O_32 P) (.node (O_64 P) .nil .nil) (.node (O_96 P) .nil .nil)) (.node (O_48 P) (.node (O_80 P) .nil .nil) (.node (O_112 P) .nil .nil))) (.node (oQ_24 P) (.node (O_40 P) (.node (O_72 P) .nil .nil) (.node (O_104 P) .nil .nil)) (.node (O_56 P) (.node (O_88 P) .nil .nil) (.node (O_120 P) .nil .nil)))) (.node (oQ_12 P) (.node (oQ_20 P) (.node (O_36 P) (.node (O_68 P) .nil .nil) (.node (O_100 P) .nil .nil)) (.node (O_52 P) (.node (O_84 P) .nil .nil) (.node (O_116 P) .nil .nil))) (.node (O_28 P) (.node (O_44 P) (.node (O_76 P) .nil .nil) (.node (O_108 P) .nil .nil)) (.node (O_60 P) (.node (O_92 P) .nil .nil) .nil)))) (.node (oQ_6 P) (.node (oQ_10 P) (.node (oQ_18 P) (.node (O_34 P) (.node (O_66 P) .nil .nil) (.node (O_98 P) .nil .nil)) (.node (O_50 P) (.node (O_82 P) .nil .nil) (.node (O_114 P) .nil .nil))) (.node (oQ_26 P) (.node (O_42 P) (.node (O_74 P) .nil .nil) (.node (O_106 P) .nil .nil)) (.node (O_58 P) (.node (O_90 P) .nil .nil) .nil))) (.node (oQ_14 P) (.node (oQ_22 P) (.node (O_38 P) (.node (O_70 P) .nil .nil) (.node (O_102 P) .nil .nil)) (.node (O_54 P) (.node (O_86 P) .nil .nil) (.node (O_118 P) .nil .nil))) (.node (O_30 P) (.node (O_46 P) (.node (O_78 P) .nil .nil) (.node (O_110 P) .nil .nil)) (.node (O_62 P) (.node (O_94 P) .nil .nil) .nil))))))
noncomputable def sDp (P : Params) (os : OsState) : SharedT := ⟨tDp P, 121, LFH, ⟨[]⟩, boot_drawn, 2422, os⟩
noncomputable def oD_3 (P : Params) : Obj := ⟨.type "dict", none, .dict #[hdE P "__name__" 165 (.str (Str.ofString "cpy313.stringprep") 403), hdE P "__doc__" 166 (.none), hdE P "__package__" 167 (.none), hdE P "__loader__" 168 (.builtin "__main__.__loader__#opaque"), hdE P "__spec__" 169 (.none), hdE P "__annotations__" 170 (.ref 6), hdE P "__builtins__" 171 (.ref 4), hdE P "__file__" 173 (.str (Str.ofString "/claim/cut.py") 172), hdE P "__cached__" 174 (.none), hdE P "_sre" 275 (.ref 12), hdE P "_twin_re_1" 299 (.ref 36), hdE P "_twin_re_2" 341 (.ref 41), hdE P "CRLF" 343 (.str (Str.ofString "\x0d\n") 342), hdE P "quotedata" 350 (.ref 48), hdE P "COMPILER_FLAG_NAMES" 383 (.ref 49), hdE P "pretty_flags" 393 (.ref 56), hdE P "_parse_varint" 402 (.ref 63), hdE P "b1_set" 464 (.ref 71), hdE P "in_table_b1" 471 (.ref 81), hdE P "b3_exceptions" 2422 (.ref 82)] 20, #[]⟩
noncomputable def tD (P : Params) : BT := (.node (oQ_0 P) (.node (oQ_1 P) (.node (oD_3 P) (.node (oQ_7 P) (.node (oQ_15 P) (.node (O_31 P) (.node (O_63 P) .nil .nil) (.node (O_95 P) .nil .nil)) (.node (O_47 P) (.node (O_79 P) .nil .nil) (.node (O_111 P) .nil .nil))) (.node (oQ_23 P) (.node (O_39 P) (.node (O_71 P) .nil .nil) (.node (O_103 P) .nil .nil)) (.node (O_55 P) (.node (O_87 P) .nil .nil) (.node (O_119 P) .nil .nil)))) (.node (oS_11 P) (.node (oQ_19 P) (.node (O_35 P) (.node (O_67 P) .nil .nil) (.node (O_99 P) .nil .nil)) (.node (O_51 P) (.node (O_83 P) .nil .nil) (.node (O_115 P) .nil .nil))) (.node (oQ_27 P) (.node (O_43 P) (.node (O_75 P) .nil .nil) (.node (O_107 P) .nil .nil)) (.node (O_59 P) (.node (O_91 P) .nil .nil) .nil)))) (.node (oQ_5 P) (.node (oQ_9 P) (.node (oQ_17 P) (.node (O_33 P) (.node (O_65 P) .nil .nil) (.node (O_97 P) .nil .nil)) (.node (O_49 P) (.node (O_81 P) .nil .nil) (.node (O_113 P) .nil .nil))) (.node (oQ_25 P) (.node (O_41 P) (.node (O_73 P) .nil .nil) (.node (O_105 P) .nil .nil)) (.node (O_57 P) (.node (O_89 P) .nil .nil) .nil))) (.node (oQ_13 P) (.node (oQ_21 P) (.node (O_37 P) (.node (O_69 P) .nil .nil) (.node (O_101 P) .nil .nil)) (.node (O_53 P) (.node (O_85 P) .nil .nil) (.node (O_117 P) .nil .nil))) (.node (oC_29 P) (.node (O_45 P) (.node (O_77 P) .nil .nil) (.node (O_109 P) .nil .nil)) (.node (O_61 P) (.node (O_93 P) .nil .nil) .nil))))) (.node (O_2 P) (.node (oQ_4 P) (.node (oQ_8 P) (.node (oQ_16 P) (.node (O_32 P) (.node (O_64 P) .nil .nil) (.node (O_96 P) .nil .nil)) (.node (O_48 P) (.node (O_80 P) .nil .nil) (.node (O_112 P) .nil .nil))) (.node (oQ_24 P) (.node (O_40 P) (.node (O_72 P) .nil .nil) (.node (O_104 P) .nil .nil)) (.node (O_56 P) (.node (O_88 P) .nil .nil) (.node (O_120 P) .nil .nil)))) (.node (oQ_12 P) (.node (oQ_20 P) (.node (O_36 P) (.node (O_68 P) .nil .nil) (.node (O_100 P) .nil .nil)) (.node (O_52 P) (.node (O_84 P) .nil .nil) (.node (O_116 P) .nil .nil))) (.node (O_28 P) (.node (O_44 P) (.node (O_76 P) .nil .nil) (.node (O_108 P) .nil .nil)) (.node (O_60 P) (.node (O_92 P) .nil .nil) .nil)))) (.node (oQ_6 P) (.node (oQ_10 P) (.node (oQ_18 P) (.node (O_34 P) (.node (O_66 P) .nil .nil) (.node (O_98 P) .nil .nil)) (.node (O_50 P) (.node (O_82 P) .nil .nil) (.node (O_114 P) .nil .nil))) (.node (oQ_26 P) (.node (O_42 P) (.node (O_74 P) .nil .nil) (.node (O_106 P) .nil .nil)) (.node (O_58 P) (.node (O_90 P) .nil .nil) .nil))) (.node (oQ_14 P) (.node (oQ_22 P) (.node (O_38 P) (.node (O_70 P) .nil .nil) (.node (O_102 P) .nil .nil)) (.node (O_54 P) (.node (O_86 P) .nil .nil) (.node (O_118 P) .nil .nil))) (.node (O_30 P) (.node (O_46 P) (.node (O_78 P) .nil .nil) (.node (O_110 P) .nil .nil)) (.node (O_62 P) (.node (O_94 P) .nil .nil) .nil))))))
noncomputable def sD (P : Params) (os : OsState) : SharedT := ⟨tD P, 121, LFH, ⟨[]⟩, boot_drawn, 2423, os⟩
noncomputable def oE_3 (P : Params) : Obj := ⟨.type "dict", none, .dict #[hdE P "__name__" 165 (.str (Str.ofString "cpy313.token") 2431), hdE P "__doc__" 166 (.none), hdE P "__package__" 167 (.none), hdE P "__loader__" 168 (.builtin "__main__.__loader__#opaque"), hdE P "__spec__" 169 (.none), hdE P "__annotations__" 170 (.ref 6), hdE P "__builtins__" 171 (.ref 4), hdE P "__file__" 173 (.str (Str.ofString "/claim/cut.py") 172), hdE P "__cached__" 174 (.none), hdE P "_sre" 275 (.ref 12), hdE P "_twin_re_1" 299 (.ref 36), hdE P "_twin_re_2" 341 (.ref 41), hdE P "CRLF" 343 (.str (Str.ofString "\x0d\n") 342), hdE P "quotedata" 350 (.ref 48), hdE P "COMPILER_FLAG_NAMES" 383 (.ref 49), hdE P "pretty_flags" 393 (.ref 56), hdE P "_parse_varint" 402 (.ref 63), hdE P "b1_set" 464 (.ref 71), hdE P "in_table_b1" 471 (.ref 81), hdE P "b3_exceptions" 2422 (.ref 82), hdE P "map_table_b3" 2430 (.ref 127), hdE P "ENDMARKER" 2434 (.int 0 2433), hdE P "LPAR" 2436 (.int 7 2435), hdE P "RPAR" 2438 (.int 8 2437), hdE P "LSQB" 2440 (.int 9 2439), hdE P "RSQB" 2442 (.int 10 2441), hdE P "COLON" 2444 (.int 11 2443), hdE P "COMMA" 2446 (.int 12 2445), hdE P "SEMI" 2448 (.int 13 2447), hdE P "PLUS" 2450 (.int 14 2449), hdE P "MINUS" 2452 (.int 15 2451), hdE P "STAR" 2454 (.int 16 2453), hdE P "SLASH" 2456 (.int 17 2455), hdE P "VBAR" 2458 (.int 18 2457), hdE P "AMPER" 2460 (.int 19 2459), hdE P "LESS" 2462 (.int 20 2461), hdE P "GREATER" 2464 (.int 21 2463), hdE P "EQUAL" 2466 (.int 22 2465), hdE P "DOT" 2468 (.int 23 2467), hdE P "PERCENT" 2470 (.int 24 2469), hdE P "LBRACE" 2472 (.int 25 2471), hdE P "RBRACE" 2474 (.int 26 2473), hdE P "EQEQUAL" 2476 (.int 27 2475), hdE P "NOTEQUAL" 2478 (.int 28 2477), hdE P "LESSEQUAL" 2480 (.int 29 2479), hdE P "GREATEREQUAL" 2482 (.int 30 2481), hdE P "TILDE" 2484 (.int 31 2483), hdE P "CIRCUMFLEX" 2486 (.int 32 2485), hdE P "LEFTSHIFT" 2488 (.int 33 2487), hdE P "RIGHTSHIFT" 2490 (.int 34 2489), hdE P "DOUBLESTAR" 2492 (.int 35 2491), hdE P "PLUSEQUAL" 2494 (.int 36 2493), hdE P "MINEQUAL" 2496 (.int 37 2495), hdE P "STAREQUAL" 2498 (.int 38 2497), hdE P "SLASHEQUAL" 2500 (.int 39 2499), hdE P "PERCENTEQUAL" 2502 (.int 40 2501), hdE P "AMPEREQUAL" 2504 (.int 41 2503), hdE P "VBAREQUAL" 2506 (.int 42 2505), hdE P "CIRCUMFLEXEQUAL" 2508 (.int 43 2507), hdE P "LEFTSHIFTEQUAL" 2510 (.int 44 2509), hdE P "RIGHTSHIFTEQUAL" 2512 (.int 45 2511), hdE P "DOUBLESTAREQUAL" 2514 (.int 46 2513), hdE P "DOUBLESLASH" 2516 (.int 47 2515), hdE P "DOUBLESLASHEQUAL" 2518 (.int 48 2517), hdE P "AT" 2520 (.int 49 2519), hdE P "ATEQUAL" 2522 (.int 50 2521), hdE P "RARROW" 2524 (.int 51 2523), hdE P "ELLIPSIS" 2526 (.int 52 2525), hdE P "COLONEQUAL" 2528 (.int 53 2527), hdE P "EXCLAMATION" 2530 (.int 54 2529)] 70, #[]⟩
noncomputable def oE_29 (_ : Params) : Obj := ⟨.none, none, .fields #[.int 6 0, .int 0 0, .ref 47, .int 10 0, .int 0 0, .ref 55, .int 22 0, .int 0 0, .ref 62, .int 32 0, .int 0 0, .ref 80, .int 35 0, .int 0 0, .ref 126], #[]⟩
noncomputable def tE (P : Params) : BT := (.node (oQ_0 P) (.node (oQ_1 P) (.node (oE_3 P) (.node (oQ_7 P) (.node (oQ_15 P) (.node (O_31 P) (.node (O_63 P) (.node (O_127 P) .nil .nil) .nil) (.node (O_95 P) .nil .nil)) (.node (O_47 P) (.node (O_79 P) .nil .nil) (.node (O_111 P) .nil .nil))) (.node (oQ_23 P) (.node (O_39 P) (.node (O_71 P) .nil .nil) (.node (O_103 P) .nil .nil)) (.node (O_55 P) (.node (O_87 P) .nil .nil) (.node (O_119 P) .nil .nil)))) (.node (oS_11 P) (.node (oQ_19 P) (.node (O_35 P) (.node (O_67 P) .nil .nil) (.node (O_99 P) .nil .nil)) (.node (O_51 P) (.node (O_83 P) .nil .nil) (.node (O_115 P) .nil .nil))) (.node (oQ_27 P) (.node (O_43 P) (.node (O_75 P) .nil .nil) (.node (O_107 P) .nil .nil)) (.node (O_59 P) (.node (O_91 P) .nil .nil) (.node (O_123 P) .nil .nil))))) (.node (oQ_5 P) (.node (oQ_9 P) (.node (oQ_17 P) (.node (O_33 P) (.node (O_65 P) .nil .nil) (.node (O_97 P) .nil .nil)) (.node (O_49 P) (.node (O_81 P) .nil .nil) (.node (O_113 P) .nil .nil))) (.node (oQ_25 P) (.node (O_41 P) (.node (O_73 P) .nil .nil) (.node (O_105 P) .nil .nil)) (.node (O_57 P) (.node (O_89 P) .nil .nil) (.node (O_121 P) .nil .nil)))) (.node (oQ_13 P) (.node (oQ_21 P) (.node (O_37 P) (.node (O_69 P) .nil .nil) (.node (O_101 P) .nil .nil)) (.node (O_53 P) (.node (O_85 P) .nil .nil) (.node (O_117 P) .nil .nil))) (.node (oE_29 P) (.node (O_45 P) (.node (O_77 P) .nil .nil) (.node (O_109 P) .nil .nil)) (.node (O_61 P) (.node (O_93 P) .nil .nil) (.node (O_125 P) .nil .nil)))))) (.node (O_2 P) (.node (oQ_4 P) (.node (oQ_8 P) (.node (oQ_16 P) (.node (O_32 P) (.node (O_64 P) .nil .nil) (.node (O_96 P) .nil .nil)) (.node (O_48 P) (.node (O_80 P) .nil .nil) (.node (O_112 P) .nil .nil))) (.node (oQ_24 P) (.node (O_40 P) (.node (O_72 P) .nil .nil) (.node (O_104 P) .nil .nil)) (.node (O_56 P) (.node (O_88 P) .nil .nil) (.node (O_120 P) .nil .nil)))) (.node (oQ_12 P) (.node (oQ_20 P) (.node (O_36 P) (.node (O_68 P) .nil .nil) (.node (O_100 P) .nil .nil)) (.node (O_52 P) (.node (O_84 P) .nil .nil) (.node (O_116 P) .nil .nil))) (.node (O_28 P) (.node (O_44 P) (.node (O_76 P) .nil .nil) (.node (O_108 P) .nil .nil)) (.node (O_60 P) (.node (O_92 P) .nil .nil) (.node (O_124 P) .nil .nil))))) (.node (oQ_6 P) (.node (oQ_10 P) (.node (oQ_18 P) (.node (O_34 P) (.node (O_66 P) .nil .nil) (.node (O_98 P) .nil .nil)) (.node (O_50 P) (.node (O_82 P) .nil .nil) (.node (O_114 P) .nil .nil))) (.node (oQ_26 P) (.node (O_42 P) (.node (O_74 P) .nil .nil) (.node (O_106 P) .nil .nil)) (.node (O_58 P) (.node (O_90 P) .nil .nil) (.node (O_122 P) .nil .nil)))) (.node (oQ_14 P) (.node (oQ_22 P) (.node (O_38 P) (.node (O_70 P) .nil .nil) (.node (O_102 P) .nil .nil)) (.node (O_54 P) (.node (O_86 P) .nil .nil) (.node (O_118 P) .nil .nil))) (.node (O_30 P) (.node (O_46 P) (.node (O_78 P) .nil .nil) (.node (O_110 P) .nil .nil)) (.node (O_62 P) (.node (O_94 P) .nil .nil) (.node (O_126 P) .nil .nil)))))))
noncomputable def sE (P : Params) (os : OsState) : SharedT := ⟨tE P, 128, LFH, ⟨[]⟩, boot_drawn, 2531, os⟩
noncomputable def oG_3 (P : Params) : Obj := ⟨.type "dict", none, .dict #[hdE P "__name__" 165 (.str (Str.ofString "cpy313.token") 2431), hdE P "__doc__" 166 (.none), hdE P "__package__" 167 (.none), hdE P "__loader__" 168 (.builtin "__main__.__loader__#opaque"), hdE P "__spec__" 169 (.none), hdE P "__annotations__" 170 (.ref 6), hdE P "__builtins__" 171 (.ref 4), hdE P "__file__" 173 (.str (Str.ofString "/claim/cut.py") 172), hdE P "__cached__" 174 (.none), hdE P "_sre" 275 (.ref 12), hdE P "_twin_re_1" 299 (.ref 36), hdE P "_twin_re_2" 341 (.ref 41), hdE P "CRLF" 343 (.str (Str.ofString "\x0d\n") 342), hdE P "quotedata" 350 (.ref 48), hdE P "COMPILER_FLAG_NAMES" 383 (.ref 49), hdE P "pretty_flags" 393 (.ref 56), hdE P "_parse_varint" 402 (.ref 63), hdE P "b1_set" 464 (.ref 71), hdE P "in_table_b1" 471 (.ref 81), hdE P "b3_exceptions" 2422 (.ref 82), hdE P "map_table_b3" 2430 (.ref 127), hdE P "ENDMARKER" 2434 (.int 0 2433), hdE P "LPAR" 2436 (.int 7 2435), hdE P "RPAR" 2438 (.int 8 2437), hdE P "LSQB" 2440 (.int 9 2439), hdE P "RSQB" 2442 (.int 10 2441), hdE P "COLON" 2444 (.int 11 2443), hdE P "COMMA" 2446 (.int 12 2445), hdE P "SEMI" 2448 (.int 13 2447), hdE P "PLUS" 2450 (.int 14 2449), hdE P "MINUS" 2452 (.int 15 2451), hdE P "STAR" 2454 (.int 16 2453), hdE P "SLASH" 2456 (.int 17 2455), hdE P "VBAR" 2458 (.int 18 2457), hdE P "AMPER" 2460 (.int 19 2459), hdE P "LESS" 2462 (.int 20 2461), hdE P "GREATER" 2464 (.int 21 2463), hdE P "EQUAL" 2466 (.int 22 2465), hdE P "DOT" 2468 (.int 23 2467), hdE P "PERCENT" 2470 (.int 24 2469), hdE P "LBRACE" 2472 (.int 25 2471), hdE P "RBRACE" 2474 (.int 26 2473), hdE P "EQEQUAL" 2476 (.int 27 2475), hdE P "NOTEQUAL" 2478 (.int 28 2477), hdE P "LESSEQUAL" 2480 (.int 29 2479), hdE P "GREATEREQUAL" 2482 (.int 30 2481), hdE P "TILDE" 2484 (.int 31 2483), hdE P "CIRCUMFLEX" 2486 (.int 32 2485), hdE P "LEFTSHIFT" 2488 (.int 33 2487), hdE P "RIGHTSHIFT" 2490 (.int 34 2489), hdE P "DOUBLESTAR" 2492 (.int 35 2491), hdE P "PLUSEQUAL" 2494 (.int 36 2493), hdE P "MINEQUAL" 2496 (.int 37 2495), hdE P "STAREQUAL" 2498 (.int 38 2497), hdE P "SLASHEQUAL" 2500 (.int 39 2499), hdE P "PERCENTEQUAL" 2502 (.int 40 2501), hdE P "AMPEREQUAL" 2504 (.int 41 2503), hdE P "VBAREQUAL" 2506 (.int 42 2505), hdE P "CIRCUMFLEXEQUAL" 2508 (.int 43 2507), hdE P "LEFTSHIFTEQUAL" 2510 (.int 44 2509), hdE P "RIGHTSHIFTEQUAL" 2512 (.int 45 2511), hdE P "DOUBLESTAREQUAL" 2514 (.int 46 2513), hdE P "DOUBLESLASH" 2516 (.int 47 2515), hdE P "DOUBLESLASHEQUAL" 2518 (.int 48 2517), hdE P "AT" 2520 (.int 49 2519), hdE P "ATEQUAL" 2522 (.int 50 2521), hdE P "RARROW" 2524 (.int 51 2523), hdE P "ELLIPSIS" 2526 (.int 52 2525), hdE P "COLONEQUAL" 2528 (.int 53 2527), hdE P "EXCLAMATION" 2530 (.int 54 2529), hdE P "EXACT_TOKEN_TYPES" 2627 (.ref 128)] 71, #[]⟩
noncomputable def tG (P : Params) : BT := (.node (oQ_0 P) (.node (oQ_1 P) (.node (oG_3 P) (.node (oQ_7 P) (.node (oQ_15 P) (.node (O_31 P) (.node (O_63 P) (.node (O_127 P) .nil .nil) .nil) (.node (O_95 P) .nil .nil)) (.node (O_47 P) (.node (O_79 P) .nil .nil) (.node (O_111 P) .nil .nil))) (.node (oQ_23 P) (.node (O_39 P) (.node (O_71 P) .nil .nil) (.node (O_103 P) .nil .nil)) (.node (O_55 P) (.node (O_87 P) .nil .nil) (.node (O_119 P) .nil .nil)))) (.node (oS_11 P) (.node (oQ_19 P) (.node (O_35 P) (.node (O_67 P) .nil .nil) (.node (O_99 P) .nil .nil)) (.node (O_51 P) (.node (O_83 P) .nil .nil) (.node (O_115 P) .nil .nil))) (.node (oQ_27 P) (.node (O_43 P) (.node (O_75 P) .nil .nil) (.node (O_107 P) .nil .nil)) (.node (O_59 P) (.node (O_91 P) .nil .nil) (.node (O_123 P) .nil .nil))))) (.node (oQ_5 P) (.node (oQ_9 P) (.node (oQ_17 P) (.node (O_33 P) (.node (O_65 P) (.node (O_129 P) .nil .nil) .nil) (.node (O_97 P) .nil .nil)) (.node (O_49 P) (.node (O_81 P) .nil .nil) (.node (O_113 P) .nil .nil))) (.node (oQ_25 P) (.node (O_41 P) (.node (O_73 P) .nil .nil) (.node (O_105 P) .nil .nil)) (.node (O_57 P) (.node (O_89 P) .nil .nil) (.node (O_121 P) .nil .nil)))) (.node (oQ_13 P) (.node (oQ_21 P) (.node (O_37 P) (.node (O_69 P) .nil .nil) (.node (O_101 P) .nil .nil)) (.node (O_53 P) (.node (O_85 P) .nil .nil) (.node (O_117 P) .nil .nil))) (.node (oE_29 P) (.node (O_45 P) (.node (O_77 P) .nil .nil) (.node (O_109 P) .nil .nil)) (.node (O_61 P) (.node (O_93 P) .nil .nil) (.node (O_125 P) .nil .nil)))))) (.node (O_2 P) (.node (oQ_4 P) (.node (oQ_8 P) (.node (oQ_16 P) (.node (O_32 P) (.node (O_64 P) (.node (O_128 P) .nil .nil) .nil) (.node (O_96 P) .nil .nil)) (.node (O_48 P) (.node (O_80 P) .nil .nil) (.node (O_112 P) .nil .nil))) (.node (oQ_24 P) (.node (O_40 P) (.node (O_72 P) .nil .nil) (.node (O_104 P) .nil .nil)) (.node (O_56 P) (.node (O_88 P) .nil .nil) (.node (O_120 P) .nil .nil)))) (.node (oQ_12 P) (.node (oQ_20 P) (.node (O_36 P) (.node (O_68 P) .nil .nil) (.node (O_100 P) .nil .nil)) (.node (O_52 P) (.node (O_84 P) .nil .nil) (.node (O_116 P) .nil .nil))) (.node (O_28 P) (.node (O_44 P) (.node (O_76 P) .nil .nil) (.node (O_108 P) .nil .nil)) (.node (O_60 P) (.node (O_92 P) .nil .nil) (.node (O_124 P) .nil .nil))))) (.node (oQ_6 P) (.node (oQ_10 P) (.node (oQ_18 P) (.node (O_34 P) (.node (O_66 P) (.node (O_130 P) .nil .nil) .nil) (.node (O_98 P) .nil .nil)) (.node (O_50 P) (.node (O_82 P) .nil .nil) (.node (O_114 P) .nil .nil))) (.node (oQ_26 P) (.node (O_42 P) (.node (O_74 P) .nil .nil) (.node (O_106 P) .nil .nil)) (.node (O_58 P) (.node (O_90 P) .nil .nil) (.node (O_122 P) .nil .nil)))) (.node (oQ_14 P) (.node (oQ_22 P) (.node (O_38 P) (.node (O_70 P) .nil .nil) (.node (O_102 P) .nil .nil)) (.node (O_54 P) (.node (O_86 P) .nil .nil) (.node (O_118 P) .nil .nil))) (.node (O_30 P) (.node (O_46 P) (.node (O_78 P) .nil .nil) (.node (O_110 P) .nil .nil)) (.node (O_62 P) (.node (O_94 P) .nil .nil) (.node (O_126 P) .nil .nil)))))))
noncomputable def sG (P : Params) (os : OsState) : SharedT := ⟨tG P, 131, LFH, ⟨[]⟩, boot_drawn, 2628, os⟩
noncomputable def tI (P : Params) : BT := (.node (oQ_0 P) (.node (oQ_1 P) (.node (O_3 P) (.node (oQ_7 P) (.node (oQ_15 P) (.node (O_31 P) (.node (O_63 P) (.node (O_127 P) .nil .nil) (.node (O_191 P) .nil .nil)) (.node (O_95 P) (.node (O_159 P) .nil .nil) .nil)) (.node (O_47 P) (.node (O_79 P) (.node (O_143 P) .nil .nil) .nil) (.node (O_111 P) (.node (O_175 P) .nil .nil) .nil))) (.node (oQ_23 P) (.node (O_39 P) (.node (O_71 P) (.node (O_135 P) .nil .nil) (.node (O_199 P) .nil .nil)) (.node (O_103 P) (.node (O_167 P) .nil .nil) .nil)) (.node (O_55 P) (.node (O_87 P) (.node (O_151 P) .nil .nil) .nil) (.node (O_119 P) (.node (O_183 P) .nil .nil) .nil)))) (.node (oS_11 P) (.node (oQ_19 P) (.node (O_35 P) (.node (O_67 P) (.node (O_131 P) .nil .nil) (.node (O_195 P) .nil .nil)) (.node (O_99 P) (.node (O_163 P) .nil .nil) .nil)) (.node (O_51 P) (.node (O_83 P) (.node (O_147 P) .nil .nil) .nil) (.node (O_115 P) (.node (O_179 P) .nil .nil) .nil))) (.node (oQ_27 P) (.node (O_43 P) (.node (O_75 P) (.node (O_139 P) .nil .nil) (.node (O_203 P) .nil .nil)) (.node (O_107 P) (.node (O_171 P) .nil .nil) .nil)) (.node (O_59 P) (.node (O_91 P) (.node (O_155 P) .nil .nil) .nil) (.node (O_123 P) (.node (O_187 P) .nil .nil) .nil))))) (.node (oQ_5 P) (.node (oQ_9 P) (.node (oQ_17 P) (.node (O_33 P) (.node (O_65 P) (.node (O_129 P) .nil .nil) (.node (O_193 P) .nil .nil)) (.node (O_97 P) (.node (O_161 P) .nil .nil) .nil)) (.node (O_49 P) (.node (O_81 P) (.node (O_145 P) .nil .nil) .nil) (.node (O_113 P) (.node (O_177 P) .nil .nil) .nil))) (.node (oQ_25 P) (.node (O_41 P) (.node (O_73 P) (.node (O_137 P) .nil .nil) (.node (O_201 P) .nil .nil)) (.node (O_105 P) (.node (O_169 P) .nil .nil) .nil)) (.node (O_57 P) (.node (O_89 P) (.node (O_153 P) .nil .nil) .nil) (.node (O_121 P) (.node (O_185 P) .nil .nil) .nil)))) (.node (oQ_13 P) (.node (oQ_21 P) (.node (O_37 P) (.node (O_69 P) (.node (O_133 P) .nil .nil) (.node (O_197 P) .nil .nil)) (.node (O_101 P) (.node (O_165 P) .nil .nil) .nil)) (.node (O_53 P) (.node (O_85 P) (.node (O_149 P) .nil .nil) .nil) (.node (O_117 P) (.node (O_181 P) .nil .nil) .nil))) (.node (O_29 P) (.node (O_45 P) (.node (O_77 P) (.node (O_141 P) .nil .nil) .nil) (.node (O_109 P) (.node (O_173 P) .nil .nil) .nil)) (.node (O_61 P) (.node (O_93 P) (.node (O_157 P) .nil .nil) .nil) (.node (O_125 P) (.node (O_189 P) .nil .nil) .nil)))))) (.node (O_2 P) (.node (oQ_4 P) (.node (oQ_8 P) (.node (oQ_16 P) (.node (O_32 P) (.node (O_64 P) (.node (O_128 P) .nil .nil) (.node (O_192 P) .nil .nil)) (.node (O_96 P) (.node (O_160 P) .nil .nil) .nil)) (.node (O_48 P) (.node (O_80 P) (.node (O_144 P) .nil .nil) .nil) (.node (O_112 P) (.node (O_176 P) .nil .nil) .nil))) (.node (oQ_24 P) (.node (O_40 P) (.node (O_72 P) (.node (O_136 P) .nil .nil) (.node (O_200 P) .nil .nil)) (.node (O_104 P) (.node (O_168 P) .nil .nil) .nil)) (.node (O_56 P) (.node (O_88 P) (.node (O_152 P) .nil .nil) .nil) (.node (O_120 P) (.node (O_184 P) .nil .nil) .nil)))) (.node (oQ_12 P) (.node (oQ_20 P) (.node (O_36 P) (.node (O_68 P) (.node (O_132 P) .nil .nil) (.node (O_196 P) .nil .nil)) (.node (O_100 P) (.node (O_164 P) .nil .nil) .nil)) (.node (O_52 P) (.node (O_84 P) (.node (O_148 P) .nil .nil) .nil) (.node (O_116 P) (.node (O_180 P) .nil .nil) .nil))) (.node (O_28 P) (.node (O_44 P) (.node (O_76 P) (.node (O_140 P) .nil .nil) (.node (O_204 P) .nil .nil)) (.node (O_108 P) (.node (O_172 P) .nil .nil) .nil)) (.node (O_60 P) (.node (O_92 P) (.node (O_156 P) .nil .nil) .nil) (.node (O_124 P) (.node (O_188 P) .nil .nil) .nil))))) (.node (oQ_6 P) (.node (oQ_10 P) (.node (oQ_18 P) (.node (O_34 P) (.node (O_66 P) (.node (O_130 P) .nil .nil) (.node (O_194 P) .nil .nil)) (.node (O_98 P) (.node (O_162 P) .nil .nil) .nil)) (.node (O_50 P) (.node (O_82 P) (.node (O_146 P) .nil .nil) .nil) (.node (O_114 P) (.node (O_178 P) .nil .nil) .nil))) (.node (oQ_26 P) (.node (O_42 P) (.node (O_74 P) (.node (O_138 P) .nil .nil) (.node (O_202 P) .nil .nil)) (.node (O_106 P) (.node (O_170 P) .nil .nil) .nil)) (.node (O_58 P) (.node (O_90 P) (.node (O_154 P) .nil .nil) .nil) (.node (O_122 P) (.node (O_186 P) .nil .nil) .nil)))) (.node (oQ_14 P) (.node (oQ_22 P) (.node (O_38 P) (.node (O_70 P) (.node (O_134 P) .nil .nil) (.node (O_198 P) .nil .nil)) (.node (O_102 P) (.node (O_166 P) .nil .nil) .nil)) (.node (O_54 P) (.node (O_86 P) (.node (O_150 P) .nil .nil) .nil) (.node (O_118 P) (.node (O_182 P) .nil .nil) .nil))) (.node (O_30 P) (.node (O_46 P) (.node (O_78 P) (.node (O_142 P) .nil .nil) .nil) (.node (O_110 P) (.node (O_174 P) .nil .nil) .nil)) (.node (O_62 P) (.node (O_94 P) (.node (O_158 P) .nil .nil) .nil) (.node (O_126 P) (.node (O_190 P) .nil .nil) .nil)))))))
noncomputable def sI (P : Params) (os : OsState) : SharedT := ⟨tI P, 205, LFH, ⟨[]⟩, boot_drawn, 2726, os⟩
noncomputable def heapI (P : Params) : Heap := ⟨⟨[oQ_0 P, oQ_1 P, O_2 P, O_3 P, oQ_4 P, oQ_5 P, oQ_6 P, oQ_7 P, oQ_8 P, oQ_9 P, oQ_10 P, oS_11 P, oQ_12 P, oQ_13 P, oQ_14 P, oQ_15 P, oQ_16 P, oQ_17 P, oQ_18 P, oQ_19 P, oQ_20 P, oQ_21 P, oQ_22 P, oQ_23 P, oQ_24 P, oQ_25 P, oQ_26 P, oQ_27 P, O_28 P, O_29 P, O_30 P, O_31 P, O_32 P, O_33 P, O_34 P, O_35 P, O_36 P, O_37 P, O_38 P, O_39 P, O_40 P, O_41 P, O_42 P, O_43 P, O_44 P, O_45 P, O_46 P, O_47 P, O_48 P, O_49 P, O_50 P, O_51 P, O_52 P, O_53 P, O_54 P, O_55 P, O_56 P, O_57 P, O_58 P, O_59 P, O_60 P, O_61 P, O_62 P, O_63 P, O_64 P, O_65 P, O_66 P, O_67 P, O_68 P, O_69 P, O_70 P, O_71 P, O_72 P, O_73 P, O_74 P, O_75 P, O_76 P, O_77 P, O_78 P, O_79 P, O_80 P, O_81 P, O_82 P, O_83 P, O_84 P, O_85 P, O_86 P, O_87 P, O_88 P, O_89 P, O_90 P, O_91 P, O_92 P, O_93 P, O_94 P, O_95 P, O_96 P, O_97 P, O_98 P, O_99 P, O_100 P, O_101 P, O_102 P, O_103 P, O_104 P, O_105 P, O_106 P, O_107 P, O_108 P, O_109 P, O_110 P, O_111 P, O_112 P, O_113 P, O_114 P, O_115 P, O_116 P, O_117 P, O_118 P, O_119 P, O_120 P, O_121 P, O_122 P, O_123 P, O_124 P, O_125 P, O_126 P, O_127 P, O_128 P, O_129 P, O_130 P, O_131 P, O_132 P, O_133 P, O_134 P, O_135 P, O_136 P, O_137 P, O_138 P, O_139 P, O_140 P, O_141 P, O_142 P, O_143 P, O_144 P, O_145 P, O_146 P, O_147 P, O_148 P, O_149 P, O_150 P, O_151 P, O_152 P, O_153 P, O_154 P, O_155 P, O_156 P, O_157 P, O_158 P, O_159 P, O_160 P, O_161 P, O_162 P, O_163 P, O_164 P, O_165 P, O_166 P, O_167 P, O_168 P, O_169 P, O_170 P, O_171 P, O_172 P, O_173 P, O_174 P, O_175 P, O_176 P, O_177 P, O_178 P, O_179 P, O_180 P, O_181 P, O_182 P, O_183 P, O_184 P, O_185 P, O_186 P, O_187 P, O_188 P, O_189 P, O_190 P, O_191 P, O_192 P, O_193 P, O_194 P, O_195 P, O_196 P, O_197 P, O_198 P, O_199 P, O_200 P, O_201 P, O_202 P, O_203 P, O_204 P]⟩, LFH⟩
theorem segT_of {p : Program} {w : World} {n₀ : Nat} {ann : Option Value} {b n : Nat} {s : SharedT} {t : Thread} {r : Option (Flow × SharedT × Code × Pos)} (h : PySem.W.Fast.tw10110043849684766642 PySem.W.Fast.tw14364793385576792824 p w n₀ ann b n s t = r) :
    segRunT treeTable p w n₀ ann b n s t = r := by
  rw [PySem.W.Fast.te10110043849684766642, PySem.W.Fast.te14364793385576792824]; exact h
end
section
theorem kA : ∀ w : World, (fun os : OsState => PySem.W.Fast.tw10110043849684766642 PySem.W.Fast.tw14364793385576792824 PW w 28 annH 1 413 (sR w.params os) (piecesOf ((bodyH.drop 0).take 10) envH cH ⟨0, 0, 0, 0⟩ BH)) = fun os => some (.next, sA w.params os, cH, ⟨30, 0, 30, 8⟩) := by
  exact (byRow2 "special-get-raises" (fun w => by kernel_rfl) (fun w => by kernel_rfl))
theorem rA (w : World) (os : OsState) : segRun treeTable PW w 28 annH 1 413 (sR w.params os).abs (piecesOf ((bodyH.drop 0).take 10) envH cH ⟨0, 0, 0, 0⟩ BH) = some (.next, (sA w.params os).abs, cH, ⟨30, 0, 30, 8⟩) :=
  segRun_of (segT_of (congrFun (kA w) os))
end
section
theorem kB : ∀ w : World, (fun os : OsState => PySem.W.Fast.tw10110043849684766642 PySem.W.Fast.tw14364793385576792824 PW w 28 annH 1 999 (sA w.params os) (piecesOf ((bodyH.drop 10).take 1) envH cH ⟨30, 0, 30, 8⟩ BH)) = fun os => some (.next, sB w.params os, cH, ⟨31, 0, 31, 6⟩) := by
  exact (byRow2 "set-order" (byRow2 "special-get-raises" (fun w => by kernel_rfl) (fun w => by kernel_rfl)) (byRow2 "special-get-raises" (fun w => by kernel_rfl) (fun w => by kernel_rfl)))
theorem rB (w : World) (os : OsState) : segRun treeTable PW w 28 annH 1 999 (sA w.params os).abs (piecesOf ((bodyH.drop 10).take 1) envH cH ⟨30, 0, 30, 8⟩ BH) = some (.next, (sB w.params os).abs, cH, ⟨31, 0, 31, 6⟩) :=
  segRun_of (segT_of (congrFun (kB w) os))
end
section
theorem kC : ∀ w : World, (fun os : OsState => PySem.W.Fast.tw10110043849684766642 PySem.W.Fast.tw14364793385576792824 PW w 28 annH 1 30 (sB w.params os) (piecesOf ((bodyH.drop 11).take 1) envH cH ⟨31, 0, 31, 6⟩ BH)) = fun os => some (.next, sC w.params os, cH, ⟨32, 0, 33, 30⟩) := by
  exact (fun w => by kernel_rfl)
theorem rC (w : World) (os : OsState) : segRun treeTable PW w 28 annH 1 30 (sB w.params os).abs (piecesOf ((bodyH.drop 11).take 1) envH cH ⟨31, 0, 31, 6⟩ BH) = some (.next, (sC w.params os).abs, cH, ⟨32, 0, 33, 30⟩) :=
  segRun_of (segT_of (congrFun (kC w) os))
end
section
theorem kE : ∀ w : World, (fun os : OsState => PySem.W.Fast.tw10110043849684766642 PySem.W.Fast.tw14364793385576792824 PW w 28 annH 1 481 (sD w.params os) (piecesOf ((bodyH.drop 13).take 51) envH cH ⟨34, 0, 34, 13⟩ BH)) = fun os => some (.next, sE w.params os, cH, ⟨89, 0, 89, 11⟩) := by
  exact (fun w => by kernel_rfl)
theorem rE (w : World) (os : OsState) : segRun treeTable PW w 28 annH 1 481 (sD w.params os).abs (piecesOf ((bodyH.drop 13).take 51) envH cH ⟨34, 0, 34, 13⟩ BH) = some (.next, (sE w.params os).abs, cH, ⟨89, 0, 89, 11⟩) :=
  segRun_of (segT_of (congrFun (kE w) os))
end
section
theorem kG : ∀ w : World, (fun os : OsState => PySem.W.Fast.tw10110043849684766642 PySem.W.Fast.tw14364793385576792824 PW w 28 annH 1 979 (sE w.params os) (piecesOf ((bodyH.drop 64).take 1) envH cH ⟨89, 0, 89, 11⟩ BH)) = fun os => some (.next, sG w.params os, cH, ⟨90, 0, 90, 17⟩) := by
  exact (byRow2 "special-get-raises" (fun w => by kernel_rfl) (fun w => by kernel_rfl))
theorem rG (w : World) (os : OsState) : segRun treeTable PW w 28 annH 1 979 (sE w.params os).abs (piecesOf ((bodyH.drop 64).take 1) envH cH ⟨89, 0, 89, 11⟩ BH) = some (.next, (sG w.params os).abs, cH, ⟨90, 0, 90, 17⟩) :=
  segRun_of (segT_of (congrFun (kG w) os))
end
section
theorem kI : ∀ w : World, (fun os : OsState => PySem.W.Fast.tw10110043849684766642 PySem.W.Fast.tw14364793385576792824 PW w 28 annH 1 360 (sG w.params os) (piecesOf ((bodyH.drop 65).take 13) envH cH ⟨90, 0, 90, 17⟩ BH)) = fun os => some (.next, sI w.params os, cH, ⟨212, 0, 232, 77⟩) := by
  exact (fun w => by kernel_rfl)
theorem rI (w : World) (os : OsState) : segRun treeTable PW w 28 annH 1 360 (sG w.params os).abs (piecesOf ((bodyH.drop 65).take 13) envH cH ⟨90, 0, 90, 17⟩ BH) = some (.next, (sI w.params os).abs, cH, ⟨212, 0, 232, 77⟩) :=
  segRun_of (segT_of (congrFun (kI w) os))
end
section
theorem kS : ∀ w : World, PySem.W.Fast.tw10274390034422433532 PySem.W.Fast.tw14364793385576792824 (opening PW) w 799 (PySem.W.Fast.tw1435165496053646825 (opening PW)).1 (PySem.W.Fast.tw1435165496053646825 (opening PW)).2 = some ⟨heapQ w.params, ⟨[]⟩, boot_drawn, 276, (start (opening PW)).1.os⟩ := by
  intro w; kernel_rfl
theorem fS : ∀ w : World, (fun os => (fenceModules? PW ⟨heapQ w.params, ⟨[]⟩, boot_drawn, 276, os⟩).map (fun s => (s.heap, s.gens, s.drawn, s.toks))) = fun _ : OsState => some (heapS w.params, ⟨[]⟩, boot_drawn, 276) := by
  intro w; kernel_rfl
theorem openS : ∀ w : World, (fencedOpening treeTable PW w 40000).map (fun s => (s.heap, s.gens, s.drawn, s.toks)) = some (heapS w.params, ⟨[]⟩, boot_drawn, 276) :=
  open_cut (M := 799) (fun w => by rw [PySem.W.Fast.te10274390034422433532, PySem.W.Fast.te14364793385576792824, PySem.W.Fast.te1435165496053646825]; exact kS w) rfl fS
end
section
noncomputable def XtH : Shared → Bool := fun s => xlAt qq [] s && recOk (RowW.records (PySem.Challenge.rw_uk0015_01.row.toRowW)) s
theorem sizeH : ∀ w : World, ((heapS w.params).isNs mainGlobals && (⟨[]⟩ : Array GenState).size == 0, (heapS w.params).objs.size, (heapS w.params).nsMap mainGlobals "__annotations__") = (true, 28, some (.ref 6)) := by
  intro w; kernel_rfl
theorem preH : ∀ w : World, (fun os : OsState => topGo treeTable PW w 28 annH 12 ⟨heapS w.params, ⟨[]⟩, boot_drawn, 276, os⟩ (topStub PW)) = fun os => some (⟨heapR w.params, ⟨[]⟩, boot_drawn, 282, os⟩, ⟨denote treeTable cH, cH, ⟨0, 0, 0, 0⟩, BH⟩) := by
  intro w; kernel_rfl
theorem blockH : ∀ w : World, (fun os : OsState => segRun treeTable PW w 28 annH 1 1 ⟨heapR w.params, ⟨[]⟩, boot_drawn, 282, os⟩ (blockOf bodyH envH cH ⟨0, 0, 0, 0⟩ BH)) = fun os => some (.next, (sR w.params os).abs, cH, ⟨0, 0, 0, 0⟩) := by
  intro w; kernel_rfl
theorem finH : ∀ w : World, (fun os : OsState => topRun treeTable PW w 28 annH 2 (sI w.params os).abs ⟨doneF .next, cH, ⟨212, 0, 232, 77⟩, BH⟩) = fun os => some ⟨heapI w.params, ⟨[]⟩, boot_drawn, 2726, os⟩ := by
  intro w; kernel_rfl
end
section
noncomputable def Ev {α : Type} (w : World) (n : Nat) (s : Shared) (pos : Pos) (x : Sem α) (a : α) (s' : Shared) (pos' : Pos) : Prop :=
  ∀ (K : α → Sem Fin) (H : Value → Sem Fin) (gd : Bool → Bool) (lv : List Value → List Value) (N : Nat) (r : Flow × Shared × Code × Pos),
    segRun treeTable PW w 28 annH 1 N s' ⟨K a, cH, pos', BH⟩ = some r → segRun treeTable PW w 28 annH 1 (n + N) s ⟨x.wrap K H gd lv, cH, pos, BH⟩ = some r
theorem seg_step {w : World} {N : Nat} {s s₂ : Shared} {t t₂ : Thread} {r : Flow × Shared × Code × Pos} (he : endAt 1 t = none) (hk : stepOk 28 annH t = true)
    (hs : step (denote treeTable) PW w s t = .go s₂ t₂) (h : segRun treeTable PW w 28 annH 1 N s₂ t₂ = some r) : segRun treeTable PW w 28 annH 1 (N + 1) s t = some r := by
  unfold segRun; rw [he, hk, hs]; exact h
section
variable {α β : Type} {w : World} {n m : Nat} {s s₁ s' : Shared} {pos pos₁ pos' : Pos} {a : α} {b : β}
theorem Ev.pure : Ev w 0 s pos (Sem.pure a) a s pos := by
  intro K H gd lv N r h; rw [Nat.zero_add]; exact h
theorem Ev.to {x y : Sem α} (e : x = y) (h : Ev w n s pos y a s' pos') : Ev w n s pos x a s' pos' := e ▸ h
theorem Ev.num {x : Sem α} (h : Ev w m s pos x a s' pos') (e : m = n) : Ev w n s pos x a s' pos' := e ▸ h
theorem Ev.bind' {x : Sem α} {f : α → Sem β} (hx : Ev w n s pos x a s₁ pos₁) (hf : Ev w m s₁ pos₁ (f a) b s' pos') : Ev w (n + m) s pos (x.bind f) b s' pos' := by
  intro K H gd lv N r h
  rw [Sem.bind_eq_wrap, Sem.wrap_wrap, Nat.add_assoc]
  exact hx _ _ _ _ _ _ (hf K H gd lv N r h)
theorem Ev.bind {x : Sem α} {f : α → Sem β} (hx : Ev w n s pos x a s₁ pos₁) (hf : Ev w m s₁ pos₁ (f a) b s' pos') : Ev w (n + m) s pos (x >>= f) b s' pos' := Ev.bind' hx hf
theorem Ev.keep {x : Sem α} {vs : List Value} (hx : Ev w n s pos x a s' pos') : Ev w n s pos (x.keep vs) a s' pos' := by
  intro K H gd lv N r h
  rw [Sem.keep_eq_wrap, Sem.wrap_wrap]
  exact hx _ _ _ _ _ _ h
theorem Ev.holding {x : Sem α} {vs : List Value} (hx : Ev w n s pos x a s' pos') : Ev w n s pos (holding vs x) a s' pos' := by
  unfold PySem.holding
  split
  · exact hx
  · exact hx.keep
theorem Ev.onRaise {x : Sem α} {g : Value → Sem Unit} (hx : Ev w n s pos x a s' pos') : Ev w n s pos (x.onRaise g) a s' pos' := by
  intro K H gd lv N r h
  rw [Sem.onRaise_eq_wrap, Sem.wrap_wrap]
  exact hx _ _ _ _ _ _ h
theorem Ev.rule {tg : String} {k : Unit → Sem α} (h : Ev w n s pos (k ()) a s' pos') : Ev w (n + 1) s pos (.rule tg k) a s' pos' := by
  intro K H gd lv N r hN
  rw [show n + 1 + N = n + N + 1 by omega]
  exact seg_step rfl rfl rfl (h K H gd lv N r hN)
theorem Ev.at {p : Pos} {k : Unit → Sem α} (h : Ev w n s p (k ()) a s' pos') : Ev w (n + 1) s pos (.at p k) a s' pos' := by
  intro K H gd lv N r hN
  rw [show n + 1 + N = n + N + 1 by omega]
  exact seg_step rfl rfl rfl (h K H gd lv N r hN)
theorem Ev.ask {k : Setting → Sem α} (h : Ev w n s pos (k ⟨PW, w.params⟩) a s' pos') : Ev w (n + 1) s pos (.ask k) a s' pos' := by
  intro K H gd lv N r hN
  rw [show n + 1 + N = n + N + 1 by omega]
  exact seg_step rfl rfl rfl (h K H gd lv N r hN)
theorem Ev.fresh {hp : Heap} {gs : Array GenState} {dr : Drawn} {tk : Nat} {os : OsState} {k : Tok → Sem α} (h : Ev w n ⟨hp, gs, dr, tk + 1, os⟩ pos (k tk) a s' pos') : Ev w (n + 1) ⟨hp, gs, dr, tk, os⟩ pos (.fresh k) a s' pos' := by
  intro K H gd lv N r hN
  rw [show n + 1 + N = n + N + 1 by omega]
  exact seg_step rfl rfl rfl (h K H gd lv N r hN)
theorem Ev.alloc {hp : Heap} {gs : Array GenState} {dr : Drawn} {tk : Nat} {os : OsState} {o : Obj} {k : Addr → Sem α} (h : Ev w n ⟨hp.push o, gs, dr, tk, os⟩ pos (k hp.objs.size) a s' pos') : Ev w (n + 1) ⟨hp, gs, dr, tk, os⟩ pos (.alloc o k) a s' pos' := by
  intro K H gd lv N r hN
  rw [show n + 1 + N = n + N + 1 by omega]
  exact seg_step rfl rfl rfl (h K H gd lv N r hN)
theorem Ev.load {hp : Heap} {gs : Array GenState} {dr : Drawn} {tk : Nat} {os : OsState} {o : Obj} {d : Addr} {part : Option Value} {k : Obj → Sem α} (e : hp.get? d = some o) (h : Ev w n ⟨hp, gs, dr, tk, os⟩ pos (k o) a s' pos') : Ev w (n + 1) ⟨hp, gs, dr, tk, os⟩ pos (.load d part k) a s' pos' := by
  intro K H gd lv N r hN
  rw [show n + 1 + N = n + N + 1 by omega]
  exact seg_step rfl rfl (by show (match hp.get? d with | some o => _ | none => _) = _; rw [e]) (h K H gd lv N r hN)
theorem Ev.update {hp : Heap} {gs : Array GenState} {dr : Drawn} {tk : Nat} {os : OsState} {d : Addr} {part : Option Value} {f : Obj → Obj} {k : Unit → Sem α} (e : (hp.get? d).isSome = true) (hd : Nat.ble 28 d = true) (h : Ev w n ⟨hp.update d f, gs, dr, tk, os⟩ pos (k ()) a s' pos') : Ev w (n + 1) ⟨hp, gs, dr, tk, os⟩ pos (.update d part f k) a s' pos' := by
  intro K H gd lv N r hN
  rw [show n + 1 + N = n + N + 1 by omega]
  refine seg_step rfl ?_ ?_ (h K H gd lv N r hN)
  · show (true && (Nat.ble 28 d || _ || _ || _)) = true
    rw [hd]; rfl
  · show (if (hp.get? d).isSome then _ else _) = _
    rw [if_pos e]
end
noncomputable def Hp (l : List Obj) : Heap := ⟨⟨l⟩, LFH⟩
noncomputable def Sh (l : List Obj) (tk : Nat) (os : OsState) : Shared := ⟨Hp l, ⟨[]⟩, boot_drawn, tk, os⟩
theorem hp_get {pre post : List Obj} {es : List DictEntry} {n : Nat} {d : Addr} (hd : d = pre.length) : (Hp (pre ++ dictO es n :: post)).get? d = some (dictO es n) := by
  subst hd
  have : (Hp (pre ++ dictO es n :: post)).objs[pre.length]? = some (dictO es n) := by
    show (⟨pre ++ dictO es n :: post⟩ : Array Obj)[pre.length]? = _
    simp
  unfold Heap.get?
  rw [this]
  rfl
theorem hp_update {pre post : List Obj} {es : List DictEntry} {n : Nat} {d : Addr} {f : Obj → Obj} (hd : d = pre.length) : (Hp (pre ++ dictO es n :: post)).update d f = Hp (pre ++ f (dictO es n) :: post) := by
 walk_at "ST"
 case oTag =>
  subst hd
  show Heap.mk ((⟨pre ++ dictO es n :: post⟩ : Array Obj).modify pre.length f) LFH = Heap.mk _ LFH
  congr 1
  apply Array.ext_getElem?
  intro i
  rw [Array.getElem?_modify]
  simp only [List.getElem?_toArray]
  rcases Nat.lt_trichotomy i pre.length with h | h | h
  · rw [if_neg (by omega), List.getElem?_append_left h, List.getElem?_append_left h]
  · subst h; simp
  · rw [if_neg (by omega), List.getElem?_append_right (by omega), List.getElem?_append_right (by omega)]
    obtain ⟨k, hk⟩ : ∃ k, i - pre.length = k + 1 := ⟨i - pre.length - 1, by omega⟩
    rw [hk]; rfl
 walk_at "EN"
theorem hp_push {l : List Obj} {o : Obj} : (Hp l).push o = Hp (l ++ [o]) := by
  show Heap.mk ((⟨l⟩ : Array Obj).push o) LFH = Heap.mk _ LFH
  simp
end
section
section
variable {w : World} {pos : Pos} {os : OsState}
theorem den_call (i : Int) (t : Tok) : denote treeTable (.call (.builtin "int.__hash__") ⟨[.int i t], []⟩) = .pure (.again (.builtin "int.__hash__" ⟨[.int i t], []⟩)) := by kernel_rfl
theorem den_hash (i : Int) (t : Tok) : denote treeTable (.builtin "int.__hash__" ⟨[.int i t], []⟩) = .fresh fun tk => .pure (.done (.ret (.int (rawHash i) tk))) := by kernel_rfl
theorem rawHash_small {i : Int} (h0 : 0 ≤ i) (h1 : i < 2 ^ 60) : rawHash i = i := by
  unfold rawHash
  dsimp only
  have h2 : ((i.natAbs : Nat) : Int) % ((2 ^ 61 - 1 : Nat) : Int) = i := by omega
  rw [h2, if_neg (show ¬ i < 0 by omega)]
  rw [if_neg]
  intro h
  have := eq_of_beq h
  omega
theorem special_hash (i : Int) (t : Tok) : specialOf (.int i t) "__hash__" = Sem.pure (some (.builtin "int.__hash__")) := by kernel_rfl
theorem bind_hash (i : Int) (t : Tok) : bindSpecial (.builtin "int.__hash__") (.int i t) = Sem.pure (.builtin "int.__hash__", [.int i t]) := by kernel_rfl
theorem ev_call_hash {hp : Heap} {tk : Nat} {i : Int} {t : Tok} : Ev w 4 ⟨hp, ⟨[]⟩, boot_drawn, tk, os⟩ pos (call (.builtin "int.__hash__") [.int i t]) (.int (rawHash i) tk) ⟨hp, ⟨[]⟩, boot_drawn, tk + 1, os⟩ pos := by
 walk_at "ST"
 case oTag =>
  intro K H gd lv N r hN
  rw [show 4 + N = N + 1 + 1 + 1 + 1 by omega]
  refine seg_step (t₂ := ⟨denote treeTable (.call (.builtin "int.__hash__") ⟨[.int i t], []⟩), _, _, _⟩) rfl rfl rfl ?_
  rw [den_call]
  refine seg_step (t₂ := ⟨denote treeTable (.builtin "int.__hash__" ⟨[.int i t], []⟩), _, _, _⟩) rfl (by kernel_rfl) rfl ?_
  rw [den_hash]
  refine seg_step rfl (by kernel_rfl) rfl ?_
  exact seg_step rfl (by kernel_rfl) rfl hN
 walk_at "EN"
theorem ev_pyHash {hp : Heap} {tk : Nat} {i : Int} {t : Tok} (h0 : 0 ≤ i) (h1 : i < 2 ^ 60) : Ev w 5 ⟨hp, ⟨[]⟩, boot_drawn, tk, os⟩ pos (pyHash (.int i t)) i ⟨hp, ⟨[]⟩, boot_drawn, tk + 1, os⟩ pos := by
 walk_at "ST"
 case oTag =>
  have hr : pyHashByItsType.reduced i = Sem.pure i := by
    unfold pyHashByItsType.reduced
    rw [if_pos (by rw [decide_eq_true (show -(2 ^ 63 : Int) ≤ i by omega), decide_eq_true (show i < 2 ^ 63 by omega)]; rfl), if_neg]
    · rfl
    · intro h; have := eq_of_beq h; omega
  have hb : Ev w 1 ⟨hp, ⟨[]⟩, boot_drawn, tk, os⟩ pos (bindSpecialIfBound? (.int i t) "__hash__") (some (.builtin "int.__hash__", [.int i t])) ⟨hp, ⟨[]⟩, boot_drawn, tk, os⟩ pos := by
    unfold bindSpecialIfBound?
    rw [special_hash]
    refine Ev.num (m := 0 + (1 + 0)) (Ev.bind Ev.pure ?_) rfl
    refine Ev.bind (a := ⟨PW, w.params⟩) (Ev.ask Ev.pure) ?_
    rw [bind_hash]
    dsimp only
    split
    · exact Ev.pure
    · exact Ev.pure
  show Ev w (0 + (0 + (0 + (5 + 0)))) _ _ (pyHashByItsType (.int i t)) _ _ _
  unfold pyHashByItsType
  refine Ev.bind (a := ()) (Ev.to (by rfl) Ev.pure) ?_
  refine Ev.bind (a := some (.builtin "int.__hash__")) (Ev.to (special_hash i t) Ev.pure) ?_
  dsimp only
  rw [if_neg (by decide)]
  refine Ev.bind (a := some (.builtin "int.__hash__")) (Ev.to (special_hash i t) Ev.pure) ?_
  rw [if_neg (by decide)]
  refine Ev.bind (a := some (.int (rawHash i) tk)) (n := 5) (s₁ := ⟨hp, ⟨[]⟩, boot_drawn, tk + 1, os⟩) (pos₁ := pos) ?_ ?_
  · unfold callSpecialIfBoundUnlessNone?
    refine Ev.holding ?_
    refine Ev.num (m := 1 + (4 + 0)) (Ev.bind hb ?_) rfl
    dsimp only
    rw [if_neg (by decide)]
    exact Ev.bind ev_call_hash Ev.pure
  · dsimp only
    rw [rawHash_small h0 h1, hr]
    exact Ev.pure
 walk_at "EN"
end
end
section
section
variable {w : World} {pos : Pos} {os : OsState}
theorem places_none {es : List DictEntry} {h : Int} (hn : ∀ e ∈ es, e.hash ≠ h) : placesWithHash es.toArray.size (fun i => es.toArray[i]?.map (·.hash)) h = [] := by
  unfold placesWithHash
  rw [List.filter_eq_nil_iff]
  intro i _
  simp only [List.getElem?_toArray, beq_iff_eq]
  intro q
  cases e : es[i]? with
  | none => rw [e] at q; cases q
  | some x =>
    rw [e] at q
    injection q with q
    exact hn x (List.mem_of_getElem? e) q
theorem ev_dictFind {l : List Obj} {tk n : Nat} {es : List DictEntry} {d : Addr} {i : Int} {t : Tok} (ho : (Hp l).get? d = some (dictO es n)) (hn : ∀ e ∈ es, e.hash ≠ i) : Ev w 1 (Sh l tk os) pos (dictFind d (.int i t) i) none (Sh l tk os) pos := by
 walk_at "ST"
 case oTag =>
  unfold dictFind
  refine Ev.holding ?_
  refine Ev.num (m := 1 + 0) (Ev.bind (a := es.toArray) (s₁ := Sh l tk os) (pos₁ := pos) ?_ ?_) rfl
  · exact Ev.load ho Ev.pure
  · dsimp only
    rw [places_none hn]
    exact Ev.pure
 walk_at "EN"
theorem ev_keys {pre post : List Obj} {tk n : Nat} {es : List DictEntry} {e : DictEntry} {d : Addr} {part : Option Value} (hd : d = pre.length) (hb : 28 ≤ d) (hl : es.length < 16777216) :
    Ev w 3 (Sh (pre ++ dictO es n :: post) tk os) pos (updateDictKeys d (·.push e) part) () (Sh (pre ++ dictO (es ++ [e]) (n + 1) :: post) tk os) pos := by
 walk_at "ST"
 case oTag =>
  unfold updateDictKeys
  have hu : (Hp (pre ++ dictO es n :: post)).update d (Obj.mapDictKeys (·.push e)) = Hp (pre ++ dictO (es ++ [e]) (n + 1) :: post) := by
    rw [hp_update hd]
    have : Obj.mapDictKeys (·.push e) (dictO es n) = dictO (es ++ [e]) (n + 1) := by
      show Obj.mk _ _ (.dict (es.toArray.push e) (n + 1)) _ = Obj.mk _ _ (.dict (es ++ [e]).toArray (n + 1)) _
      simp
    rw [this]
  have hp : (dictO (es ++ [e]) (n + 1)).data.pastItsLine = none := by
    show (if (es ++ [e]).toArray.size > sizeLine + 1 then some "dict:memory" else none) = none
    rw [if_neg (by simp [sizeLine]; omega)]
  refine Ev.load (hp_get hd) ?_
  refine Ev.update (by rw [hp_get hd]; rfl) (Nat.ble_eq_true_of_le hb) ?_
  rw [hu]
  refine Ev.load (hp_get hd) ?_
  show Ev w 0 _ pos (match (dictO (es ++ [e]) (n + 1)).data.pastItsLine with | some what => unsupported what | _ => Sem.pure ()) () _ pos
  rw [hp]
  exact Ev.pure
 walk_at "EN"
theorem ev_set {pre post : List Obj} {tk n : Nat} {es : List DictEntry} {d : Addr} {i : Int} {t u : Tok} {x : Str} (hd : d = pre.length) (hb : 28 ≤ d) (hl : es.length < 16777216) (h0 : 0 ≤ i) (h1 : i < 2 ^ 60) (hn : ∀ e ∈ es, e.hash ≠ i) :
    Ev w 10 (Sh (pre ++ dictO es n :: post) tk os) pos (dictSet d (.int i t) (.str x u)) () (Sh (pre ++ dictO (es ++ [⟨i, .int i t, .str x u⟩]) (n + 1) :: post) (tk + 1) os) pos := by
  unfold dictSet
  refine Ev.holding ?_
  refine Ev.num (m := 5 + 5) (Ev.bind (ev_pyHash h0 h1) ?_) rfl
  unfold dictSetHashed
  refine Ev.holding ?_
  refine Ev.num (m := 1 + 4) (Ev.bind (ev_dictFind (tk := tk + 1) (hp_get hd) hn) ?_) rfl
  dsimp only
  refine Ev.num (m := 1 + 3) (Ev.bind (Ev.rule Ev.pure) ?_) rfl
  exact ev_keys hd hb hl
noncomputable def kSem (env : Env) (pr : Int × Str) : Sem Value := constValue env (.int pr.1)
noncomputable def vSem (env : Env) (q : Pos) (pr : Int × Str) : Sem Value := do let x ← constValue env (.str pr.2); standAt q; pure x
theorem ev_k {l : List Obj} {tk : Nat} {env : Env} {pr : Int × Str} : Ev w 1 (Sh l tk os) pos (kSem env pr) (.int pr.1 tk) (Sh l (tk + 1) os) pos := Ev.fresh Ev.pure
theorem ev_v {l : List Obj} {tk : Nat} {env : Env} {pr : Int × Str} {q : Pos} : Ev w 2 (Sh l tk os) pos (vSem env q pr) (.str pr.2 tk) (Sh l (tk + 1) os) q := Ev.fresh (Ev.at Ev.pure)
theorem ev_long {pre post : List Obj} {d : Addr} (hd : d = pre.length) (hb : 28 ≤ d) (env : Env) (q : Pos) : ∀ (ps : List (Int × Str)) (tk n : Nat) (es : List DictEntry) (pos : Pos), (es.map (·.hash) ++ ps.map (·.1)).Nodup → (∀ p ∈ ps, 0 ≤ p.1 ∧ p.1 < 2 ^ 60) → es.length + ps.length < 16777216 →
    Ev w (13 * ps.length) (Sh (pre ++ dictO es n :: post) tk os) pos (forIn (ps.map (fun p => (kSem env p, vSem env q p))) PUnit.unit fun x _ => match x with
      | (k, v) => do
        let kv ← k
        let vv ← holding [kv] v
        holding [kv, vv] (dictSet d kv vv)
        pure (ForInStep.yield PUnit.unit)) PUnit.unit (Sh (pre ++ dictO (es ++ entsL tk ps) (n + ps.length) :: post) (tk + 3 * ps.length) os) (if ps = [] then pos else q)
  | [], tk, n, es, pos, _, _, _ => by
      show Ev w 0 (Sh (pre ++ dictO es n :: post) tk os) pos (Sem.pure ()) () (Sh (pre ++ dictO (es ++ []) n :: post) tk os) pos
      rw [List.append_nil]; exact Ev.pure
  | p :: ps, tk, n, es, pos, hN, hB, hL => by
    have hp := hB p (List.mem_cons_self ..)
    have hn : ∀ e ∈ es, e.hash ≠ p.1 := by
      intro e he q
      rw [List.map_cons, List.nodup_append] at hN
      exact hN.2.2 _ (List.mem_map_of_mem he) _ (List.mem_cons_self ..) q
    rw [List.length_cons] at hL
    have h := ev_long (post := post) hd hb env q ps (tk + 3) (n + 1) (es ++ [⟨p.1, .int p.1 tk, .str p.2 (tk + 1)⟩]) q (by
      rw [List.map_append, List.append_assoc]; exact hN) (fun x hx => hB x (List.mem_cons_of_mem _ hx)) (by rw [List.length_append, List.length_singleton]; omega)
    have e : es ++ entsL tk (p :: ps) = es ++ [⟨p.1, .int p.1 tk, .str p.2 (tk + 1)⟩] ++ entsL (tk + 3) ps := by rw [List.append_assoc]; rfl
    rw [show (if ps = [] then q else q) = q by split <;> rfl] at h
    rw [e, List.length_cons, show n + (ps.length + 1) = n + 1 + ps.length by omega, show tk + 3 * (ps.length + 1) = tk + 3 + 3 * ps.length by omega, show 13 * (ps.length + 1) = 13 + 13 * ps.length by omega, if_neg (show ¬ (p :: ps = []) by simp)]
    rw [List.map_cons, List.forIn_cons]
    refine Ev.bind (a := ForInStep.yield PUnit.unit) ?_ h
    exact Ev.num (m := 1 + (2 + (10 + 0))) (Ev.bind ev_k (Ev.bind (Ev.holding ev_v) (Ev.bind (Ev.holding (ev_set hd hb (by omega) hp.1 hp.2 hn)) Ev.pure))) rfl
end
end
section
theorem ev_subLong {w : World} {pos q : Pos} {os : OsState} {env : Env} {l : List Obj} {tk : Nat} {ps : List (Int × Str)} (hl : 28 ≤ l.length) (h15 : 15 < ps.length) (hN : (ps.map (·.1)).Nodup) (hB : ∀ p ∈ ps, 0 ≤ p.1 ∧ p.1 < 2 ^ 60) (hL : ps.length < 16777216) :
    Ev w (13 * ps.length + 2) (Sh l tk os) pos (subDict (ps.map (fun p => (kSem env p, vSem env q p)))) l.length (Sh (l ++ [dictO (entsL tk ps) ps.length]) (tk + 3 * ps.length) os) q := by
 walk_at "ST"
 case oTag =>
  unfold subDict
  refine Ev.num (m := 1 + ((1 + (13 * ps.length + 0)) + 0)) ?_ (by omega)
  refine Ev.bind (a := l.length) (s₁ := Sh (l ++ [dictO [] 0]) tk os) (pos₁ := pos) ?_ ?_
  · refine Ev.alloc ?_
    rw [hp_push]
    exact Ev.pure
  · have h := ev_long (w := w) (os := os) (post := []) (d := l.length) rfl hl env q ps tk 0 [] pos hN hB (by simpa using hL)
    rw [List.nil_append, Nat.zero_add, if_neg (by intro h; rw [h] at h15; cases h15)] at h
    refine Ev.bind (a := ()) (Ev.holding ?_) Ev.pure
    rw [if_neg (by rw [List.length_map]; omega)]
    refine Ev.bind (Ev.rule Ev.pure) ?_
    exact Ev.bind h Ev.pure
 walk_at "EN"
noncomputable def valsS : Nat → List (Int × Str) → List (Value × Value)
  | _, [] => []
  | k, (i, s) :: r => (.int i k, .str s (k + 1)) :: valsS (k + 2) r
theorem ev_pairs {w : World} {os : OsState} {env : Env} {l : List Obj} {q : Pos} : ∀ (ps : List (Int × Str)) (tk : Nat) (pos : Pos), Ev w (3 * ps.length) (Sh l tk os) pos (evalPairs (ps.map (fun p => (kSem env p, vSem env q p)))) (valsS tk ps) (Sh l (tk + 2 * ps.length) os) (if ps = [] then pos else q)
  | [], tk, pos => Ev.pure
  | p :: ps, tk, pos => by
    have h := ev_pairs (w := w) (os := os) (env := env) (l := l) (q := q) ps (tk + 2) q
    rw [show (if ps = [] then q else q) = q by split <;> rfl] at h
    rw [if_neg (show ¬ (p :: ps = []) by simp), List.length_cons, show tk + 2 * (ps.length + 1) = tk + 2 + 2 * ps.length by omega]
    refine Ev.num (m := 1 + (2 + (3 * ps.length + 0))) ?_ (by omega)
    exact Ev.bind ev_k (Ev.bind (Ev.holding ev_v) (Ev.bind (Ev.holding h) Ev.pure))
theorem ev_sets {w : World} {os : OsState} {pre post : List Obj} {d : Addr} (hd : d = pre.length) (hb : 28 ≤ d) : ∀ (ps : List (Int × Str)) (tk tv n : Nat) (es : List DictEntry) (pos : Pos), (es.map (·.hash) ++ ps.map (·.1)).Nodup → (∀ p ∈ ps, 0 ≤ p.1 ∧ p.1 < 2 ^ 60) → es.length + ps.length < 16777216 →
    Ev w (10 * ps.length) (Sh (pre ++ dictO es n :: post) tk os) pos (forIn (valsS tv ps) PUnit.unit fun x _ => match x with
      | (k, v) => do
        dictSet d k v
        pure (ForInStep.yield PUnit.unit)) PUnit.unit (Sh (pre ++ dictO (es ++ entsS tv ps) (n + ps.length) :: post) (tk + ps.length) os) pos
  | [], tk, tv, n, es, pos, _, _, _ => by
      show Ev w 0 (Sh (pre ++ dictO es n :: post) tk os) pos (Sem.pure ()) () (Sh (pre ++ dictO (es ++ []) n :: post) tk os) pos
      rw [List.append_nil]; exact Ev.pure
  | p :: ps, tk, tv, n, es, pos, hN, hB, hL => by
    have hp := hB p (List.mem_cons_self ..)
    have hn : ∀ e ∈ es, e.hash ≠ p.1 := by
      intro e he q
      rw [List.map_cons, List.nodup_append] at hN
      exact hN.2.2 _ (List.mem_map_of_mem he) _ (List.mem_cons_self ..) q
    rw [List.length_cons] at hL
    have h := ev_sets (w := w) (os := os) (post := post) hd hb ps (tk + 1) (tv + 2) (n + 1) (es ++ [⟨p.1, .int p.1 tv, .str p.2 (tv + 1)⟩]) pos (by
      rw [List.map_append, List.append_assoc]; exact hN) (fun x hx => hB x (List.mem_cons_of_mem _ hx)) (by rw [List.length_append, List.length_singleton]; omega)
    have e : es ++ entsS tv (p :: ps) = es ++ [⟨p.1, .int p.1 tv, .str p.2 (tv + 1)⟩] ++ entsS (tv + 2) ps := by rw [List.append_assoc]; rfl
    rw [e, List.length_cons, show n + (ps.length + 1) = n + 1 + ps.length by omega, show tk + (ps.length + 1) = tk + 1 + ps.length by omega, show 10 * (ps.length + 1) = 10 + 10 * ps.length by omega]
    show Ev w _ _ _ (forIn ((.int p.1 tv, .str p.2 (tv + 1)) :: valsS (tv + 2) ps) _ _) _ _ _
    rw [List.forIn_cons]
    refine Ev.bind (a := ForInStep.yield PUnit.unit) ?_ h
    exact Ev.num (m := 10 + 0) (Ev.bind (ev_set hd hb (by omega) hp.1 hp.2 hn) Ev.pure) rfl
theorem ev_subShort {w : World} {pos q : Pos} {os : OsState} {env : Env} {l : List Obj} {tk : Nat} {ps : List (Int × Str)} (hl : 28 ≤ l.length) (h15 : ps.length ≤ 15) (h0 : ps ≠ []) (hN : (ps.map (·.1)).Nodup) (hB : ∀ p ∈ ps, 0 ≤ p.1 ∧ p.1 < 2 ^ 60) :
    Ev w (13 * ps.length + 1) (Sh l tk os) pos (subDict (ps.map (fun p => (kSem env p, vSem env q p)))) l.length (Sh (l ++ [dictO (entsS tk ps) ps.length]) (tk + 3 * ps.length) os) q := by
 walk_at "ST"
 case oTag =>
  unfold subDict
  refine Ev.num (m := 1 + ((3 * ps.length + (10 * ps.length + 0)) + 0)) ?_ (by omega)
  refine Ev.bind (a := l.length) (s₁ := Sh (l ++ [dictO [] 0]) tk os) (pos₁ := pos) ?_ ?_
  · refine Ev.alloc ?_
    rw [hp_push]
    exact Ev.pure
  · have h := ev_sets (w := w) (os := os) (post := []) (d := l.length) rfl hl ps (tk + 2 * ps.length) tk 0 [] q hN hB (by simp; omega)
    have hp := ev_pairs (w := w) (os := os) (env := env) (l := l ++ [dictO [] 0]) (q := q) ps tk pos
    rw [if_neg h0] at hp
    rw [List.nil_append, Nat.zero_add, show tk + 2 * ps.length + ps.length = tk + 3 * ps.length by omega] at h
    refine Ev.bind (a := ()) (Ev.holding ?_) Ev.pure
    rw [if_pos (by rw [List.length_map]; exact h15)]
    refine Ev.bind hp ?_
    refine Ev.holding ?_
    exact Ev.bind h Ev.pure
 walk_at "EN"
end
section
theorem sub_dict : isSubtype (.type "dict") (.type "dict") = Sem.pure true := by rw [isSubtype_type]; kernel_rfl
theorem iter_dict : typeLookup (.type "dict") "__iter__" = Sem.pure (some (.builtin "dict.__iter__")) := by rw [typeLookup_type, builtinLookup_eq_fast]; kernel_rfl
theorem ev_typeOf {w : World} {os : OsState} {pos : Pos} {l : List Obj} {tk n : Nat} {es : List DictEntry} {a : Addr} (ho : (Hp l).get? a = some (dictO es n)) : Ev w 1 (Sh l tk os) pos (typeOf (.ref a)) (.type "dict") (Sh l tk os) pos := Ev.load ho Ev.pure
theorem ev_entries {w : World} {os : OsState} {pos : Pos} {l : List Obj} {tk n : Nat} {es : List DictEntry} {a : Addr} {part : Option Value} (ho : (Hp l).get? a = some (dictO es n)) : Ev w 1 (Sh l tk os) pos (dictEntries a part) es.toArray (Sh l tk os) pos := Ev.load ho Ev.pure
theorem ev_epoch {w : World} {os : OsState} {pos : Pos} {l : List Obj} {tk n : Nat} {es : List DictEntry} {a : Addr} {part : Option Value} (ho : (Hp l).get? a = some (dictO es n)) : Ev w 1 (Sh l tk os) pos (dictEpoch a part) n (Sh l tk os) pos := Ev.load ho Ev.pure
theorem hp_get2 {pre mid post : List Obj} {x : Obj} {es : List DictEntry} {n : Nat} {a : Addr} (ha : a = pre.length + 1 + mid.length) : (Hp (pre ++ x :: (mid ++ dictO es n :: post))).get? a = some (dictO es n) := by
  have : pre ++ x :: (mid ++ dictO es n :: post) = (pre ++ x :: mid) ++ dictO es n :: post := by simp
  rw [this]
  exact hp_get (by rw [List.length_append, List.length_cons, ha]; exact Nat.add_right_comm ..)
section
variable {w : World} {os : OsState} {pos : Pos} {pre mid : List Obj} {d a : Addr}
theorem ev_mloop (hd : d = pre.length) (ha : a = pre.length + 1 + mid.length) (hb : 28 ≤ d) {tk n m : Nat} {es se : List DictEntry} (hN : ((es ++ se).map (·.hash)).Nodup) (hK : ∀ e ∈ se, ∃ t, e.key = .int e.hash t) (hL : es.length + se.length < 16777216) : ∀ (r j : Nat), j + r = se.length →
    Ev w (6 * r) (Sh (pre ++ dictO (es ++ se.take j) (n + j) :: (mid ++ [dictO se m])) tk os) pos (forIn (List.range' j r) PUnit.unit fun i _ => do
      let some e := (← dictEntries a)[i]? | do
        unsupported "dict.changed-during-merge"
        pure (ForInStep.yield PUnit.unit)
      holding [e.key, e.val] do
        if false = true then
          if (← dictFind d e.key e.hash).isSome then rule "dict.merge.duplicate-key"; raiseNew (← newExc (.type "KeyError") [e.key])
        dictPut d e.hash e.key e.val
      if (← dictEpoch a) != m then unsupported "dict.changed-during-merge"
      pure (ForInStep.yield PUnit.unit)) PUnit.unit (Sh (pre ++ dictO (es ++ se) (n + se.length) :: (mid ++ [dictO se m])) tk os) pos
  | 0, j, e => by
    rw [Nat.add_zero] at e
    subst e
    rw [List.take_length]
    exact Ev.pure
  | r + 1, j, e => by
    have hj : j < se.length := by omega
    have ih := ev_mloop hd ha hb (tk := tk) (n := n) (m := m) hN hK hL r (j + 1) (by omega)
    obtain ⟨t, ht⟩ := hK se[j] (List.getElem_mem hj)
    have hn : ∀ x ∈ es ++ se.take j, x.hash ≠ se[j].hash := by
      have e1 : (es ++ se).map (·.hash) = (es ++ se.take j).map (·.hash) ++ (se[j].hash :: (se.drop (j + 1)).map (·.hash)) := by
        rw [← List.map_cons, ← List.map_append, List.append_assoc]
        congr 2
        rw [List.getElem_cons_drop, List.take_append_drop]
      rw [e1, List.nodup_append] at hN
      intro x hx q
      exact hN.2.2 _ (List.mem_map_of_mem hx) _ (List.mem_cons_self ..) q
    have e2 : es ++ se.take j ++ [se[j]] = es ++ se.take (j + 1) := by rw [List.append_assoc, List.take_succ_eq_append_getElem hj]
    rw [List.range'_succ, List.forIn_cons]
    refine Ev.num (m := 6 + 6 * r) ?_ (by omega)
    refine Ev.bind (a := ForInStep.yield PUnit.unit) ?_ ih
    refine Ev.num (m := 1 + (4 + (1 + 0))) (Ev.bind (ev_entries (hp_get2 ha)) ?_) rfl
    rw [List.getElem?_toArray, List.getElem?_eq_getElem hj]
    dsimp only
    have he : (⟨se[j].hash, .int se[j].hash t, se[j].val⟩ : DictEntry) = se[j] := by rw [← ht]
    refine Ev.bind (a := ()) (s₁ := Sh (pre ++ dictO (es ++ se.take (j + 1)) (n + (j + 1)) :: (mid ++ [dictO se m])) tk os) (pos₁ := pos) (Ev.holding ?_) ?_
    · rw [if_neg (by decide), ht]
      unfold dictPut
      refine Ev.num (m := 1 + 3) (Ev.bind (ev_dictFind (hp_get hd) hn) ?_) rfl
      dsimp only
      have := ev_keys (w := w) (os := os) (pos := pos) (tk := tk) (pre := pre) (post := mid ++ [dictO se m]) (n := n + j) (es := es ++ se.take j) (e := ⟨se[j].hash, .int se[j].hash t, se[j].val⟩) (part := none) hd hb (by rw [List.length_append, List.length_take]; omega)
      rw [he, e2, Nat.add_assoc] at this
      rw [← he] at this
      exact this
    · refine Ev.bind (ev_epoch (hp_get2 ha)) ?_
      rw [if_neg (by simp)]
      exact Ev.pure
theorem ev_merge (hd : d = pre.length) (ha : a = pre.length + 1 + mid.length) (hb : 28 ≤ d) {tk n m : Nat} {es se : List DictEntry} (h0 : es ≠ []) (hN : ((es ++ se).map (·.hash)).Nodup) (hK : ∀ e ∈ se, ∃ t, e.key = .int e.hash t) (hL : es.length + se.length < 16777216) :
    Ev w (6 * se.length + 5) (Sh (pre ++ dictO es n :: (mid ++ [dictO se m])) tk os) pos (mergeMapping d (.ref a) false) () (Sh (pre ++ dictO (es ++ se) (n + se.length) :: (mid ++ [dictO se m])) tk os) pos := by
 walk_at "ST"
 case oTag =>
  have hl := ev_mloop (w := w) (os := os) (pos := pos) (tk := tk) (n := n) (m := m) hd ha hb hN hK hL se.length 0 (Nat.zero_add _)
  rw [List.take_zero, List.append_nil, Nat.add_zero, ← List.range_eq_range'] at hl
  have hg : (Hp (pre ++ dictO es n :: (mid ++ [dictO se m]))).get? a = some (dictO se m) := hp_get2 ha
  unfold mergeMapping
  have hsys : ¬ ((a == sysModules) = true) := by
    intro h
    have h1 : a = 1 := eq_of_beq h
    have h2 : (1 : Nat) = pre.length + 1 + mid.length := h1.symm.trans ha
    have h3 : (28 : Nat) ≤ pre.length := hd ▸ hb
    omega
  have hemp : ¬ (es.toArray.isEmpty = true) := by
    cases es with
    | nil => exact absurd rfl h0
    | cons x r => simp
  refine Ev.num (m := (1 + 0) + ((1 + 0) + (0 + (1 + (1 + (1 + (6 * se.length + 0))))))) ?_ (by omega)
  refine Ev.bind (a := true) (s₁ := Sh (pre ++ dictO es n :: (mid ++ [dictO se m])) tk os) (pos₁ := pos) ?_ ?_
  · unfold isInstance
    exact Ev.bind (ev_typeOf hg) (Ev.to sub_dict Ev.pure)
  · dsimp only
    rw [if_pos rfl]
    refine Ev.bind (a := some (.builtin "dict.__iter__")) (s₁ := Sh (pre ++ dictO es n :: (mid ++ [dictO se m])) tk os) (pos₁ := pos) ?_ ?_
    · unfold specialOf
      exact Ev.bind (ev_typeOf hg) (Ev.to iter_dict Ev.pure)
    · refine Ev.bind (a := true) (Ev.to (by rfl) Ev.pure) ?_
      dsimp only
      rw [if_neg hsys]
      refine Ev.bind (ev_entries (hp_get hd)) ?_
      rw [if_neg hemp]
      refine Ev.bind (ev_entries hg) ?_
      refine Ev.bind (ev_epoch hg) ?_
      rw [List.size_toArray]
      exact Ev.bind hl Ev.pure
 walk_at "EN"
end
end
section
noncomputable def flushF (run : List (Sem Value × Sem Value)) (main : Option Addr) : Sem (Option Addr) := do
  if run.isEmpty then return main
  match main with
  | none => return some (← subDict run)
  | some d =>
    let sub ← holding [.ref d] (subDict run)
    (holding [.ref d, .ref sub] (mergeMapping d (.ref sub) false)).onRaise fun x => do let _ ← holding [.ref d, x] (runValue (.builtin "proto.let_go" {}))
    return some d
noncomputable def dloop : List (Sem Value × Sem Value) → Option Addr → List (Sem Value × Sem Value) → Sem Value
  | [], main, run => do match ← flushF run main with | some d => pure (.ref d) | none => newDict
  | p :: rest, main, run => if ((run ++ [p]).length == 17) = true then do let m ← flushF (run ++ [p]) main; dloop rest m [] else dloop rest main (run ++ [p])
theorem sem_assoc {α β γ : Type} (x : Sem α) (f : α → Sem β) (g : β → Sem γ) : (x >>= f) >>= g = x >>= fun a => f a >>= g := by
  show (x.bind f).bind g = x.bind fun a => (f a).bind g
  rw [Sem.bind_eq_wrap, Sem.bind_eq_wrap, Sem.wrap_wrap, Sem.bind_eq_wrap]
  refine Sem.wrap_congr _ _ _ (fun a => ?_) fun _ => rfl
  exact (Sem.bind_eq_wrap _ _).symm
theorem loop_general {F : (Option (Sem Value) × Sem Value) → (Option Addr × List (Sem Value × Sem Value)) → Sem (ForInStep (Option Addr × List (Sem Value × Sem Value)))} {Z : (Option Addr × List (Sem Value × Sem Value)) → Sem Value}
    (hF : ∀ k v main run, F (some k, v) (main, run) = if ((run ++ [(k, v)]).length == 17) = true then (do let m ← flushF (run ++ [(k, v)]) main; pure (ForInStep.yield (m, []))) else pure (ForInStep.yield (main, run ++ [(k, v)])))
    (hZ : ∀ main run, Z (main, run) = do match ← flushF run main with | some d => pure (.ref d) | none => newDict) :
    ∀ (ps : List (Sem Value × Sem Value)) main run, (forIn (ps.map fun p => (some p.1, p.2)) (main, run) F >>= Z) = dloop ps main run
  | [], main, run => hZ main run
  | p :: ps, main, run => by
    rw [List.map_cons, List.forIn_cons, sem_assoc, hF]
    unfold dloop
    split
    · rw [sem_assoc]
      show (flushF _ _).bind _ = (flushF _ _).bind _
      congr 1
      funext m
      exact loop_general hF hZ ps m []
    · exact loop_general hF hZ ps main _
theorem display_eq (ps : List (Sem Value × Sem Value)) : dictDisplay (ps.map fun p => (some p.1, p.2)) = dloop ps none [] := by
  unfold dictDisplay
  exact loop_general (fun _ _ _ _ => rfl) (fun _ _ => rfl) ps none []
theorem dloop_run : ∀ (c rest : List (Sem Value × Sem Value)) (main : Option Addr) (run : List (Sem Value × Sem Value)), c ≠ [] → run.length + c.length = 17 → dloop (c ++ rest) main run = do let m ← flushF (run ++ c) main; dloop rest m []
  | [], _, _, _, h, _ => absurd rfl h
  | [p], rest, main, run, _, h => by
    show dloop (p :: rest) main run = _
    rw [dloop, if_pos (by rw [List.length_append]; simpa using h)]
  | p :: p' :: c, rest, main, run, _, h => by
    show dloop (p :: (p' :: c ++ rest)) main run = _
    rw [dloop, if_neg (by rw [List.length_append]; simp only [List.length_cons, List.length_nil, beq_iff_eq] at h ⊢; omega), dloop_run (p' :: c) rest main (run ++ [p]) (by simp) (by rw [List.length_append]; simp only [List.length_cons, List.length_nil] at h ⊢; omega)]
    rw [List.append_assoc]; rfl
theorem dloop_last : ∀ (c : List (Sem Value × Sem Value)) (main : Option Addr) (run : List (Sem Value × Sem Value)), run.length + c.length < 17 → dloop c main run = do match ← flushF (run ++ c) main with | some d => pure (.ref d) | none => newDict
  | [], main, run, h => by rw [List.append_nil]; rfl
  | p :: c, main, run, h => by
    rw [dloop, if_neg (by rw [List.length_append]; simp only [List.length_cons, List.length_nil, beq_iff_eq] at h ⊢; omega), dloop_last c main (run ++ [p]) (by rw [List.length_append]; simp only [List.length_cons, List.length_nil] at h ⊢; omega)]
    rw [List.append_assoc]; rfl
end
section
theorem entsL_hash : ∀ (ps : List (Int × Str)) (tk : Nat), (entsL tk ps).map (·.hash) = ps.map (·.1)
  | [], _ => rfl
  | p :: ps, tk => by show p.1 :: _ = p.1 :: _; rw [entsL_hash ps]
theorem entsS_hash : ∀ (ps : List (Int × Str)) (tk : Nat), (entsS tk ps).map (·.hash) = ps.map (·.1)
  | [], _ => rfl
  | p :: ps, tk => by show p.1 :: _ = p.1 :: _; rw [entsS_hash ps]
theorem entsL_len (ps : List (Int × Str)) (tk : Nat) : (entsL tk ps).length = ps.length := by
  have := congrArg List.length (entsL_hash ps tk); simpa using this
theorem entsS_len (ps : List (Int × Str)) (tk : Nat) : (entsS tk ps).length = ps.length := by
  have := congrArg List.length (entsS_hash ps tk); simpa using this
theorem entsL_key : ∀ (ps : List (Int × Str)) (tk : Nat), ∀ e ∈ entsL tk ps, ∃ t, e.key = .int e.hash t
  | [], _ => fun _ h => nomatch h
  | p :: ps, tk => fun e h => by
    rcases List.mem_cons.mp h with rfl | h
    · exact ⟨_, rfl⟩
    · exact entsL_key ps _ e h
theorem entsS_key : ∀ (ps : List (Int × Str)) (tk : Nat), ∀ e ∈ entsS tk ps, ∃ t, e.key = .int e.hash t
  | [], _ => fun _ h => nomatch h
  | p :: ps, tk => fun e h => by
    rcases List.mem_cons.mp h with rfl | h
    · exact ⟨_, rfl⟩
    · exact entsS_key ps _ e h
noncomputable abbrev semP (env : Env) (q : Pos) (p : Int × Str) : Sem Value × Sem Value := (kSem env p, vSem env q p)
noncomputable def ENT : Nat → Nat → List (Int × Str) → List DictEntry
  | 0, tk, ps => entsS tk ps
  | k + 1, tk, ps => entsL tk (ps.take 17) ++ ENT k (tk + 51) (ps.drop 17)
noncomputable def SUBS : Nat → Nat → List (Int × Str) → List Obj
  | 0, tk, ps => [dictO (entsS tk ps) ps.length]
  | k + 1, tk, ps => dictO (entsL tk (ps.take 17)) 17 :: SUBS k (tk + 51) (ps.drop 17)
section
variable {w : World} {os : OsState} {base : List Obj} {d : Addr} {env : Env} {q : Pos}
theorem ev_flushL (hd : d = base.length) (hb : 28 ≤ d) {tk n : Nat} {es : List DictEntry} {subs : List Obj} {c : List (Int × Str)} {pos : Pos} (h0 : es ≠ []) (hc : c.length = 17) (hN : (es.map (·.hash) ++ c.map (·.1)).Nodup) (hB : ∀ p ∈ c, 0 ≤ p.1 ∧ p.1 < 2 ^ 60) (hL : es.length + c.length < 16777216) :
    Ev w 330 (Sh (base ++ dictO es n :: subs) tk os) pos (flushF (c.map (semP env q)) (some d)) (some d) (Sh (base ++ dictO (es ++ entsL tk c) (n + 17) :: (subs ++ [dictO (entsL tk c) 17])) (tk + 51) os) q := by
 walk_at "ST"
 case oTag =>
  have ha : (base ++ dictO es n :: subs).length = base.length + 1 + subs.length := by rw [List.length_append, List.length_cons]; exact (Nat.add_right_comm base.length 1 subs.length).symm
  have h28 : (28 : Nat) ≤ base.length := hd ▸ hb
  have hs := ev_subLong (w := w) (pos := pos) (q := q) (os := os) (env := env) (l := base ++ dictO es n :: subs) (tk := tk) (ps := c) (by rw [ha]; omega) (by omega) ((List.nodup_append.mp hN).2.1) hB (by omega)
  have hm := ev_merge (w := w) (os := os) (pos := q) (pre := base) (mid := subs) (d := d) (a := (base ++ dictO es n :: subs).length) (tk := tk + 3 * c.length) (n := n) (m := c.length) (es := es) (se := entsL tk c) hd ha hb h0 (by rw [List.map_append, entsL_hash]; exact hN) (entsL_key c tk) (by rw [entsL_len]; exact hL)
  rw [show base ++ dictO es n :: subs ++ [dictO (entsL tk c) c.length] = base ++ dictO es n :: (subs ++ [dictO (entsL tk c) c.length]) by simp] at hs
  rw [entsL_len] at hm
  unfold flushF
  rw [if_neg (by cases c with | nil => cases hc | cons x r => simp)]
  dsimp only
  refine Ev.num (m := (13 * c.length + 2) + ((6 * c.length + 5) + 0)) ?_ (by omega)
  refine Ev.bind (Ev.holding hs) ?_
  rw [hc] at hm ⊢
  exact Ev.bind (Ev.onRaise (Ev.holding hm)) Ev.pure
 walk_at "EN"
theorem ev_flushS (hd : d = base.length) (hb : 28 ≤ d) {tk n : Nat} {es : List DictEntry} {subs : List Obj} {c : List (Int × Str)} {pos : Pos} (h0 : es ≠ []) (hc : c.length = 4) (hN : (es.map (·.hash) ++ c.map (·.1)).Nodup) (hB : ∀ p ∈ c, 0 ≤ p.1 ∧ p.1 < 2 ^ 60) (hL : es.length + c.length < 16777216) :
    Ev w 82 (Sh (base ++ dictO es n :: subs) tk os) pos (flushF (c.map (semP env q)) (some d)) (some d) (Sh (base ++ dictO (es ++ entsS tk c) (n + 4) :: (subs ++ [dictO (entsS tk c) 4])) (tk + 12) os) q := by
 walk_at "ST"
 case oTag =>
  have ha : (base ++ dictO es n :: subs).length = base.length + 1 + subs.length := by rw [List.length_append, List.length_cons]; exact (Nat.add_right_comm base.length 1 subs.length).symm
  have h28 : (28 : Nat) ≤ base.length := hd ▸ hb
  have hs := ev_subShort (w := w) (pos := pos) (q := q) (os := os) (env := env) (l := base ++ dictO es n :: subs) (tk := tk) (ps := c) (by rw [ha]; omega) (by omega) (by intro h; rw [h] at hc; cases hc) ((List.nodup_append.mp hN).2.1) hB
  have hm := ev_merge (w := w) (os := os) (pos := q) (pre := base) (mid := subs) (d := d) (a := (base ++ dictO es n :: subs).length) (tk := tk + 3 * c.length) (n := n) (m := c.length) (es := es) (se := entsS tk c) hd ha hb h0 (by rw [List.map_append, entsS_hash]; exact hN) (entsS_key c tk) (by rw [entsS_len]; exact hL)
  rw [show base ++ dictO es n :: subs ++ [dictO (entsS tk c) c.length] = base ++ dictO es n :: (subs ++ [dictO (entsS tk c) c.length]) by simp] at hs
  rw [entsS_len] at hm
  unfold flushF
  rw [if_neg (by cases c with | nil => cases hc | cons x r => simp)]
  dsimp only
  refine Ev.num (m := (13 * c.length + 1) + ((6 * c.length + 5) + 0)) ?_ (by omega)
  refine Ev.bind (Ev.holding hs) ?_
  rw [hc] at hm ⊢
  exact Ev.bind (Ev.onRaise (Ev.holding hm)) Ev.pure
 walk_at "EN"
theorem ev_dloop (hd : d = base.length) (hb : 28 ≤ d) : ∀ (k : Nat) (ps : List (Int × Str)) (tk n : Nat) (es : List DictEntry) (subs : List Obj) (pos : Pos), ps.length = 17 * k + 4 → es ≠ [] → (es.map (·.hash) ++ ps.map (·.1)).Nodup → (∀ p ∈ ps, 0 ≤ p.1 ∧ p.1 < 2 ^ 60) → es.length + ps.length < 16777216 →
    Ev w (330 * k + 82) (Sh (base ++ dictO es n :: subs) tk os) pos (dloop (ps.map (semP env q)) (some d) []) (.ref d) (Sh (base ++ dictO (es ++ ENT k tk ps) (n + ps.length) :: (subs ++ SUBS k tk ps)) (tk + 3 * ps.length) os) q
  | 0, ps, tk, n, es, subs, pos, hl, h0, hN, hB, hL => by
    have h4 : ps.length = 4 := by omega
    rw [dloop_last _ _ _ (by rw [List.length_map, List.length_nil]; omega), List.nil_append]
    show Ev w (82 + 0) _ _ _ _ (Sh (base ++ dictO (es ++ entsS tk ps) (n + ps.length) :: (subs ++ [dictO (entsS tk ps) ps.length])) (tk + 3 * ps.length) os) _
    rw [h4]
    exact Ev.bind (ev_flushS hd hb h0 h4 hN hB hL) Ev.pure
  | k + 1, ps, tk, n, es, subs, pos, hl, h0, hN, hB, hL => by
    have e : ps = ps.take 17 ++ ps.drop 17 := (List.take_append_drop 17 ps).symm
    have h17 : (ps.take 17).length = 17 := by rw [List.length_take]; omega
    have hdl : (ps.drop 17).length = 17 * k + 4 := by rw [List.length_drop]; omega
    have hN' : (es.map (·.hash) ++ (ps.take 17).map (·.1) ++ (ps.drop 17).map (·.1)).Nodup := by
      rw [List.append_assoc, ← List.map_append, List.take_append_drop]; exact hN
    have hf := ev_flushL (w := w) (os := os) (env := env) (q := q) (tk := tk) (n := n) (subs := subs) (pos := pos) hd hb h0 h17 ((List.nodup_append.mp hN').1) (fun p hp => hB p (List.mem_of_mem_take hp)) (by rw [h17]; omega)
    have ih := ev_dloop hd hb k (ps.drop 17) (tk + 51) (n + 17) (es ++ entsL tk (ps.take 17)) (subs ++ [dictO (entsL tk (ps.take 17)) 17]) q hdl (by simp [h0]) (by rw [List.map_append, entsL_hash]; exact hN') (fun p hp => hB p (List.mem_of_mem_drop hp)) (by rw [List.length_append, entsL_len, h17]; omega)
    have e1 : ps.map (semP env q) = (ps.take 17).map (semP env q) ++ (ps.drop 17).map (semP env q) := by rw [← List.map_append, List.take_append_drop]
    rw [e1, dloop_run _ _ _ _ (by intro h; have := congrArg List.length h; rw [List.length_map, h17] at this; cases this) (by rw [List.length_map, h17]; rfl), List.nil_append]
    refine Ev.num (m := 330 + (330 * k + 82)) ?_ (by omega)
    refine Ev.bind hf ?_
    rw [List.append_assoc, List.append_assoc, hdl, show n + 17 + (17 * k + 4) = n + ps.length by omega, show tk + 51 + 3 * (17 * k + 4) = tk + 3 * ps.length by omega] at ih
    exact ih
end
end
section
theorem ev_first {w : World} {os : OsState} {base : List Obj} {env : Env} {q pos : Pos} {tk : Nat} {k : Nat} {ps : List (Int × Str)} (hb : 28 ≤ base.length) (hl : ps.length = 17 * (k + 1) + 4) (hN : (ps.map (·.1)).Nodup) (hB : ∀ p ∈ ps, 0 ≤ p.1 ∧ p.1 < 2 ^ 60) (hL : ps.length < 16777216) :
    Ev w (330 * k + 305) (Sh base tk os) pos (dloop (ps.map (semP env q)) none []) (.ref base.length) (Sh (base ++ dictO (ENT (k + 1) tk ps) ps.length :: SUBS k (tk + 51) (ps.drop 17)) (tk + 3 * ps.length) os) q := by
 walk_at "ST"
 case oTag =>
  have h17 : (ps.take 17).length = 17 := by rw [List.length_take]; omega
  have hdl : (ps.drop 17).length = 17 * k + 4 := by rw [List.length_drop]; omega
  have hN' : ((ps.take 17).map (·.1) ++ (ps.drop 17).map (·.1)).Nodup := by
    rw [← List.map_append, List.take_append_drop]; exact hN
  have hs := ev_subLong (w := w) (pos := pos) (q := q) (os := os) (env := env) (l := base) (tk := tk) (ps := ps.take 17) hb (by rw [h17]; omega) ((List.nodup_append.mp hN').1) (fun p hp => hB p (List.mem_of_mem_take hp)) (by rw [h17]; omega)
  have ih := ev_dloop (w := w) (os := os) (base := base) (d := base.length) (env := env) (q := q) rfl hb k (ps.drop 17) (tk + 51) 17 (entsL tk (ps.take 17)) [] q hdl (by intro h; have := congrArg List.length h; rw [entsL_len, h17] at this; cases this) (by rw [entsL_hash]; exact hN') (fun p hp => hB p (List.mem_of_mem_drop hp)) (by rw [entsL_len, h17]; omega)
  have e1 : ps.map (semP env q) = (ps.take 17).map (semP env q) ++ (ps.drop 17).map (semP env q) := by rw [← List.map_append, List.take_append_drop]
  rw [e1, dloop_run _ _ _ _ (by intro h; have := congrArg List.length h; rw [List.length_map, h17] at this; cases this) (by rw [List.length_map, h17]; rfl), List.nil_append]
  refine Ev.num (m := (13 * 17 + 2 + 0) + (330 * k + 82)) ?_ (by omega)
  rw [hdl, List.nil_append, show 17 + (17 * k + 4) = ps.length by omega, show tk + 51 + 3 * (17 * k + 4) = tk + 3 * ps.length by omega] at ih
  refine Ev.bind ?_ ih
  rw [h17] at hs
  unfold flushF
  rw [if_neg (by cases e : ps.take 17 with | nil => rw [e] at h17; cases h17 | cons x r => simp)]
  exact Ev.bind hs Ev.pure
 walk_at "EN"
noncomputable def kInt : Option PySem.Expr → Option Int
  | some (.Constant (.int i) _ _) => some i
  | _ => none
noncomputable def vStr : PySem.Expr → Option Str
  | .Constant (.str s) _ _ => some s
  | _ => none
noncomputable def pairsOk : List (Option PySem.Expr) → List PySem.Expr → Bool
  | [], [] => true
  | k :: ks, v :: vs => (kInt k).isSome && ((vStr v).isSome && pairsOk ks vs)
  | _, _ => false
theorem kInt_is {k : Option PySem.Expr} (h : (kInt k).isSome = true) : ∃ i x y, k = some (.Constant (.int i) x y) := by
  unfold kInt at h
  split at h
  · exact ⟨_, _, _, rfl⟩
  · cases h
theorem vStr_is {k : PySem.Expr} (h : (vStr k).isSome = true) : ∃ i x y, k = .Constant (.str i) x y := by
  unfold vStr at h
  split at h
  · exact ⟨_, _, _, rfl⟩
  · cases h
theorem zip_pairs (env : Env) (q : Pos) : ∀ (ks : List (Option PySem.Expr)) (vs : List PySem.Expr), pairsOk ks vs = true →
    (evalEachOpt ks env).zip ((evalEach vs env).map fun v => (do let x ← v; standAt q; pure x : Sem Value)) = ((pairsOf ks vs).map (semP env q)).map fun p => (some p.1, p.2)
  | [], [], _ => rfl
  | k :: ks, v :: vs, h => by
    have h : ((kInt k).isSome && ((vStr v).isSome && pairsOk ks vs)) = true := h
    rw [Bool.and_eq_true, Bool.and_eq_true] at h
    obtain ⟨h1, h2, h3⟩ := h
    have ih := zip_pairs env q ks vs h3
    obtain ⟨i, x, y, rfl⟩ := kInt_is h1
    obtain ⟨s, x', y', rfl⟩ := vStr_is h2
    show (some (constValue env (.int i)), (do let x ← constValue env (.str s); standAt q; pure x)) :: _ = (some (kSem env (i, s)), vSem env q (i, s)) :: _
    exact congrArg _ ih
noncomputable def b3Stm : Stmt := (bodyH[12]?).getD default
noncomputable def b3Ks : List (Option PySem.Expr) := match b3Stm with | .Assign _ (.Dict ks _ _) _ => ks | _ => []
noncomputable def b3Vs : List PySem.Expr := match b3Stm with | .Assign _ (.Dict _ vs _) _ => vs | _ => []
noncomputable def b3Q : Pos := match b3Stm with | .Assign _ (.Dict _ _ q) _ => q | _ => default
noncomputable def b3T : List PySem.Expr := match b3Stm with | .Assign t _ _ => t | _ => []
noncomputable def b3R : Pos := match b3Stm with | .Assign _ _ r => r | _ => default
theorem b3_is : b3Stm = .Assign b3T (.Dict b3Ks b3Vs b3Q) b3R := by kernel_rfl
theorem b3_ok : pairsOk b3Ks b3Vs = true := by kernel_rfl
theorem b3_pairs : pairsOf b3Ks b3Vs = b3Pairs := by kernel_rfl
theorem b3_len : b3Pairs.length = 650 := by kernel_rfl
theorem b3_rng : b3Pairs.all (fun p => decide (0 ≤ p.1) && decide (p.1 < 2 ^ 60)) = true := by kernel_rfl
end
section
noncomputable def sortedB : List Int → Bool
  | a :: b :: r => decide (a < b) && sortedB (b :: r)
  | _ => true
theorem sorted_lt : ∀ (l : List Int) (a : Int), sortedB (a :: l) = true → ∀ x ∈ l, a < x
  | [], _, _ => fun _ h => nomatch h
  | b :: r, a, h => fun x hx => by
    have h := Bool.and_eq_true_iff.mp h
    have h1 : a < b := of_decide_eq_true h.1
    rcases List.mem_cons.mp hx with rfl | hx
    · exact h1
    · exact Int.lt_trans h1 (sorted_lt r b h.2 x hx)
theorem sorted_nodup : ∀ (l : List Int), sortedB l = true → l.Nodup
  | [], _ => List.nodup_nil
  | [a], _ => by simp
  | a :: b :: r, h => by
    have hl := sorted_lt (b :: r) a h
    have h2 := Bool.and_eq_true_iff.mp h
    exact List.nodup_cons.mpr ⟨fun hm => Int.lt_irrefl _ (hl a hm), sorted_nodup (b :: r) h2.2⟩
theorem b3_nodup : (b3Pairs.map (·.1)).Nodup := sorted_nodup _ (by kernel_rfl)
theorem startB3 : ∀ w : World, (fun os : OsState => (sC w.params os).abs) = fun os => Sh (lC w.params) 472 os := by
  intro w; kernel_rfl
theorem main_b3 : ∀ P : Params, O_82 P = dictO (ENT 38 472 b3Pairs) b3Pairs.length := by
  intro P; kernel_rfl
theorem endB3 : ∀ w : World, (fun os : OsState => (sDp w.params os).abs) = fun os => Sh (lC w.params ++ O_82 w.params :: SUBS 37 523 (b3Pairs.drop 17)) 2422 os := by
  intro w; kernel_rfl
theorem swap_b3 : swapsWithSole b3T (.Dict b3Ks b3Vs b3Q) b3R.line envH = Sem.pure false := by kernel_rfl
end
section
noncomputable def restB3 (v : Value) : Sem Flow := do assignStores envH v (← swappedStores b3T (.Dict b3Ks b3Vs b3Q) envH) ((assignEach b3T envH).map (·.2))
theorem kD : ∀ w : World, (fun os : OsState => PySem.W.Fast.tw10110043849684766642 PySem.W.Fast.tw14364793385576792824 PW w 28 annH 1 8 (sDp w.params os) ⟨(restB3 (.ref 82)).wrap doneF deadEnd id id, cH, b3Q, BH⟩) = fun os => some (.next, sD w.params os, cH, ⟨34, 0, 34, 13⟩) := by
  exact (byRow2 "special-get-raises" (fun w => by kernel_rfl) (fun w => by kernel_rfl))
theorem Ev.run {α : Type} {w : World} {n N : Nat} {s s₁ : Shared} {pos pos₁ : Pos} {a : α} {x : Sem α} {f : α → Sem Flow} {r : Flow × Shared × Code × Pos} (hx : Ev w n s pos x a s₁ pos₁) (h : segRun treeTable PW w 28 annH 1 N s₁ ⟨(f a).wrap doneF deadEnd id id, cH, pos₁, BH⟩ = some r) :
    segRun treeTable PW w 28 annH 1 (n + N) s ⟨(x.bind f).wrap doneF deadEnd id id, cH, pos, BH⟩ = some r := by
  rw [Sem.bind_eq_wrap, Sem.wrap_wrap]
  exact hx _ _ _ _ _ _ h
theorem ev_b3 {w : World} {os : OsState} {l : List Obj} {pos : Pos} {tk : Nat} (hb : 28 ≤ l.length) : Ev w (1 + (330 * 37 + 305)) (Sh l tk os) pos (eval (.Dict b3Ks b3Vs b3Q) envH) (.ref l.length) (Sh (l ++ dictO (ENT 38 tk b3Pairs) b3Pairs.length :: SUBS 37 (tk + 51) (b3Pairs.drop 17)) (tk + 3 * b3Pairs.length) os) b3Q := by
  refine Ev.bind (x := standAt b3Q) (a := ()) (Ev.at Ev.pure) ?_
  rw [zip_pairs envH b3Q _ _ b3_ok, b3_pairs, display_eq]
  refine ev_first hb (by rw [b3_len]) b3_nodup ?_ (by rw [b3_len]; decide)
  intro p hp
  have := Bool.and_eq_true_iff.mp (List.all_eq_true.mp b3_rng p hp)
  exact ⟨of_decide_eq_true this.1, of_decide_eq_true this.2⟩
theorem runB3 (w : World) (os : OsState) : segRun treeTable PW w 28 annH 1 (1 + (0 + ((1 + (330 * 37 + 305)) + 8))) (sC w.params os).abs (pieceOf b3Stm envH cH ⟨32, 0, 33, 30⟩ BH) = some (.next, (sD w.params os).abs, cH, ⟨34, 0, 34, 13⟩) := by
 walk_at "ST"
 case oTag =>
  rw [congrFun (startB3 w) os, b3_is]
  have hl : (lC w.params).length = 82 := rfl
  refine Ev.run (x := standAt b3R) (a := ()) (Ev.at Ev.pure) ?_
  refine Ev.run (x := swapsWithSole b3T (.Dict b3Ks b3Vs b3Q) b3R.line envH) (a := false) (Ev.to swap_b3 Ev.pure) ?_
  refine Ev.run (x := eval (.Dict b3Ks b3Vs b3Q) envH) (f := restB3) (ev_b3 (by rw [hl]; decide)) ?_
  have e := segRun_of (segT_of (congrFun (kD w) os))
  rw [congrFun (endB3 w) os, main_b3] at e
  rw [hl, b3_len]
  rw [b3_len] at e
  exact e
 walk_at "EN"
end
section
theorem drop_split (l : List Stmt) (a n b : Nat) (h : a + n = b) : l.drop a = (l.drop a).take n ++ l.drop b := by
  subst h; rw [← List.drop_drop, List.take_append_drop]
theorem drop_b3 : bodyH.drop 12 = b3Stm :: bodyH.drop 13 := by kernel_rfl
theorem drop_all : bodyH.drop 78 = [] := by kernel_rfl
theorem piece_at {w : World} {a k b n N : Nat} {s s' r : Shared} {pos p' : Pos} (e : a + k = b) (h : segRun treeTable PW w 28 annH 1 n s (piecesOf ((bodyH.drop a).take k) envH cH pos BH) = some (.next, s', cH, p'))
    (g : topRun treeTable PW w 28 annH N s' (restOf (bodyH.drop b) envH cH p' BH) = some r) : topRun treeTable PW w 28 annH (n + N) s (restOf (bodyH.drop a) envH cH pos BH) = some r := by
  rw [drop_split bodyH a k b e]; exact piece_app h g
theorem runH (w : World) (os : OsState) : topRun treeTable PW w 28 annH (12 + (1 + (413 + (999 + (30 + ((1 + (0 + ((1 + (330 * 37 + 305)) + 8))) + (481 + (979 + (360 + 2))))))))) ⟨heapS w.params, ⟨[]⟩, boot_drawn, 276, os⟩ (topStub PW) = some ⟨heapI w.params, ⟨[]⟩, boot_drawn, 2726, os⟩ := by
  refine go_top (congrFun (preH w) os) ?_
  refine piece_block (congrFun (blockH w) os) ?_
  refine piece_at (a := 0) rfl (rA w os) ?_
  refine piece_at (a := 10) rfl (rB w os) ?_
  refine piece_at (a := 11) rfl (rC w os) ?_
  rw [drop_b3]
  refine piece_cons (runB3 w os) ?_
  refine piece_at (a := 13) rfl (rE w os) ?_
  refine piece_at (a := 64) rfl (rG w os) ?_
  refine piece_at (a := 65) rfl (rI w os) ?_
  rw [drop_all]
  exact piece_nil (congrFun (finH w) os)
end
section
noncomputable abbrev sF (P : Params) (os : OsState) : Shared := ⟨heapI P, ⟨[]⟩, boot_drawn, 2726, os⟩
theorem lk1 : ∀ w : World, (fun os : OsState => (staticsOk (importedModules PW.main.body) (heapS w.params) (heapI w.params) && namesBound PW (heapI w.params) && gensDone (sF w.params os) && laidKept (heapS w.params) (heapI w.params))) = fun _ => true := by
  intro w; kernel_rfl
theorem lk2 : ∀ w : World, (fun os : OsState => Hook.obs HK (sF w.params os)) = fun _ => Hook.val HK w := by
  intro w; kernel_rfl
theorem lk3 : ∀ w : World, (fun os : OsState => openSeen qq LOOSE (importedModules PW.main.body) XtH true (sF w.params os)) = fun _ => openGood qq LOOSE := by
  intro w; kernel_rfl
end
section
theorem head_left : LeftO PW qq LOOSE XtH (Hook.obs HK) (Hook.val HK) 40000 :=
  LeftO.of_pieces openS sizeH runH (by rfl) fun w => by
    funext os
    have h1 := congrFun (lk1 w) os
    have h2 := congrFun (lk2 w) os
    have h3 := congrFun (lk3 w) os
    exact looks_pair h1 (looks_pair h3 h2)
end
end Mine
theorem PySem.Challenge.cw_uk0015_01_holds : PySem.Challenge.rw_uk0015_01.Holds := by
  w_on
  refine holds_law Mine.saidW fun said => ?_
  refine PySem.W.holds_open (q := Mine.qq) (loose := Mine.LOOSE) (Xt := fun s => xlAt Mine.qq [] s && recOk (RowW.records (PySem.Challenge.rw_uk0015_01.row.toRowW)) s) (XP := XL Mine.qq []) (Yf := Hook.obs Mine.HK) (Ya := Hook.val Mine.HK) (YP := Hook.says Mine.HK) (N := 40000) Mine.head_left (Hook.of Mine.HK) (Hook.keeps Mine.HK) (fun s e => xl_of s (Bool.and_eq_true_iff.mp e).1) XL.keeps (by rfl) (by rfl) (by rfl) (fun s e => recFacts_of (Bool.and_eq_true_iff.mp e).2) (by rfl) (by first | assumption | decide +kernel) (by decide +kernel) ⟨rfl, rfl, rfl, rfl, rfl, by decide +kernel⟩ ?hw ?hc
  case hw => w_witness2
  case hc => exact Mine.walk_to (by rfl) Mine.law_walk
