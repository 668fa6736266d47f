import PyProof.Rows.All
import Wide.All
import OpenK.AllK
import Wide.FinOn
import PySem.Challenge.RW_om0028_01
set_option Elab.async false
set_option bootstrap.genMatcherCode false

-- Head
section
open PySem PySem.W PyProof.Rows
set_option maxRecDepth 100000
set_option maxHeartbeats 8000000
namespace Mine
noncomputable abbrev hPw : Program := PySem.Challenge.pw_om0028_01
noncomputable def hSt (i : Nat) : Stmt := (hPw.main.body[i]?).getD (.Pass ⟨0, 0, 0, 0⟩)
noncomputable def hMt (i : Nat) : Stmt := match hSt 1 with | .ClassDef _ _ _ b .. => (b[i]?).getD (.Pass ⟨0, 0, 0, 0⟩) | s => s
noncomputable def hPar : Stmt → Arguments | .FunctionDef _ a .. => a | _ => ⟨[], [], none, [], [], none, []⟩
noncomputable def hBody : Stmt → FuncBody | .FunctionDef _ _ b .. => .stmts b | _ => .stmts []
noncomputable def hScope : Stmt → Scope | .FunctionDef _ _ _ _ _ _ s .. => s | _ => default
noncomputable abbrev hStr (s : String) : Str := Str.ofString s
noncomputable abbrev hKh (P : Params) (s : Str) : Int := PyData.keyHash P s
/-- the objects that the top leaves -/
noncomputable def hFrag (P : Params) : Frag :=
  [(2, (Obj.mk Value.none none (Data.dict #[] 0) #[])),
  (3, (Obj.mk (Value.type "dict") none (Data.dict #[(DictEntry.mk (hKh P (hStr "__name__")) (Value.str (hStr "__name__") 165) (Value.str (hStr "law_om0028_01") 291)), (DictEntry.mk (hKh P (hStr "__doc__")) (Value.str (hStr "__doc__") 166) Value.none), (DictEntry.mk (hKh P (hStr "__package__")) (Value.str (hStr "__package__") 167) Value.none), (DictEntry.mk (hKh P (hStr "__loader__")) (Value.str (hStr "__loader__") 168) (Value.builtin "__main__.__loader__#opaque")), (DictEntry.mk (hKh P (hStr "__spec__")) (Value.str (hStr "__spec__") 169) Value.none), (DictEntry.mk (hKh P (hStr "__annotations__")) (Value.str (hStr "__annotations__") 170) (Value.ref 6)), (DictEntry.mk (hKh P (hStr "__builtins__")) (Value.str (hStr "__builtins__") 171) (Value.ref 4)), (DictEntry.mk (hKh P (hStr "__file__")) (Value.str (hStr "__file__") 173) (Value.str (hStr "/claim/cut.py") 172)), (DictEntry.mk (hKh P (hStr "__cached__")) (Value.str (hStr "__cached__") 174) Value.none), (DictEntry.mk (hKh P (hStr "Entry")) (Value.str (hStr "Entry") 250) (Value.ref 52)), (DictEntry.mk (hKh P (hStr "merge_entries")) (Value.str (hStr "merge_entries") 259) (Value.ref 63)), (DictEntry.mk (hKh P (hStr "_initial_missing")) (Value.str (hStr "_initial_missing") 262) (Value.ref 64)), (DictEntry.mk (hKh P (hStr "reduce")) (Value.str (hStr "reduce") 274) (Value.ref 72)), (DictEntry.mk (hKh P (hStr "sorted_list_difference")) (Value.str (hStr "sorted_list_difference") 290) (Value.ref 79)), (DictEntry.mk (hKh P (hStr "_law_wishes")) (Value.str (hStr "_law_wishes") 298) (Value.ref 84)), (DictEntry.mk (hKh P (hStr "_law_rule")) (Value.str (hStr "_law_rule") 307) (Value.ref 91)), (DictEntry.mk (hKh P (hStr "_law_record")) (Value.str (hStr "_law_record") 313) (Value.ref 96)), (DictEntry.mk (hKh P (hStr "_law_letters")) (Value.str (hStr "_law_letters") 319) (Value.ref 101)), (DictEntry.mk (hKh P (hStr "_law_asked")) (Value.str (hStr "_law_asked") 328) (Value.ref 108)), (DictEntry.mk (hKh P (hStr "_law_granted")) (Value.str (hStr "_law_granted") 334) (Value.ref 113)), (DictEntry.mk (hKh P (hStr "_law_lasting")) (Value.str (hStr "_law_lasting") 340) (Value.ref 118)), (DictEntry.mk (hKh P (hStr "_law_last_told")) (Value.str (hStr "_law_last_told") 346) (Value.ref 123)), (DictEntry.mk (hKh P (hStr "_law_merge_is_right")) (Value.str (hStr "_law_merge_is_right") 352) (Value.ref 128)), (DictEntry.mk (hKh P (hStr "_law_record_is_right")) (Value.str (hStr "_law_record_is_right") 363) (Value.ref 135)), (DictEntry.mk (hKh P (hStr "_law_parts_are_right")) (Value.str (hStr "_law_parts_are_right") 369) (Value.ref 140)), (DictEntry.mk (hKh P (hStr "_law_pairs_are_right")) (Value.str (hStr "_law_pairs_are_right") 375) (Value.ref 145)), (DictEntry.mk (hKh P (hStr "law")) (Value.str (hStr "law") 381) (Value.ref 150))] 27) #[])),
  (22, (Obj.mk (Value.type "tuple") none (Data.seq #[] 0) #[])),
  (24, (Obj.mk (Value.type "tuple") none (Data.seq #[(Value.str (hStr "self") 204)] 0) #[])),
  (25, (Obj.mk (Value.type "tuple") none (Data.seq #[] 0) #[])),
  (27, (Obj.mk (Value.type "code") none (Data.fields #[(Value.str (hStr "__init__") 201), (Value.str (hStr "Entry.__init__") 202), (Value.str (hStr "/claim/cut.py") 203), (Value.int 4 0), (Value.int 1 0), (Value.int 0 0), (Value.int 0 0), (Value.int 3 0), (Value.ref 22), (Value.bool true), (Value.int 181 0), (Value.ref 23), Value.none, (Value.ref 24), (Value.ref 25), (Value.ref 26), (Value.int 205 0), (Value.int 4 0), (Value.str (hStr "/claim/cut.py") 206)]) #[])),
  (28, (Obj.mk (Value.type "function") none (Data.func (FuncData.mk (hStr "__init__") (hStr "Entry.__init__") (hPar (hMt 0)) (hBody (hMt 0)) (hScope (hMt 0)) 3 [] Value.none Value.none Value.none (Value.str (hStr "cpy313.urllib.robotparser") 187) none (Value.ref 27) Value.none 0)) #[])),
  (29, (Obj.mk (Value.type "tuple") none (Data.seq #[] 0) #[])),
  (31, (Obj.mk (Value.type "tuple") none (Data.seq #[(Value.str (hStr "self") 211), (Value.str (hStr "ret") 212), (Value.str (hStr "agent") 213), (Value.str (hStr "rate") 214)] 0) #[])),
  (32, (Obj.mk (Value.type "tuple") none (Data.seq #[] 0) #[])),
  (34, (Obj.mk (Value.type "code") none (Data.fields #[(Value.str (hStr "__str__") 208), (Value.str (hStr "Entry.__str__") 209), (Value.str (hStr "/claim/cut.py") 210), (Value.int 10 0), (Value.int 1 0), (Value.int 0 0), (Value.int 0 0), (Value.int 3 0), (Value.ref 29), (Value.bool true), (Value.int 181 0), (Value.ref 30), Value.none, (Value.ref 31), (Value.ref 32), (Value.ref 33), (Value.int 215 0), (Value.int 10 0), (Value.str (hStr "/claim/cut.py") 216)]) #[])),
  (35, (Obj.mk (Value.type "function") none (Data.func (FuncData.mk (hStr "__str__") (hStr "Entry.__str__") (hPar (hMt 1)) (hBody (hMt 1)) (hScope (hMt 1)) 3 [] Value.none Value.none Value.none (Value.str (hStr "cpy313.urllib.robotparser") 187) none (Value.ref 34) Value.none 0)) #[])),
  (36, (Obj.mk (Value.type "tuple") none (Data.seq #[] 0) #[])),
  (38, (Obj.mk (Value.type "tuple") none (Data.seq #[(Value.str (hStr "self") 221), (Value.str (hStr "useragent") 222), (Value.str (hStr "agent") 223)] 0) #[])),
  (39, (Obj.mk (Value.type "tuple") none (Data.seq #[] 0) #[])),
  (41, (Obj.mk (Value.type "code") none (Data.fields #[(Value.str (hStr "applies_to") 218), (Value.str (hStr "Entry.applies_to") 219), (Value.str (hStr "/claim/cut.py") 220), (Value.int 27 0), (Value.int 2 0), (Value.int 0 0), (Value.int 0 0), (Value.int 3 0), (Value.ref 36), (Value.bool true), (Value.int 181 0), (Value.ref 37), Value.none, (Value.ref 38), (Value.ref 39), (Value.ref 40), (Value.int 224 0), (Value.int 27 0), (Value.str (hStr "/claim/cut.py") 225)]) #[])),
  (42, (Obj.mk (Value.type "function") none (Data.func (FuncData.mk (hStr "applies_to") (hStr "Entry.applies_to") (hPar (hMt 2)) (hBody (hMt 2)) (hScope (hMt 2)) 3 [] Value.none Value.none Value.none (Value.str (hStr "cpy313.urllib.robotparser") 187) none (Value.ref 41) Value.none 0)) #[])),
  (43, (Obj.mk (Value.type "tuple") none (Data.seq #[] 0) #[])),
  (45, (Obj.mk (Value.type "tuple") none (Data.seq #[(Value.str (hStr "self") 230), (Value.str (hStr "filename") 231), (Value.str (hStr "best_match") 232), (Value.str (hStr "allowance") 233), (Value.str (hStr "line") 234), (Value.str (hStr "m") 235)] 0) #[])),
  (46, (Obj.mk (Value.type "tuple") none (Data.seq #[] 0) #[])),
  (48, (Obj.mk (Value.type "code") none (Data.fields #[(Value.str (hStr "allowance") 227), (Value.str (hStr "Entry.allowance") 228), (Value.str (hStr "/claim/cut.py") 229), (Value.int 38 0), (Value.int 2 0), (Value.int 0 0), (Value.int 0 0), (Value.int 3 0), (Value.ref 43), (Value.bool true), (Value.int 181 0), (Value.ref 44), Value.none, (Value.ref 45), (Value.ref 46), (Value.ref 47), (Value.int 236 0), (Value.int 38 0), (Value.str (hStr "/claim/cut.py") 237)]) #[])),
  (49, (Obj.mk (Value.type "function") none (Data.func (FuncData.mk (hStr "allowance") (hStr "Entry.allowance") (hPar (hMt 3)) (hBody (hMt 3)) (hScope (hMt 3)) 3 [] Value.none Value.none Value.none (Value.str (hStr "cpy313.urllib.robotparser") 187) none (Value.ref 48) Value.none 0)) #[])),
  (50, (Obj.mk (Value.type "tuple") none (Data.seq #[(Value.str (hStr "delay") 239), (Value.str (hStr "req_rate") 240), (Value.str (hStr "rulelines") 241), (Value.str (hStr "useragents") 242)] 0) #[])),
  (51, (Obj.mk (Value.type "dict") none (Data.dict #[(DictEntry.mk (hKh P (hStr "__module__")) (Value.str (hStr "__module__") 196) (Value.str (hStr "cpy313.urllib.robotparser") 187)), (DictEntry.mk (hKh P (hStr "__firstlineno__")) (Value.str (hStr "__firstlineno__") 200) (Value.int 2 199)), (DictEntry.mk (hKh P (hStr "__init__")) (Value.str (hStr "__init__") 207) (Value.ref 28)), (DictEntry.mk (hKh P (hStr "__str__")) (Value.str (hStr "__str__") 217) (Value.ref 35)), (DictEntry.mk (hKh P (hStr "applies_to")) (Value.str (hStr "applies_to") 226) (Value.ref 42)), (DictEntry.mk (hKh P (hStr "allowance")) (Value.str (hStr "allowance") 238) (Value.ref 49)), (DictEntry.mk (hKh P (hStr "__static_attributes__")) (Value.str (hStr "__static_attributes__") 243) (Value.ref 50)), (DictEntry.mk (hKh P (hStr "__dict__")) (Value.str (hStr "__dict__") 245) (Value.ref 53)), (DictEntry.mk (hKh P (hStr "__weakref__")) (Value.str (hStr "__weakref__") 247) (Value.ref 54)), (DictEntry.mk (hKh P (hStr "__doc__")) (Value.str (hStr "__doc__") 248) Value.none)] 4) #[])),
  (52, (Obj.mk (Value.type "type") none (Data.cls (ClassData.mk (hStr "Entry") [(Value.type "object")] [(Value.ref 52), (Value.type "object")] 51 (hStr "Entry") true [] [] false none false)) #[none, none, (some (Value.str (hStr "Entry") 189)), (some (Value.str (hStr "Entry") 197)), (some (Value.builtin "object.__new__")), (some (Value.bool true))])),
  (53, (Obj.mk (Value.type "getset_descriptor") none (Data.fields #[(Value.str (hStr "__dict__") 244), (Value.ref 52), (Value.builtin "function.__dict__"), (Value.builtin "function.__dict__#set")]) #[])),
  (54, (Obj.mk (Value.type "getset_descriptor") none (Data.fields #[(Value.str (hStr "__weakref__") 246), (Value.ref 52), (Value.builtin "ExceptionGroup.__weakref__"), Value.none]) #[])),
  (57, (Obj.mk (Value.type "tuple") none (Data.seq #[] 0) #[])),
  (59, (Obj.mk (Value.type "tuple") none (Data.seq #[(Value.str (hStr "e1") 254), (Value.str (hStr "e2") 255), (Value.str (hStr "entry") 256)] 0) #[])),
  (60, (Obj.mk (Value.type "tuple") none (Data.seq #[] 0) #[])),
  (62, (Obj.mk (Value.type "code") none (Data.fields #[(Value.str (hStr "merge_entries") 251), (Value.str (hStr "merge_entries") 252), (Value.str (hStr "/claim/cut.py") 253), (Value.int 50 0), (Value.int 2 0), (Value.int 0 0), (Value.int 0 0), (Value.int 3 0), (Value.ref 57), (Value.bool true), (Value.int 181 0), (Value.ref 58), Value.none, (Value.ref 59), (Value.ref 60), (Value.ref 61), (Value.int 257 0), (Value.int 50 0), (Value.str (hStr "/claim/cut.py") 258)]) #[])),
  (63, (Obj.mk (Value.type "function") none (Data.func (FuncData.mk (hStr "merge_entries") (hStr "merge_entries") (hPar (hSt 2)) (hBody (hSt 2)) (hScope (hSt 2)) 3 [] Value.none Value.none Value.none (Value.str (hStr "cpy313.urllib.robotparser") 187) none (Value.ref 62) Value.none 0)) #[])),
  (64, (Obj.mk (Value.type "object") none Data.plain #[])),
  (65, (Obj.mk (Value.type "tuple") none (Data.seq #[(Value.ref 64)] 0) #[])),
  (66, (Obj.mk (Value.type "tuple") none (Data.seq #[] 0) #[])),
  (68, (Obj.mk (Value.type "tuple") none (Data.seq #[(Value.str (hStr "function") 266), (Value.str (hStr "sequence") 267), (Value.str (hStr "initial") 268), (Value.str (hStr "it") 269), (Value.str (hStr "value") 270), (Value.str (hStr "element") 271)] 0) #[])),
  (69, (Obj.mk (Value.type "tuple") none (Data.seq #[] 0) #[])),
  (71, (Obj.mk (Value.type "code") none (Data.fields #[(Value.str (hStr "reduce") 263), (Value.str (hStr "reduce") 264), (Value.str (hStr "/claim/cut.py") 265), (Value.int 59 0), (Value.int 3 0), (Value.int 0 0), (Value.int 0 0), (Value.int 3 0), (Value.ref 66), (Value.bool true), (Value.int 181 0), (Value.ref 67), Value.none, (Value.ref 68), (Value.ref 69), (Value.ref 70), (Value.int 272 0), (Value.int 59 0), (Value.str (hStr "/claim/cut.py") 273)]) #[])),
  (72, (Obj.mk (Value.type "function") none (Data.func (FuncData.mk (hStr "reduce") (hStr "reduce") (hPar (hSt 5)) (hBody (hSt 5)) (hScope (hSt 5)) 3 [] (Value.ref 65) Value.none Value.none (Value.str (hStr "cpy313.functools") 260) none (Value.ref 71) Value.none 0)) #[])),
  (73, (Obj.mk (Value.type "tuple") none (Data.seq #[] 0) #[])),
  (75, (Obj.mk (Value.type "tuple") none (Data.seq #[(Value.str (hStr "expected") 280), (Value.str (hStr "actual") 281), (Value.str (hStr "i") 282), (Value.str (hStr "j") 283), (Value.str (hStr "missing") 284), (Value.str (hStr "unexpected") 285), (Value.str (hStr "e") 286), (Value.str (hStr "a") 287)] 0) #[])),
  (76, (Obj.mk (Value.type "tuple") none (Data.seq #[] 0) #[])),
  (78, (Obj.mk (Value.type "code") none (Data.fields #[(Value.str (hStr "sorted_list_difference") 277), (Value.str (hStr "sorted_list_difference") 278), (Value.str (hStr "/claim/cut.py") 279), (Value.int 72 0), (Value.int 2 0), (Value.int 0 0), (Value.int 0 0), (Value.int 3 0), (Value.ref 73), (Value.bool true), (Value.int 181 0), (Value.ref 74), Value.none, (Value.ref 75), (Value.ref 76), (Value.ref 77), (Value.int 288 0), (Value.int 72 0), (Value.str (hStr "/claim/cut.py") 289)]) #[])),
  (79, (Obj.mk (Value.type "function") none (Data.func (FuncData.mk (hStr "sorted_list_difference") (hStr "sorted_list_difference") (hPar (hSt 7)) (hBody (hSt 7)) (hScope (hSt 7)) 3 [] Value.none Value.none Value.none (Value.str (hStr "cpy313.unittest.util") 275) none (Value.ref 78) Value.none 0)) #[])),
  (80, (Obj.mk (Value.type "tuple") none (Data.seq #[] 0) #[])),
  (83, (Obj.mk (Value.type "code") none (Data.fields #[(Value.str (hStr "_law_wishes") 293), (Value.str (hStr "_law_wishes") 294), (Value.str (hStr "/claim/cut.py") 295), (Value.int 105 0), (Value.int 1 0), (Value.int 0 0), (Value.int 0 0), (Value.int 3 0), (Value.ref 80), (Value.bool true), (Value.int 181 0), (Value.ref 81), Value.none, Value.none, Value.none, (Value.ref 82), (Value.int 296 0), (Value.int 105 0), (Value.str (hStr "/claim/cut.py") 297)]) #[])),
  (84, (Obj.mk (Value.type "function") none (Data.func (FuncData.mk (hStr "_law_wishes") (hStr "_law_wishes") (hPar (hSt 9)) (hBody (hSt 9)) (hScope (hSt 9)) 3 [] Value.none Value.none Value.none (Value.str (hStr "law_om0028_01") 291) none (Value.ref 83) Value.none 0)) #[])),
  (85, (Obj.mk (Value.type "tuple") none (Data.seq #[] 0) #[])),
  (87, (Obj.mk (Value.type "tuple") none (Data.seq #[(Value.str (hStr "agents") 302), (Value.str (hStr "verdict") 303), (Value.str (hStr "rule") 304)] 0) #[])),
  (88, (Obj.mk (Value.type "tuple") none (Data.seq #[] 0) #[])),
  (90, (Obj.mk (Value.type "code") none (Data.fields #[(Value.str (hStr "_law_rule") 299), (Value.str (hStr "_law_rule") 300), (Value.str (hStr "/claim/cut.py") 301), (Value.int 113 0), (Value.int 2 0), (Value.int 0 0), (Value.int 0 0), (Value.int 3 0), (Value.ref 85), (Value.bool true), (Value.int 181 0), (Value.ref 86), Value.none, (Value.ref 87), (Value.ref 88), (Value.ref 89), (Value.int 305 0), (Value.int 113 0), (Value.str (hStr "/claim/cut.py") 306)]) #[])),
  (91, (Obj.mk (Value.type "function") none (Data.func (FuncData.mk (hStr "_law_rule") (hStr "_law_rule") (hPar (hSt 10)) (hBody (hSt 10)) (hScope (hSt 10)) 3 [] Value.none Value.none Value.none (Value.str (hStr "law_om0028_01") 291) none (Value.ref 90) Value.none 0)) #[])),
  (92, (Obj.mk (Value.type "tuple") none (Data.seq #[] 0) #[])),
  (95, (Obj.mk (Value.type "code") none (Data.fields #[(Value.str (hStr "_law_record") 308), (Value.str (hStr "_law_record") 309), (Value.str (hStr "/claim/cut.py") 310), (Value.int 118 0), (Value.int 1 0), (Value.int 0 0), (Value.int 0 0), (Value.int 3 0), (Value.ref 92), (Value.bool true), (Value.int 181 0), (Value.ref 93), Value.none, Value.none, Value.none, (Value.ref 94), (Value.int 311 0), (Value.int 118 0), (Value.str (hStr "/claim/cut.py") 312)]) #[])),
  (96, (Obj.mk (Value.type "function") none (Data.func (FuncData.mk (hStr "_law_record") (hStr "_law_record") (hPar (hSt 11)) (hBody (hSt 11)) (hScope (hSt 11)) 3 [] Value.none Value.none Value.none (Value.str (hStr "law_om0028_01") 291) none (Value.ref 95) Value.none 0)) #[])),
  (97, (Obj.mk (Value.type "tuple") none (Data.seq #[] 0) #[])),
  (100, (Obj.mk (Value.type "code") none (Data.fields #[(Value.str (hStr "_law_letters") 314), (Value.str (hStr "_law_letters") 315), (Value.str (hStr "/claim/cut.py") 316), (Value.int 133 0), (Value.int 1 0), (Value.int 0 0), (Value.int 0 0), (Value.int 3 0), (Value.ref 97), (Value.bool true), (Value.int 181 0), (Value.ref 98), Value.none, Value.none, Value.none, (Value.ref 99), (Value.int 317 0), (Value.int 133 0), (Value.str (hStr "/claim/cut.py") 318)]) #[])),
  (101, (Obj.mk (Value.type "function") none (Data.func (FuncData.mk (hStr "_law_letters") (hStr "_law_letters") (hPar (hSt 12)) (hBody (hSt 12)) (hScope (hSt 12)) 3 [] Value.none Value.none Value.none (Value.str (hStr "law_om0028_01") 291) none (Value.ref 100) Value.none 0)) #[])),
  (102, (Obj.mk (Value.type "tuple") none (Data.seq #[] 0) #[])),
  (104, (Obj.mk (Value.type "tuple") none (Data.seq #[(Value.str (hStr "letters") 323), (Value.str (hStr "which") 324), (Value.str (hStr "name") 325)] 0) #[])),
  (105, (Obj.mk (Value.type "tuple") none (Data.seq #[] 0) #[])),
  (107, (Obj.mk (Value.type "code") none (Data.fields #[(Value.str (hStr "_law_asked") 320), (Value.str (hStr "_law_asked") 321), (Value.str (hStr "/claim/cut.py") 322), (Value.int 135 0), (Value.int 2 0), (Value.int 0 0), (Value.int 0 0), (Value.int 3 0), (Value.ref 102), (Value.bool true), (Value.int 181 0), (Value.ref 103), Value.none, (Value.ref 104), (Value.ref 105), (Value.ref 106), (Value.int 326 0), (Value.int 135 0), (Value.str (hStr "/claim/cut.py") 327)]) #[])),
  (108, (Obj.mk (Value.type "function") none (Data.func (FuncData.mk (hStr "_law_asked") (hStr "_law_asked") (hPar (hSt 13)) (hBody (hSt 13)) (hScope (hSt 13)) 3 [] Value.none Value.none Value.none (Value.str (hStr "law_om0028_01") 291) none (Value.ref 107) Value.none 0)) #[])),
  (109, (Obj.mk (Value.type "tuple") none (Data.seq #[] 0) #[])),
  (112, (Obj.mk (Value.type "code") none (Data.fields #[(Value.str (hStr "_law_granted") 329), (Value.str (hStr "_law_granted") 330), (Value.str (hStr "/claim/cut.py") 331), (Value.int 142 0), (Value.int 3 0), (Value.int 0 0), (Value.int 0 0), (Value.int 3 0), (Value.ref 109), (Value.bool true), (Value.int 181 0), (Value.ref 110), Value.none, Value.none, Value.none, (Value.ref 111), (Value.int 332 0), (Value.int 142 0), (Value.str (hStr "/claim/cut.py") 333)]) #[])),
  (113, (Obj.mk (Value.type "function") none (Data.func (FuncData.mk (hStr "_law_granted") (hStr "_law_granted") (hPar (hSt 14)) (hBody (hSt 14)) (hScope (hSt 14)) 3 [] Value.none Value.none Value.none (Value.str (hStr "law_om0028_01") 291) none (Value.ref 112) Value.none 0)) #[])),
  (114, (Obj.mk (Value.type "tuple") none (Data.seq #[] 0) #[])),
  (117, (Obj.mk (Value.type "code") none (Data.fields #[(Value.str (hStr "_law_lasting") 335), (Value.str (hStr "_law_lasting") 336), (Value.str (hStr "/claim/cut.py") 337), (Value.int 146 0), (Value.int 2 0), (Value.int 0 0), (Value.int 0 0), (Value.int 3 0), (Value.ref 114), (Value.bool true), (Value.int 181 0), (Value.ref 115), Value.none, Value.none, Value.none, (Value.ref 116), (Value.int 338 0), (Value.int 146 0), (Value.str (hStr "/claim/cut.py") 339)]) #[])),
  (118, (Obj.mk (Value.type "function") none (Data.func (FuncData.mk (hStr "_law_lasting") (hStr "_law_lasting") (hPar (hSt 15)) (hBody (hSt 15)) (hScope (hSt 15)) 3 [] Value.none Value.none Value.none (Value.str (hStr "law_om0028_01") 291) none (Value.ref 117) Value.none 0)) #[])),
  (119, (Obj.mk (Value.type "tuple") none (Data.seq #[] 0) #[])),
  (122, (Obj.mk (Value.type "code") none (Data.fields #[(Value.str (hStr "_law_last_told") 341), (Value.str (hStr "_law_last_told") 342), (Value.str (hStr "/claim/cut.py") 343), (Value.int 152 0), (Value.int 1 0), (Value.int 0 0), (Value.int 0 0), (Value.int 3 0), (Value.ref 119), (Value.bool true), (Value.int 181 0), (Value.ref 120), Value.none, Value.none, Value.none, (Value.ref 121), (Value.int 344 0), (Value.int 152 0), (Value.str (hStr "/claim/cut.py") 345)]) #[])),
  (123, (Obj.mk (Value.type "function") none (Data.func (FuncData.mk (hStr "_law_last_told") (hStr "_law_last_told") (hPar (hSt 16)) (hBody (hSt 16)) (hScope (hSt 16)) 3 [] Value.none Value.none Value.none (Value.str (hStr "law_om0028_01") 291) none (Value.ref 122) Value.none 0)) #[])),
  (124, (Obj.mk (Value.type "tuple") none (Data.seq #[] 0) #[])),
  (127, (Obj.mk (Value.type "code") none (Data.fields #[(Value.str (hStr "_law_merge_is_right") 347), (Value.str (hStr "_law_merge_is_right") 348), (Value.str (hStr "/claim/cut.py") 349), (Value.int 155 0), (Value.int 6 0), (Value.int 0 0), (Value.int 0 0), (Value.int 3 0), (Value.ref 124), (Value.bool true), (Value.int 181 0), (Value.ref 125), Value.none, Value.none, Value.none, (Value.ref 126), (Value.int 350 0), (Value.int 155 0), (Value.str (hStr "/claim/cut.py") 351)]) #[])),
  (128, (Obj.mk (Value.type "function") none (Data.func (FuncData.mk (hStr "_law_merge_is_right") (hStr "_law_merge_is_right") (hPar (hSt 17)) (hBody (hSt 17)) (hScope (hSt 17)) 3 [] Value.none Value.none Value.none (Value.str (hStr "law_om0028_01") 291) none (Value.ref 127) Value.none 0)) #[])),
  (129, (Obj.mk (Value.type "tuple") none (Data.seq #[] 0) #[])),
  (131, (Obj.mk (Value.type "tuple") none (Data.seq #[(Value.str (hStr "record") 356), (Value.str (hStr "wish") 357), (Value.str (hStr "let") 358), (Value.str (hStr "asked") 359), (Value.str (hStr "which") 360)] 0) #[])),
  (132, (Obj.mk (Value.type "tuple") none (Data.seq #[] 0) #[])),
  (134, (Obj.mk (Value.type "code") none (Data.fields #[(Value.str (hStr "_law_record_is_right") 353), (Value.str (hStr "_law_record_is_right") 354), (Value.str (hStr "/claim/cut.py") 355), (Value.int 172 0), (Value.int 4 0), (Value.int 0 0), (Value.int 0 0), (Value.int 3 0), (Value.ref 129), (Value.bool true), (Value.int 181 0), (Value.ref 130), Value.none, (Value.ref 131), (Value.ref 132), (Value.ref 133), (Value.int 361 0), (Value.int 172 0), (Value.str (hStr "/claim/cut.py") 362)]) #[])),
  (135, (Obj.mk (Value.type "function") none (Data.func (FuncData.mk (hStr "_law_record_is_right") (hStr "_law_record_is_right") (hPar (hSt 18)) (hBody (hSt 18)) (hScope (hSt 18)) 3 [] Value.none Value.none Value.none (Value.str (hStr "law_om0028_01") 291) none (Value.ref 134) Value.none 0)) #[])),
  (136, (Obj.mk (Value.type "tuple") none (Data.seq #[] 0) #[])),
  (139, (Obj.mk (Value.type "code") none (Data.fields #[(Value.str (hStr "_law_parts_are_right") 364), (Value.str (hStr "_law_parts_are_right") 365), (Value.str (hStr "/claim/cut.py") 366), (Value.int 177 0), (Value.int 3 0), (Value.int 0 0), (Value.int 0 0), (Value.int 3 0), (Value.ref 136), (Value.bool true), (Value.int 181 0), (Value.ref 137), Value.none, Value.none, Value.none, (Value.ref 138), (Value.int 367 0), (Value.int 177 0), (Value.str (hStr "/claim/cut.py") 368)]) #[])),
  (140, (Obj.mk (Value.type "function") none (Data.func (FuncData.mk (hStr "_law_parts_are_right") (hStr "_law_parts_are_right") (hPar (hSt 19)) (hBody (hSt 19)) (hScope (hSt 19)) 3 [] Value.none Value.none Value.none (Value.str (hStr "law_om0028_01") 291) none (Value.ref 139) Value.none 0)) #[])),
  (141, (Obj.mk (Value.type "tuple") none (Data.seq #[] 0) #[])),
  (144, (Obj.mk (Value.type "code") none (Data.fields #[(Value.str (hStr "_law_pairs_are_right") 370), (Value.str (hStr "_law_pairs_are_right") 371), (Value.str (hStr "/claim/cut.py") 372), (Value.int 189 0), (Value.int 1 0), (Value.int 0 0), (Value.int 0 0), (Value.int 3 0), (Value.ref 141), (Value.bool true), (Value.int 181 0), (Value.ref 142), Value.none, Value.none, Value.none, (Value.ref 143), (Value.int 373 0), (Value.int 189 0), (Value.str (hStr "/claim/cut.py") 374)]) #[])),
  (145, (Obj.mk (Value.type "function") none (Data.func (FuncData.mk (hStr "_law_pairs_are_right") (hStr "_law_pairs_are_right") (hPar (hSt 20)) (hBody (hSt 20)) (hScope (hSt 20)) 3 [] Value.none Value.none Value.none (Value.str (hStr "law_om0028_01") 291) none (Value.ref 144) Value.none 0)) #[])),
  (146, (Obj.mk (Value.type "tuple") none (Data.seq #[] 0) #[])),
  (149, (Obj.mk (Value.type "code") none (Data.fields #[(Value.str (hStr "law") 376), (Value.str (hStr "law") 377), (Value.str (hStr "/claim/cut.py") 378), (Value.int 195 0), (Value.int 1 0), (Value.int 0 0), (Value.int 0 0), (Value.int 3 0), (Value.ref 146), (Value.bool true), (Value.int 181 0), (Value.ref 147), Value.none, Value.none, Value.none, (Value.ref 148), (Value.int 379 0), (Value.int 195 0), (Value.str (hStr "/claim/cut.py") 380)]) #[])),
  (150, (Obj.mk (Value.type "function") none (Data.func (FuncData.mk (hStr "law") (hStr "law") (hPar (hSt 21)) (hBody (hSt 21)) (hScope (hSt 21)) 3 [] Value.none Value.none Value.none (Value.str (hStr "law_om0028_01") 291) none (Value.ref 149) Value.none 0)) #[]))]
noncomputable def hView : Program := { hPw with main := { hPw.main with body := [1, 2, 4, 7, 9, 10, 11, 12, 13, 14, 15, 16, 17, 18, 19, 20, 21].map hSt } }
noncomputable def hAddrs : List Addr := [2, 3, 22, 24, 25, 27, 28, 29, 31, 32, 34, 35, 36, 38, 39, 41, 42, 43, 45, 46, 48, 49, 50, 51, 52, 53, 54, 57, 59, 60, 62, 63, 64, 65, 66, 68, 69, 71, 72, 73, 75, 76, 78, 79, 80, 83, 84, 85, 87, 88, 90, 91, 92, 95, 96, 97, 100, 101, 102, 104, 105, 107, 108, 109, 112, 113, 114, 117, 118, 119, 122, 123, 124, 127, 128, 129, 131, 132, 134, 135, 136, 139, 140, 141, 144, 145, 146, 149, 150]
theorem hAddrs_eq (P : Params) : hAddrs = (hFrag P).map (·.1) := by kernel_rfl
noncomputable abbrev hHook : Hook := kmHook hFrag hAddrs hAddrs_eq [137, 147]
noncomputable abbrev hLoose : List Str := [Str.ofString "_initial_missing", Str.ofString "reduce"]
noncomputable abbrev hRow : OpenRow := PySem.Challenge.rw_om0028_01.row
theorem hSaid : PySem.Challenge.rw_om0028_01.wellSaid = true := by kernel_rfl
theorem hLeft : LeftO hRow.prog hView hLoose (fun s => xlAt hView [] s && recOk (RowW.records hRow.toRowW) s) (Hook.obs hHook) (Hook.val hHook) 1822 := by
  intro w
  kernel_rfl
noncomputable def hLaw : DefRec := match defOf hView hRow.name with | some (d, _) => d | none => ⟨"", ⟨[], [], none, [], [], none, []⟩, [], default, ⟨0, 0, 0, 0⟩⟩
theorem hd (walk : WalkO hView hLoose (XL hView []) (Hook.says hHook) hRow.toRowW hLaw [] fun f vs => call f vs) : PySem.Challenge.rw_om0028_01.Holds := by
  w_on
  refine holds_law hSaid fun sd => ?_
  refine holds_open (q := hView) (loose := hLoose) (Xt := fun s => xlAt hView [] s && recOk (RowW.records hRow.toRowW) s) (XP := XL hView []) (Yf := Hook.obs hHook) (Ya := Hook.val hHook) (YP := Hook.says hHook) (N := 1822) hLeft (Hook.of hHook) (Hook.keeps hHook) (fun s e => xl_of s (Bool.and_eq_true_iff.mp e).1) XL.keeps (by kernel_rfl) (by kernel_rfl) (by kernel_rfl) (fun s e => recFacts_of (Bool.and_eq_true_iff.mp e).2) (by rfl) sd (by kernel_rfl) ⟨rfl, rfl, rfl, rfl, rfl, by decide +kernel⟩ ?hw walk
  case hw => w_witness2
end Mine
end

-- Core
section
open PySem PySem.W PyProof.Rows PySem.Calls
set_option maxRecDepth 100000
namespace Mine

/-- the parts of a statement, of an expression -/
noncomputable def stX : Stmt → Expr × List Stmt × List Stmt × List ExceptHandler
  | .Assign _ v _ => (v, [], [], [])
  | .Expr v _ => (v, [], [], [])
  | .If t b o _ => (t, b, o, [])
  | .For _ i b o _ => (i, b, o, [])
  | .While t b o _ => (t, b, o, [])
  | .Try b hs o _ _ => (.Constant .none 0 ⟨0, 0, 0, 0⟩, b, o, hs)
  | _ => (.Constant .none 0 ⟨0, 0, 0, 0⟩, [], [], [])
noncomputable def stH (ss : List Stmt) : Expr × List Stmt × List Stmt × List ExceptHandler := stX (ss.headD (.Pass ⟨0, 0, 0, 0⟩))
noncomputable def exX (e : Expr) : List Expr × List Comprehension × Scope × Arguments := match e with
  | .ListComp x gs sc _ => ([x], gs, sc, default)
  | .Call _ a _ _ => (a, [], default, default)
  | .Lambda p b sc _ => ([b], [], sc, p)
  | .Compare _ _ cs _ => (cs, [], default, default)
  | _ => ([e], [], default, default)
noncomputable def exH (e : Expr) : Expr := (exX e).1.headD (.Constant .none 0 ⟨0, 0, 0, 0⟩)
noncomputable def exTag : Expr → Bool × Bool × Bool
  | .Starred .. => (false, true, true)
  | .Set .. => (true, false, true)
  | .ListComp .. => (true, true, false)
  | .SetComp .. => (true, true, false)
  | .DictComp .. => (true, true, false)
  | _ => (true, true, true)

theorem len0 {α : Type} {l : List α} (h : l.length = 0) : l = [] := List.length_eq_zero_iff.mp h
theorem lenS {α : Type} {l : List α} {n : Nat} (h : l.length = n + 1) : ∃ a r, l = a :: r ∧ r.length = n := by
  cases l with
  | nil => cases h
  | cons a r => exact ⟨a, r, rfl, Nat.succ.inj h⟩
theorem len1 {α : Type} {l : List α} (h : l.length = 1) : ∃ a, l = [a] := by
  obtain ⟨a, r, rfl, h'⟩ := lenS h; cases len0 h'; exact ⟨a, rfl⟩
theorem len2 {α : Type} {l : List α} (h : l.length = 2) : ∃ a b, l = [a, b] := by
  obtain ⟨a, r, rfl, h'⟩ := lenS h; obtain ⟨b, rfl⟩ := len1 h'; exact ⟨a, b, rfl⟩
theorem len3 {α : Type} {l : List α} (h : l.length = 3) : ∃ a b c, l = [a, b, c] := by
  obtain ⟨a, r, rfl, h'⟩ := lenS h; obtain ⟨b, c, rfl⟩ := len2 h'; exact ⟨a, b, c, rfl⟩
theorem len4 {α : Type} {l : List α} (h : l.length = 4) : ∃ a b c d, l = [a, b, c, d] := by
  obtain ⟨a, r, rfl, h'⟩ := lenS h; obtain ⟨b, c, d, rfl⟩ := len3 h'; exact ⟨a, b, c, d, rfl⟩
theorem len6 {α : Type} {l : List α} (h : l.length = 6) : ∃ a b c d e f, l = [a, b, c, d, e, f] := by
  obtain ⟨a, r, rfl, h1⟩ := lenS h; obtain ⟨b, r2, rfl, h2⟩ := lenS h1; obtain ⟨c, d, e, f, rfl⟩ := len4 h2; exact ⟨a, b, c, d, e, f, rfl⟩
theorem len_le4 {α : Type} {l : List α} (h : l.length ≤ 4) : l = [] ∨ (∃ a, l = [a]) ∨ (∃ a b, l = [a, b]) ∨ (∃ a b c, l = [a, b, c]) ∨ ∃ a b c d, l = [a, b, c, d] := by
  have : l.length = 0 ∨ l.length = 1 ∨ l.length = 2 ∨ l.length = 3 ∨ l.length = 4 := (show ∀ n : Fin 5, n.1 = 0 ∨ n.1 = 1 ∨ n.1 = 2 ∨ n.1 = 3 ∨ n.1 = 4 by decide) ⟨l.length, Nat.lt_succ_of_le h⟩
  rcases this with h | h | h | h | h
  · exact .inl (len0 h)
  · exact .inr (.inl (len1 h))
  · exact .inr (.inr (.inl (len2 h)))
  · exact .inr (.inr (.inr (.inl (len3 h))))
  · exact .inr (.inr (.inr (.inr (len4 h))))

inductive D where
  | none | bool (b : Bool) | int (i : Int) | str (s : Str)
  | lst (ds : List D) | tup (ds : List D)
  | ent (a : Addr) (ns : List Str) (ds : List D)
  | raw (v : Value)

theorem obnd {α β : Type} {o : Option α} {f : α → Option β} {b : β} (h : o.bind f = some b) : ∃ a, o = some a ∧ f a = some b := Option.bind_eq_some_iff.mp h
theorem omap {α β : Type} {o : Option α} {f : α → β} {b : β} (h : o.map f = some b) : ∃ a, o = some a ∧ f a = b := Option.map_eq_some_iff.mp h
theorem ite1 {α : Type} {c : Prop} [Decidable c] {x : Option α} {b : α} (h : (if c then x else none) = some b) : c ∧ x = some b := by
  by_cases q : c
  · rw [if_pos q] at h; exact ⟨q, h⟩
  · rw [if_neg q] at h; cases h
noncomputable def D.gI : D → Option Int
  | .int i => some i
  | _ => .none
noncomputable def D.gS : D → Option Str
  | .str s => some s
  | _ => .none
noncomputable def D.gL : D → Option (List D)
  | .lst l => some l
  | _ => .none
noncomputable def D.gB : D → Option Bool
  | .bool b => some b
  | _ => .none
noncomputable def D.gE : D → Option Addr
  | .ent a _ _ => some a
  | _ => .none
theorem no {α : Type} {p : Prop} {i : α} (h : (none : Option α) = some i) : p := nomatch h
theorem D.gI_eq {d : D} {i : Int} (h : d.gI = some i) : d = .int i := by cases d <;> first | exact no h | exact congrArg D.int (Option.some.inj h)
theorem D.gS_eq {d : D} {i : Str} (h : d.gS = some i) : d = .str i := by cases d <;> first | exact no h | exact congrArg D.str (Option.some.inj h)
theorem D.gL_eq {d : D} {i : List D} (h : d.gL = some i) : d = .lst i := by cases d <;> first | exact no h | exact congrArg D.lst (Option.some.inj h)
theorem D.gB_eq {d : D} {i : Bool} (h : d.gB = some i) : d = .bool i := by cases d <;> first | exact no h | exact congrArg D.bool (Option.some.inj h)
theorem D.gE_eq {d : D} {i : Addr} (h : d.gE = some i) : ∃ ns ds, d = .ent i ns ds := by cases d <;> first | exact no h | exact ⟨_, _, congrArg (fun a => D.ent a _ _) (Option.some.inj h)⟩
theorem bdI {β : Type} {o : Option D} {f : Int → Option β} {b : β} (h : (o.bind D.gI).bind f = some b) : ∃ i, o = some (.int i) ∧ f i = some b := by
  obtain ⟨i, h1, h2⟩ := obnd h; obtain ⟨d, h3, h4⟩ := obnd h1; cases D.gI_eq h4; exact ⟨i, h3, h2⟩
theorem bdS {β : Type} {o : Option D} {f : Str → Option β} {b : β} (h : (o.bind D.gS).bind f = some b) : ∃ i, o = some (.str i) ∧ f i = some b := by
  obtain ⟨i, h1, h2⟩ := obnd h; obtain ⟨d, h3, h4⟩ := obnd h1; cases D.gS_eq h4; exact ⟨i, h3, h2⟩
theorem bdB {β : Type} {o : Option D} {f : Bool → Option β} {b : β} (h : (o.bind D.gB).bind f = some b) : ∃ i, o = some (.bool i) ∧ f i = some b := by
  obtain ⟨i, h1, h2⟩ := obnd h; obtain ⟨d, h3, h4⟩ := obnd h1; cases D.gB_eq h4; exact ⟨i, h3, h2⟩
theorem bdL {β : Type} {o : Option D} {f : List D → Option β} {b : β} (h : (o.bind D.gL).bind f = some b) : ∃ i, o = some (.lst i) ∧ f i = some b := by
  obtain ⟨i, h1, h2⟩ := obnd h; obtain ⟨d, h3, h4⟩ := obnd h1; cases D.gL_eq h4; exact ⟨i, h3, h2⟩
theorem bd2 {β : Type} {o q : Option D} {f : D → D → Option β} {b : β} (h : (o.bind fun x => q.bind fun y => f x y) = some b) : ∃ x y, o = some x ∧ q = some y ∧ f x y = some b := by
  obtain ⟨x, h1, h2⟩ := obnd h; obtain ⟨y, h3, h4⟩ := obnd h2; exact ⟨x, y, h1, h3, h4⟩

mutual
noncomputable def Rep (W : List Addr) (h : Heap) : D → Value → Prop
  | .none, v => v = .none
  | .bool b, v => v = .bool b
  | .int i, v => ∃ t, v = .int i t
  | .str s, v => ∃ t, v = .str s t
  | .lst ds, v => ∃ a its, v = .ref a ∧ a ∉ W ∧ h.IsList a its ∧ Reps W h ds its.toList
  | .tup ds, v => ∃ a its, v = .ref a ∧ a ∉ W ∧ h.IsTuple a its ∧ Reps W h ds its.toList
  | .ent a ns ds, v => v = .ref a ∧ a ∉ W ∧ ∃ o dx us, h.get? a = some o ∧ o.cls = .ref 52 ∧ (∀ c, o.data ≠ .cls c) ∧ o.dict = some dx ∧ dx ≠ a ∧ dx ∉ W ∧
      h.Ns1 dx (fun x => (ns.zip us).lookup x) ∧ Reps W h ds us
  | .raw u, v => v = u
noncomputable def Reps (W : List Addr) (h : Heap) : List D → List Value → Prop
  | [], vs => vs = []
  | d :: ds, vs => ∃ v r, vs = v :: r ∧ Rep W h d v ∧ Reps W h ds r
end

/-- every object of h off X stands in h' -/
noncomputable def KX (X : List Addr) (h h' : Heap) : Prop := ∀ b o, b ∉ X → h.get? b = some o → h'.get? b = some o
theorem KX.refl (X : List Addr) (h : Heap) : KX X h h := fun _ _ _ e => e
theorem KX.trans {X : List Addr} {h h' h'' : Heap} (a : KX X h h') (b : KX X h' h'') : KX X h h'' := fun x o n e => b x o n (a x o n e)
theorem KX.mono {X Y : List Addr} {h h' : Heap} (a : KX X h h') (hs : ∀ x ∈ X, x ∈ Y) : KX Y h h' := fun x o n e => a x o (fun m => n (hs x m)) e
theorem KX.of {X : List Addr} {h h' : Heap} (a : ∀ b o, h.get? b = some o → h'.get? b = some o) : KX X h h' := fun x o _ e => a x o e

mutual
theorem Rep.mono {W : List Addr} {h h' : Heap} (hk : KX W h h') : ∀ {d : D} {v : Value}, Rep W h d v → Rep W h' d v
  | .none, _, r => by simpa [Rep] using r
  | .bool _, _, r => by simpa [Rep] using r
  | .int _, _, r => by simpa [Rep] using r
  | .str _, _, r => by simpa [Rep] using r
  | .raw _, _, r => by simpa [Rep] using r
  | .lst ds, v, r => by
    simp only [Rep] at r ⊢
    obtain ⟨a, its, hv, ha, ⟨o, ho, hl⟩, hr⟩ := r
    exact ⟨a, its, hv, ha, ⟨o, hk a o ha ho, hl⟩, Reps.mono hk hr⟩
  | .tup ds, v, r => by
    simp only [Rep] at r ⊢
    obtain ⟨a, its, hv, ha, ⟨o, ho, hl⟩, hr⟩ := r
    exact ⟨a, its, hv, ha, ⟨o, hk a o ha ho, hl⟩, Reps.mono hk hr⟩
  | .ent a ns ds, v, r => by
    simp only [Rep] at r ⊢
    obtain ⟨hv, ha, o, dx, us, ho, h1, h2, h3, h4, h5, h6, h7⟩ := r
    exact ⟨hv, ha, o, dx, us, hk a o ha ho, h1, h2, h3, h4, h5, h6.at (fun o e => hk dx o h5 e), Reps.mono hk h7⟩
theorem Reps.mono {W : List Addr} {h h' : Heap} (hk : KX W h h') : ∀ {ds : List D} {vs : List Value}, Reps W h ds vs → Reps W h' ds vs
  | [], _, r => by simpa [Reps] using r
  | d :: ds, vs, r => by
    simp only [Reps] at r ⊢
    obtain ⟨v, t, hv, h1, h2⟩ := r
    exact ⟨v, t, hv, Rep.mono hk h1, Reps.mono hk h2⟩
end
mutual
/-- weaker and stronger off-lists: all that is touched stands in h -/
theorem Rep.off {W W' : List Addr} {h : Heap} (hw : ∀ x ∈ W', x ∈ W ∨ h.get? x = none) : ∀ {d : D} {v : Value}, Rep W h d v → Rep W' h d v
  | .none, _, r => by simpa [Rep] using r
  | .bool _, _, r => by simpa [Rep] using r
  | .int _, _, r => by simpa [Rep] using r
  | .str _, _, r => by simpa [Rep] using r
  | .raw _, _, r => by simpa [Rep] using r
  | .lst ds, v, r => by
    simp only [Rep] at r ⊢
    obtain ⟨a, its, hv, ha, ⟨o, ho, hl⟩, hr⟩ := r
    refine ⟨a, its, hv, fun m => ?_, ⟨o, ho, hl⟩, Reps.off hw hr⟩
    rcases hw a m with q | q
    · exact ha q
    · rw [ho] at q; cases q
  | .tup ds, v, r => by
    simp only [Rep] at r ⊢
    obtain ⟨a, its, hv, ha, ⟨o, ho, hl⟩, hr⟩ := r
    refine ⟨a, its, hv, fun m => ?_, ⟨o, ho, hl⟩, Reps.off hw hr⟩
    rcases hw a m with q | q
    · exact ha q
    · rw [ho] at q; cases q
  | .ent a ns ds, v, r => by
    simp only [Rep] at r ⊢
    obtain ⟨hv, ha, o, dx, us, ho, h1, h2, h3, h4, h5, h6, h7⟩ := r
    refine ⟨hv, fun m => ?_, o, dx, us, ho, h1, h2, h3, h4, fun m => ?_, h6, Reps.off hw h7⟩
    · rcases hw a m with q | q
      · exact ha q
      · rw [ho] at q; cases q
    · rcases hw dx m with q | q
      · exact h5 q
      · obtain ⟨_, _, _, e, _⟩ := h6
        rw [e] at q; cases q
theorem Reps.off {W W' : List Addr} {h : Heap} (hw : ∀ x ∈ W', x ∈ W ∨ h.get? x = none) : ∀ {ds : List D} {vs : List Value}, Reps W h ds vs → Reps W' h ds vs
  | [], _, r => by simpa [Reps] using r
  | d :: ds, vs, r => by
    simp only [Reps] at r ⊢
    obtain ⟨v, t, hv, h1, h2⟩ := r
    exact ⟨v, t, hv, Rep.off hw h1, Reps.off hw h2⟩
end

theorem Reps.length {W : List Addr} {h : Heap} : ∀ {ds : List D} {vs : List Value}, Reps W h ds vs → vs.length = ds.length
  | [], _, r => by simp only [Reps] at r; simp [r]
  | d :: ds, vs, r => by
    simp only [Reps] at r
    obtain ⟨v, t, rfl, _, h2⟩ := r
    simp [Reps.length h2]
theorem Reps.get {W : List Addr} {h : Heap} : ∀ {ds : List D} {vs : List Value}, Reps W h ds vs → ∀ {i : Nat} {d : D}, ds[i]? = some d → ∃ v, vs[i]? = some v ∧ Rep W h d v
  | [], _, _, _, _, e => by simp at e
  | d :: ds, vs, r, 0, d', e => by
    simp only [Reps] at r
    obtain ⟨v, t, rfl, h1, h2⟩ := r
    simp at e; subst e; exact ⟨v, by simp, h1⟩
  | d :: ds, vs, r, i + 1, d', e => by
    simp only [Reps] at r
    obtain ⟨v, t, rfl, h1, h2⟩ := r
    simp at e; simpa using Reps.get h2 e
theorem Reps.getV {W : List Addr} {h : Heap} : ∀ {ds : List D} {vs : List Value}, Reps W h ds vs → ∀ {i : Nat} {v : Value}, vs[i]? = some v → ∃ d, ds[i]? = some d ∧ Rep W h d v
  | [], _, r, _, _, e => by simp only [Reps] at r; subst r; simp at e
  | d :: ds, vs, r, 0, d', e => by
    simp only [Reps] at r
    obtain ⟨v, t, rfl, h1, h2⟩ := r
    simp at e; subst e; exact ⟨d, by simp, h1⟩
  | d :: ds, vs, r, i + 1, d', e => by
    simp only [Reps] at r
    obtain ⟨v, t, rfl, h1, h2⟩ := r
    simp at e; simpa using Reps.getV h2 e
theorem Reps.append {W : List Addr} {h : Heap} : ∀ {ds ds' : List D} {vs vs' : List Value}, Reps W h ds vs → Reps W h ds' vs' → Reps W h (ds ++ ds') (vs ++ vs')
  | [], _, _, _, r, r' => by simp only [Reps] at r; subst r; simpa using r'
  | d :: ds, _, vs, _, r, r' => by
    simp only [Reps] at r
    obtain ⟨v, t, rfl, h1, h2⟩ := r
    simp only [List.cons_append, Reps]
    exact ⟨v, _, rfl, h1, Reps.append h2 r'⟩
theorem Reps.cons {W : List Addr} {h : Heap} {d : D} {ds : List D} {v : Value} {vs : List Value} (a : Rep W h d v) (b : Reps W h ds vs) : Reps W h (d :: ds) (v :: vs) := by
  simp only [Reps]; exact ⟨v, vs, rfl, a, b⟩
theorem Reps.nil {W : List Addr} {h : Heap} : Reps W h [] [] := by simp only [Reps]
theorem Reps.one {W : List Addr} {h : Heap} {d : D} {v : Value} (a : Rep W h d v) : Reps W h [d] [v] := Reps.cons a Reps.nil

/-- a frame: the names of m read as their data. W: the addresses that the frame itself writes (and others that no datum touches) -/
structure FR (W : List Addr) (sc : List (Str × NameKind)) (env : Env) (h : Heap) (m : List (Str × D)) : Prop where
  kind : env.scope.kind = .function
  globs : env.globals = mainGlobals
  blts : env.builtins = builtinsNs
  kinds : ∀ x, env.kindOf x = sc.lookup x ∨ (sc.lookup x = some .free ∧ env.kindOf x = some .cell)
  live : ∀ x ∈ W, ∃ o, h.get? x = some o
  loc : env.locals ∈ W
  cin : ∀ x c, env.cells.lookup x = some c → c ∈ W
  inj : ∀ x y c, env.cells.lookup x = some c → env.cells.lookup y = some c → x = y
  cell : ∀ x, (sc.lookup x = some .cell ∨ sc.lookup x = some .free) → ∃ c v, env.cells.lookup x = some c ∧ h.IsCell c v
  ns : ∃ μ, h.Ns env.locals μ ∧ ∀ x d, m.lookup x = some d →
    (sc.lookup x = some .local ∧ ∃ v, μ x = some v ∧ Rep W h d v) ∨
    ((sc.lookup x = some .cell ∨ sc.lookup x = some .free) ∧ ∃ c v, env.cells.lookup x = some c ∧ h.IsCell c (some v) ∧ Rep W h d v)

theorem FR.keep {W : List Addr} {sc : List (Str × NameKind)} {env : Env} {h h' : Heap} {m : List (Str × D)} (F : FR W sc env h m) (hk : ∀ b o, h.get? b = some o → h'.get? b = some o) : FR W sc env h' m := by
  refine ⟨F.kind, F.globs, F.blts, F.kinds, fun x hx => let ⟨o, e⟩ := F.live x hx; ⟨o, hk x o e⟩, F.loc, F.cin, F.inj, fun x hx => ?_, ?_⟩
  · obtain ⟨c, v, h1, h2⟩ := F.cell x hx
    exact ⟨c, v, h1, h2.keeps hk⟩
  · obtain ⟨μ, h1, h2⟩ := F.ns
    refine ⟨μ, h1.keeps hk, fun x d hx => ?_⟩
    rcases h2 x d hx with ⟨a, v, b, c⟩ | ⟨a, c, v, h3, h4, h5⟩
    · exact .inl ⟨a, v, b, c.mono (KX.of hk)⟩
    · exact .inr ⟨a, c, v, h3, h4.keeps hk, h5.mono (KX.of hk)⟩

section
variable {prog : Program} {w : World} {A : Around} {E : Value → Shared → Prop} {s : Shared}
variable {W : List Addr} {sc : List (Str × NameKind)} {env : Env} {m : List (Str × D)}

theorem FR.load {M : Model} (F : FR W sc env s.heap m) {x : Str} {d : D} {Q : Value → Shared → Prop} (hx : m.lookup x = some d) (hn : (x == ("__classdict__" : Str)) = false) (hq : ∀ v, Rep W s.heap d v → Q v s) :
    wpAny M A (loadName env x) Q E s := by
  obtain ⟨μ, h1, h2⟩ := F.ns
  rcases h2 x d hx with ⟨a, v, b, c⟩ | ⟨a, c, v, h3, h4, h5⟩
  · have hk : env.kindOf x = some .local := by
      rcases F.kinds x with q | q
      · rw [q, a]
      · rw [a] at q; exact nomatch q.1
    exact wpAny_loadName_local F.kind hk h1 b (hq v c)
  · rcases F.kinds x with q | q
    · rcases a with a | a
      · exact wpAny_loadName_cell F.kind (q.trans a) h3 h4 (hq v h5)
      · exact wpAny_loadName_free F.kind (q.trans a) h3 h4 (hq v h5) hn
    · exact wpAny_loadName_cell F.kind q.2 h3 h4 (hq v h5)

theorem lookup_cons_ne {α : Type} {x y : Str} {a : α} {l : List (Str × α)} (h : y ≠ x) : ((x, a) :: l).lookup y = l.lookup y := by
  rw [List.lookup_cons]
  have : (y == x) = false := by simpa using h
  rw [this]
theorem lookup_cons_self {α : Type} {x : Str} {a : α} {l : List (Str × α)} : ((x, a) :: l).lookup x = some a := by
  rw [List.lookup_cons]; simp

theorem FR.store {M : Model} (F : FR W sc env s.heap m) {x : Str} {d : D} {v : Value} {Q : Unit → Shared → Prop} (hx : sc.lookup x = some .local ∨ sc.lookup x = some .cell) (hr : Rep W s.heap d v)
    (hq : ∀ h' tk, FR W sc env h' ((x, d) :: m) → KX W s.heap h' → (∃ a, (a = env.locals ∨ (sc.lookup x = some .cell ∧ env.cells.lookup x = some a)) ∧ ∀ b o, b ≠ a → s.heap.get? b = some o → h'.get? b = some o) → Q () { s with heap := h', toks := tk }) :
    wpAny M A (storeName env x v) Q E s := by
  obtain ⟨μ, h1, h2⟩ := F.ns
  rcases hx with hx | hx
  · have hk : env.kindOf x = some .local := by
      rcases F.kinds x with q | q
      · rw [q, hx]
      · rw [hx] at q; exact nomatch q.1
    refine wpAny_storeName_local hk h1 (fun h' hn hs => ?_) (by rw [F.kind]; rfl)
    have kx : KX W s.heap h' := fun b o n e => (hs.2 b fun q => n (q ▸ F.loc)).trans e
    have lv : ∀ y ∈ W, ∃ o, h'.get? y = some o := fun y hy => by
      by_cases q : y = env.locals
      · obtain ⟨o, _, _, e, _⟩ := hn; exact ⟨o, q ▸ e⟩
      · obtain ⟨o, e⟩ := F.live y hy; exact ⟨o, (hs.2 y q).trans e⟩
    refine hq h' _ ⟨F.kind, F.globs, F.blts, F.kinds, lv, F.loc, F.cin, F.inj, fun y hy => ?_, ⟨_, hn, fun y d' hy => ?_⟩⟩ kx ⟨_, .inl rfl, fun b o nb e => (hs.2 b nb).trans e⟩
    · obtain ⟨c, u, h3, h4⟩ := F.cell y hy
      refine ⟨c, u, h3, h4.sameBut hs fun q => ?_⟩
      obtain ⟨o, es, ep, e, hd, _⟩ := h1
      obtain ⟨o', e', hd'⟩ := h4
      rw [q, e] at e'; cases e'; rw [hd] at hd'; cases hd'
    · by_cases e : y = x
      · subst e
        rw [lookup_cons_self] at hy; cases hy
        exact .inl ⟨hx, v, by simp, hr.mono kx⟩
      · rw [lookup_cons_ne e] at hy
        rcases h2 y d' hy with ⟨a, u, b, c⟩ | ⟨a, c, u, h3, h4, h5⟩
        · exact .inl ⟨a, u, by rw [if_neg e]; exact b, c.mono kx⟩
        · refine .inr ⟨a, c, u, h3, h4.sameBut hs fun q => ?_, h5.mono kx⟩
          obtain ⟨o, es, ep, e, hd, _⟩ := h1
          obtain ⟨o', e', hd'⟩ := h4
          rw [q, e] at e'; cases e'; rw [hd] at hd'; cases hd'
  · have hk : env.kindOf x = some .cell := by
      rcases F.kinds x with q | q
      · rw [q, hx]
      · exact q.2
    obtain ⟨c, u, h3, h4⟩ := F.cell x (.inl hx)
    refine wpAny_storeName_cell F.kind hk h3 h4 fun h' hc hs => ?_
    have kx : KX W s.heap h' := fun b o n e => (hs.2 b fun q => n (q ▸ F.cin x c h3)).trans e
    have hLc : env.locals ≠ c := fun q => by
      obtain ⟨o, es, ep, e, hd, _⟩ := h1
      obtain ⟨o', e', hd'⟩ := h4
      rw [← q, e] at e'; cases e'; rw [hd] at hd'; cases hd'
    have lv : ∀ y ∈ W, ∃ o, h'.get? y = some o := fun y hy => by
      by_cases q : y = c
      · obtain ⟨o, e, _⟩ := hc; exact ⟨o, q ▸ e⟩
      · obtain ⟨o, e⟩ := F.live y hy; exact ⟨o, (hs.2 y q).trans e⟩
    refine hq h' s.toks ⟨F.kind, F.globs, F.blts, F.kinds, lv, F.loc, F.cin, F.inj, fun y hy => ?_, ⟨μ, h1.sameBut hs hLc, fun y d' hy => ?_⟩⟩ kx ⟨c, .inr ⟨hx, h3⟩, fun b o nb e => (hs.2 b nb).trans e⟩
    · obtain ⟨c', u', h5, h6⟩ := F.cell y hy
      by_cases q : c' = c
      · subst q; exact ⟨c', _, h5, hc⟩
      · exact ⟨c', u', h5, h6.sameBut hs q⟩
    · by_cases e : y = x
      · subst e
        rw [lookup_cons_self] at hy; cases hy
        exact .inr ⟨.inl hx, c, v, h3, hc, hr.mono kx⟩
      · rw [lookup_cons_ne e] at hy
        rcases h2 y d' hy with ⟨a, u, b, c⟩ | ⟨a, c', u, h5, h6, h7⟩
        · exact .inl ⟨a, u, b, c.mono kx⟩
        · exact .inr ⟨a, c', u, h5, h6.sameBut hs (fun q => e (F.inj y x c (q ▸ h5) h3)), h7.mono kx⟩
end
end Mine
end

-- Ops
section
open PySem PySem.W PyProof.Rows PySem.Calls PySem.SeqAt
set_option maxRecDepth 100000
namespace Mine

noncomputable def peqs (f : D → D → Option Bool) : List D → List D → Option Bool
  | [], [] => some true
  | x :: xs, y :: ys => match f x y, peqs f xs ys with
    | some a, some b => some (a && b)
    | _, _ => none
  | _, _ => none
noncomputable def peq : Nat → D → D → Option Bool
  | 0, _, _ => none
  | n + 1, a, b => match a with
    | .none => (match b with | .none => some true | .int _ => some false | _ => none)
    | .bool x => (match b with | .bool y => some (x == y) | _ => none)
    | .int x => (match b with | .none => some false | .int y => some (x == y) | _ => none)
    | .str x => (match b with | .str y => some (x == y) | _ => none)
    | .lst xs => (match b with | .lst ys => if xs.length = ys.length then peqs (peq n) xs ys else some false | _ => none)
    | .tup xs => (match b with | .tup ys => if xs.length = ys.length then peqs (peq n) xs ys else none | _ => none)
    | _ => none

noncomputable def eJ (f : D → D → Option Bool) (xs ys : List D) (j : Nat) : Bool := match xs[j]?, ys[j]? with
  | some x, some y => (f x y).getD false
  | _, _ => false
theorem peqs_all {f : D → D → Option Bool} : ∀ {xs ys : List D} {r : Bool}, peqs f xs ys = some r → (List.range xs.length).all (eJ f xs ys) = r ∧ (∀ (j : Nat) (x y : D), xs[j]? = some x → ys[j]? = some y → ∃ b, f x y = some b) ∧ xs.length = ys.length
  | [], [], r, h => by cases (show some true = some r from h); exact ⟨rfl, nofun, rfl⟩
  | [], _ :: _, r, h => nomatch (show (none : Option Bool) = some r from h)
  | _ :: _, [], r, h => nomatch (show (none : Option Bool) = some r from h)
  | x :: xs, y :: ys, r, h => by
    simp only [peqs] at h
    split at h
    · rename_i a b ha hb
      cases h
      obtain ⟨h1, h2, h3⟩ := peqs_all hb
      refine ⟨?_, fun j x' y' e1 e2 => ?_, by simp [h3]⟩
      · rw [List.length_cons, List.range_succ_eq_map, List.all_cons, List.all_map]
        have e0 : eJ f (x :: xs) (y :: ys) 0 = a := by simp [eJ, ha]
        have e1 : (eJ f (x :: xs) (y :: ys) ∘ Nat.succ) = eJ f xs ys := by funext j; simp [eJ]
        rw [e0, e1, h1]
      · cases j with
        | zero => simp at e1 e2; subst e1 e2; exact ⟨a, ha⟩
        | succ j => simp at e1 e2; exact h2 j x' y' e1 e2
    · cases h

theorem peq_same {W : List Addr} {h : Heap} : ∀ {n : Nat} {a b : D} {v : Value} {r : Bool}, Rep W h a v → Rep W h b v → peq n a b = some r → r = true := by
  intro n
  induction n with
  | zero => intro a b v r _ _ h; nomatch (show (none : Option Bool) = some r from h)
  | succ n ih =>
    intro a b v r ha hb e
    have list : ∀ (xs ys : List D) (its : List Value), Reps W h xs its → Reps W h ys its → peqs (peq n) xs ys = some r → r = true := by
      intro xs ys its h1 h2 e
      obtain ⟨e1, e2, e3⟩ := peqs_all e
      rw [← e1, List.all_eq_true]
      intro j hj
      have hj' : j < xs.length := List.mem_range.mp hj
      have gx : xs[j]? = some xs[j] := List.getElem?_eq_getElem hj'
      have gy : ys[j]? = some (ys[j]'(by omega)) := List.getElem?_eq_getElem (by omega)
      obtain ⟨b, hb⟩ := e2 j _ _ gx gy
      obtain ⟨v1, g1, r1⟩ := h1.get gx
      obtain ⟨v2, g2, r2⟩ := h2.get gy
      rw [g1] at g2; cases g2
      have := ih r1 r2 hb
      subst this
      simp [eJ, gx, gy, hb]
    unfold peq at e
    split at e <;> (try (split at e)) <;> (try (cases e)) <;> simp only [Rep] at ha hb
    · rfl
    · obtain ⟨_, rfl⟩ := hb; cases ha
    · subst ha; cases hb; simp
    · obtain ⟨_, rfl⟩ := ha; cases hb
    · obtain ⟨_, rfl⟩ := ha; obtain ⟨_, hb⟩ := hb; cases hb; simp
    · obtain ⟨_, rfl⟩ := ha; obtain ⟨_, hb⟩ := hb; cases hb; simp
    · obtain ⟨l, its, rfl, _, ⟨o, ho, _, k, hd⟩, hr⟩ := ha
      obtain ⟨l', its', hl, _, ⟨o', ho', _, k', hd'⟩, hr'⟩ := hb
      cases hl
      rw [ho] at ho'; cases ho'
      rw [hd] at hd'; cases hd'
      split at e
      · exact list _ _ _ hr hr' e
      · rename_i hne
        exact absurd (hr.length.symm.trans hr'.length) hne
    · obtain ⟨l, its, rfl, _, ⟨o, ho, _, k, hd⟩, hr⟩ := ha
      obtain ⟨l', its', hl, _, ⟨o', ho', _, k', hd'⟩, hr'⟩ := hb
      cases hl
      rw [ho] at ho'; cases ho'
      rw [hd] at hd'; cases hd'
      split at e
      · exact list _ _ _ hr hr' e
      · cases e

theorem min_self' (n : Nat) : min n n = n := Nat.min_self n

/-- == of two data: eqBool, rich comparison by == and by != -/
theorem rep_eqAt {W : List Addr} {s : Shared} : ∀ {n : Nat} {A : Around} {a b : D} {va vb : Value} {r : Bool}, A.units + n < cLine → Rep W s.heap a va → Rep W s.heap b vb → peq n a b = some r →
    EqAt A s va vb r ∧ RcAt A s va vb r ∧ RcNeAt A s va vb (!r) := by
  intro n
  induction n with
  | zero => intro A a b va vb r _ _ _ h; nomatch (show (none : Option Bool) = some r from h)
  | succ n ih =>
    intro A a b va vb r hu ha hb e
    have es := e
    have same := @peq_same W s.heap (n + 1) a b
    have hu' : A.units < cLine := by omega
    have items : ∀ (xs ys : List D) (i1 i2 : Array Value), Reps W s.heap xs i1.toList → Reps W s.heap ys i2.toList → peqs (peq n) xs ys = some r →
        i1.size = i2.size ∧ (∀ j (h1 : j < i1.size) (h2 : j < i2.size), EqAt A.in1 s i1[j] i2[j] (eJ (peq n) xs ys j)) ∧ (List.range i1.size).all (eJ (peq n) xs ys) = r := by
      intro xs ys i1 i2 h1 h2 e
      obtain ⟨e1, e2, e3⟩ := peqs_all e
      have l1 := h1.length
      have l2 := h2.length
      rw [Array.length_toList] at l1 l2
      refine ⟨by omega, fun j q1 q2 => ?_, by rw [l1]; exact e1⟩
      have gx : xs[j]? = some (xs[j]'(by omega)) := List.getElem?_eq_getElem (by omega)
      have gy : ys[j]? = some (ys[j]'(by omega)) := List.getElem?_eq_getElem (by omega)
      obtain ⟨b, hb⟩ := e2 j _ _ gx gy
      obtain ⟨v1, g1, r1⟩ := h1.get gx
      obtain ⟨v2, g2, r2⟩ := h2.get gy
      have ee : eJ (peq n) xs ys j = b := by simp [eJ, gx, gy, hb]
      rw [Array.getElem?_toList, Array.getElem?_eq_getElem q1] at g1
      rw [Array.getElem?_toList, Array.getElem?_eq_getElem q2] at g2
      cases g1; cases g2
      rw [ee]
      exact (ih (A := A.in1) (by show A.units + 1 + n < cLine; omega) r1 r2 hb).1
    unfold peq at e
    split at e <;> (try (split at e)) <;> (try (cases e)) <;> simp only [Rep] at ha hb
    · subst ha hb; exact ⟨EqAt.same _, RcAt.none_none, RcNeAt.none_none⟩
    · obtain ⟨_, rfl⟩ := hb; subst ha; exact ⟨EqAt.none_int _ _, RcAt.none_int _ _, RcNeAt.none_int _ _⟩
    · subst ha hb; exact ⟨EqAt.bool_bool _ _, RcAt.bool_bool _ _, RcNeAt.bool_bool _ _⟩
    · obtain ⟨_, rfl⟩ := ha; subst hb; exact ⟨EqAt.int_none _ _, RcAt.int_none _ _, RcNeAt.int_none _ _⟩
    · obtain ⟨_, rfl⟩ := ha; obtain ⟨_, rfl⟩ := hb; exact ⟨EqAt.int_int _ _ _ _, RcAt.int_int _ _ _ _, RcNeAt.int_int _ _ _ _⟩
    · obtain ⟨_, rfl⟩ := ha; obtain ⟨_, rfl⟩ := hb; exact ⟨EqAt.str_str _ _ _ _, RcAt.str_str _ _ _ _, RcNeAt.str_str _ _ _ _⟩
    · rename_i xs _ ys
      have ra : Rep W s.heap (.lst xs) va := by simp only [Rep]; exact ha
      have rb : Rep W s.heap (.lst ys) vb := by simp only [Rep]; exact hb
      obtain ⟨l, its, rfl, _, hl, hr⟩ := ha
      obtain ⟨l', its', rfl, _, hl', hr'⟩ := hb
      have eqs : ∀ {r}, RcAt A s (.ref l) (.ref l') r → peq (n + 1) (.lst xs) (.lst ys) = some r → EqAt A s (.ref l) (.ref l') r := fun {r} q e' => by
        by_cases hll : l = l'
        · subst hll
          have : r = true := same ra rb e'
          subst this
          exact EqAt.same _
        · exact EqAt.of_refs hll q
      split at e
      · obtain ⟨i1, i2, i3⟩ := items xs ys its its' hr hr' e
        have q1 := RcAt.lists hl hl' i1 hu' i2
        have q2 := RcNeAt.lists hl hl' i1 hu' i2
        rw [i3] at q1 q2
        exact ⟨eqs q1 es, q1, q2⟩
      · rename_i hne
        cases e
        have l1 := hr.length
        have l2 := hr'.length
        rw [Array.length_toList] at l1 l2
        have hsz : (its.size != its'.size) = true := by simp; omega
        have q1 := RcAt.lists_lengths hl hl' hsz hu'
        exact ⟨eqs q1 es, q1, RcNeAt.lists_lengths hl hl' hsz hu'⟩
    · rename_i xs _ ys
      have ra : Rep W s.heap (.tup xs) va := by simp only [Rep]; exact ha
      have rb : Rep W s.heap (.tup ys) vb := by simp only [Rep]; exact hb
      obtain ⟨l, its, rfl, _, hl, hr⟩ := ha
      obtain ⟨l', its', rfl, _, hl', hr'⟩ := hb
      have eqs : ∀ {r}, RcAt A s (.ref l) (.ref l') r → peq (n + 1) (.tup xs) (.tup ys) = some r → EqAt A s (.ref l) (.ref l') r := fun {r} q e' => by
        by_cases hll : l = l'
        · subst hll
          have : r = true := same ra rb e'
          subst this
          exact EqAt.same _
        · exact EqAt.of_refs hll q
      split at e
      · obtain ⟨i1, i2, i3⟩ := items xs ys its its' hr hr' e
        have q1 := RcAt.tuples hl hl' hu' i2
        have q2 := RcNeAt.tuples hl hl' hu' i2
        have : ((List.range (min its.size its'.size)).all (eJ (peq n) xs ys) && its.size == its'.size) = r := by rw [← i1, min_self', i3]; simp
        rw [this] at q1 q2
        exact ⟨eqs q1 es, q1, q2⟩
      · cases e
end Mine
end

-- Ops2
section
open PySem PySem.W PyProof.Rows PySem.Calls PySem.SeqAt
set_option maxRecDepth 100000
namespace Mine

theorem Keeps.rfl' (s : Shared) : Keeps s s := ⟨s.heap, s.toks, rfl, fun _ _ e => e⟩
theorem Keeps.tok (s : Shared) (t : Nat) : Keeps s { s with toks := t } := ⟨s.heap, t, rfl, fun _ _ e => e⟩
theorem Keeps.pushT (s : Shared) (o : Obj) (t : Nat) : Keeps s { s with heap := s.heap.push o, toks := t } := ⟨_, t, rfl, fun _ _ e => Heap.get?_push_of_some _ e⟩
theorem Keeps.push' (s : Shared) (o : Obj) : Keeps s { s with heap := s.heap.push o } := ⟨_, s.toks, rfl, fun _ _ e => Heap.get?_push_of_some _ e⟩
theorem ktr {s s' s'' : Shared} (a : Keeps s s') (b : Keeps s' s'') : Keeps s s'' := by
  obtain ⟨h, t, rfl, hk⟩ := a
  obtain ⟨h', t', rfl, hk'⟩ := b
  exact ⟨h', t', rfl, fun b o e => hk' b o (hk b o e)⟩
theorem kall {s s' : Shared} (a : Keeps s s') : ∀ b o, s.heap.get? b = some o → s'.heap.get? b = some o := by
  obtain ⟨h, t, rfl, hk⟩ := a; exact hk

theorem kopen {s s' : Shared} {P : Shared → Prop} (k : Keeps s s') (h : ∀ h₁ tk₁, (∀ b o, s.heap.get? b = some o → h₁.get? b = some o) → P { s with heap := h₁, toks := tk₁ }) : P s' :=
  let ⟨h₁, t₁, e, hk⟩ := k; e ▸ h h₁ t₁ hk

theorem kfor {s : Shared} {P : Shared → Prop} (h : ∀ h₁ tk₁, (∀ b o, s.heap.get? b = some o → h₁.get? b = some o) → P { s with heap := h₁, toks := tk₁ }) : ∀ s', Keeps s s' → P s' :=
  fun _ k => kopen k h

section
variable {prog : Program} {w : World} {A : Around} {env : Env} {E : Value → Shared → Prop} {s : Shared} {Q : Flow → Shared → Prop}
noncomputable def Nx (prog : Program) (w : World) (A : Around) (env : Env) (rest : List Stmt) (Q : Flow → Shared → Prop) (E : Value → Shared → Prop) : Flow → Shared → Prop :=
  fun f s => match f with | .next => wpAny (model prog w) A (execs rest env) Q E s | f => Q f s
theorem ec {st : Stmt} {rest : List Stmt} (h : wpAny (model prog w) A (exec st env) (Nx prog w A env rest Q E) E s) : wpAny (model prog w) A (execs (st :: rest) env) Q E s := wpAny_execs_cons h
noncomputable def Sn (prog : Program) (w : World) (A : Around) (env : Env) (x : Str) (Q : Flow → Shared → Prop) (E : Value → Shared → Prop) : Value → Shared → Prop :=
  fun v s => wpAny (model prog w) A (storeName env x v) (fun _ => Q .next) E s
noncomputable def Rq (Q : Value → Shared → Prop) : Flow → Shared → Prop := fun f s => Q (match f with | .ret v => v | _ => .none) s
noncomputable def Le (prog : Program) (w : World) (A : Around) (env : Env) (E : Value → Shared → Prop) : Value → Shared → Prop :=
  fun e s => wpAny (model prog w) (A.deeper env) (leaving env e) (fun _ s => E e s) (fun e s => E e s) s
theorem asgN {x : Str} {q p : Pos} {value : Expr} (h : wpAny (model prog w) A (eval value env) (Sn prog w A env x Q E) E s)
    (hs : swapsWith value (some (.Name x q)) p.line env = pure false) : wpAny (model prog w) A (exec (.Assign [.Name x q] value p) env) Q E s := wpAny_Assign_Name h hs
end

/-- what is wanted behind an expression that yields d -/
noncomputable abbrev Then (W : List Addr) (s : Shared) (d : D) (Q : Value → Shared → Prop) : Prop := ∀ v s', Keeps s s' → Rep W s'.heap d v → Q v s'

/-- the off-list is alive -/
noncomputable abbrev Live (W : List Addr) (h : Heap) : Prop := ∀ x ∈ W, ∃ o, h.get? x = some o
theorem Live.size {W : List Addr} {h : Heap} (l : Live W h) : h.objs.size ∉ W := fun m => by
  obtain ⟨o, e⟩ := l _ m
  exact Nat.lt_irrefl _ (Heap.lt_size e)
theorem Live.keep {W : List Addr} {h h' : Heap} (l : Live W h) (hk : ∀ b o, h.get? b = some o → h'.get? b = some o) : Live W h' := fun x m => let ⟨o, e⟩ := l x m; ⟨o, hk x o e⟩

noncomputable def bound : Nat := 4096
theorem bound_le : bound ≤ sizeLine := by decide

noncomputable def ii (a b : D) (f : Int → Int → Option D) : Option D := a.gI.bind fun x => b.gI.bind fun y => f x y
theorem ii_eq {a b : D} {f : Int → Int → Option D} {d : D} (h : ii a b f = some d) : ∃ x y, a = .int x ∧ b = .int y ∧ f x y = some d := by
  obtain ⟨x, hx, h⟩ := obnd h; obtain ⟨y, hy, h⟩ := obnd h; exact ⟨x, y, D.gI_eq hx, D.gI_eq hy, h⟩
noncomputable def padd (a b : D) : Option D := match a with
  | .int x => b.gI.bind fun y => some (.int (x + y))
  | .str x => b.gS.bind fun y => if x.length + y.length ≤ bound then some (.str (x ++ y)) else none
  | .lst x => b.gL.bind fun y => if x.length + y.length ≤ bound then some (.lst (x ++ y)) else none
  | _ => none
noncomputable def pbin (op : Operator) (a b : D) : Option D := match op with
  | .Add => padd a b
  | .Sub => ii a b fun x y => some (.int (x - y))
  | .Mod => ii a b fun x y => if y ≠ 0 then some (.int (x.fmod y)) else none
  | .FloorDiv => ii a b fun x y => if y ≠ 0 ∧ y.natAbs < 1073741824 then some (.int (x.fdiv y)) else none
  | .Pow => ii a b fun x n => if 0 ≤ n ∧ n ≤ 1000 ∧ x.natAbs < 2 ^ 64 then some (.int (x ^ n.toNat)) else none
  | .BitAnd => ii a b fun x y => some (.int (Builtin.bitAnd x y))
  | _ => none

section
variable {prog : Program} {w : World} {A : Around} {E : Value → Shared → Prop} {s : Shared} {W : List Addr} {Q : Value → Shared → Prop}

theorem rep_int {h : Heap} {i : Int} {t : Tok} : Rep W h (.int i) (.int i t) := by simp only [Rep]; exact ⟨t, rfl⟩
theorem rep_str {h : Heap} {x : Str} {t : Tok} : Rep W h (.str x) (.str x t) := by simp only [Rep]; exact ⟨t, rfl⟩
theorem rep_bool {h : Heap} {b : Bool} : Rep W h (.bool b) (.bool b) := by simp only [Rep]
theorem rep_none {h : Heap} : Rep W h .none .none := by simp only [Rep]
theorem rep_newList {h : Heap} (l : Live W h) {ds : List D} {vs : List Value} (r : Reps W h ds vs) : Rep W (h.push { cls := .type "list", data := .seq vs.toArray }) (.lst ds) (.ref h.objs.size) := by
  simp only [Rep]
  exact ⟨_, vs.toArray, rfl, l.size, ⟨_, Heap.get?_push_size _ rfl, rfl, 0, rfl⟩, r.mono (KX.of fun b o e => Heap.get?_push_of_some _ e)⟩
theorem rep_newTuple {h : Heap} (l : Live W h) {ds : List D} {vs : List Value} (r : Reps W h ds vs) : Rep W (h.push { cls := .type "tuple", data := .seq vs.toArray }) (.tup ds) (.ref h.objs.size) := by
  simp only [Rep]
  exact ⟨_, vs.toArray, rfl, l.size, ⟨_, Heap.get?_push_size _ rfl, rfl, 0, rfl⟩, r.mono (KX.of fun b o e => Heap.get?_push_of_some _ e)⟩

theorem add_lists' {l b : Addr} {vs ws : Array Value} (hl : s.heap.IsList l vs) (hb : s.heap.IsList b ws)
    (h : Q (.ref s.heap.objs.size) { s with heap := s.heap.push { cls := .type "list", data := .seq (vs ++ ws) } }) (hsz : vs.size + ws.size ≤ sizeLine) :
    wpAny (model prog w) A (binaryOp .Add (.ref l) (.ref b)) Q E s := by
  obtain ⟨⟨cls, dd, data, sl⟩, ho, hc, n, hd⟩ := id hl
  obtain ⟨⟨cls2, dd2, data2, sl2⟩, ho2, hc2, n2, hd2⟩ := id hb
  simp only at hc hd hc2 hd2
  subst hc hd hc2 hd2
  exact concat_meets ⟨_, ho, rfl⟩ ⟨_, ho2, rfl⟩ noFill_list_add seq_list_add PySem.F.slot_list_add PySem.F.entry_list_add (PySem.F.args_list_add_2 _ _) (list_addW l b vs ws n n2 dd dd2 sl sl2 hsz) ⟨ho, ho2, h⟩

theorem bin_ok (l : Live W s.heap) {op : Operator} {a b d : D} {va vb : Value} (e : pbin op a b = some d) (ha : Rep W s.heap a va) (hb : Rep W s.heap b vb) (hq : Then W s d Q) :
    wpAny (model prog w) A (binaryOp op va vb) Q E s := by
  cases op with
  | Add =>
    change padd a b = some d at e
    cases a with
    | int x =>
      obtain ⟨y, hy, e⟩ := obnd e
      cases D.gI_eq hy; cases e; simp only [Rep] at ha hb; obtain ⟨_, rfl⟩ := ha; obtain ⟨_, rfl⟩ := hb
      exact add_int (hq _ _ (Keeps.tok ..) rep_int)
    | str x =>
      change (b.gS.bind fun y => if x.length + y.length ≤ bound then some (D.str (x ++ y)) else none) = some d at e
      obtain ⟨y, hy, e1⟩ := obnd e
      obtain ⟨hsz, e2⟩ := ite1 e1
      cases D.gS_eq hy; cases e2; simp only [Rep] at ha hb; obtain ⟨_, rfl⟩ := ha; obtain ⟨_, rfl⟩ := hb
      exact add_str (fun t' tk => hq _ _ (Keeps.tok ..) rep_str) (Nat.le_trans hsz bound_le)
    | lst x =>
      change (b.gL.bind fun y => if x.length + y.length ≤ bound then some (D.lst (x ++ y)) else none) = some d at e
      obtain ⟨y, hy, e1⟩ := obnd e
      obtain ⟨hsz, e2⟩ := ite1 e1
      cases D.gL_eq hy; cases e2; simp only [Rep] at ha hb
      obtain ⟨x, ix, rfl, _, hx, rx⟩ := ha; obtain ⟨y, iy, rfl, _, hy, ry⟩ := hb
      have e1 := rx.length
      have e2 := ry.length
      rw [Array.length_toList] at e1 e2
      refine add_lists' hx hy (hq _ _ (Keeps.push' ..) ?_) (by rw [e1, e2]; exact Nat.le_trans hsz bound_le)
      have := rep_newList l (rx.append ry)
      rw [← Array.toList_append] at this
      exact this
    | _ => cases e
  | Sub =>
    obtain ⟨x, y, rfl, rfl, e⟩ := ii_eq e
    cases e; simp only [Rep] at ha hb; obtain ⟨_, rfl⟩ := ha; obtain ⟨_, rfl⟩ := hb
    exact sub_int (hq _ _ (Keeps.tok ..) rep_int)
  | Mod =>
    obtain ⟨x, y, rfl, rfl, e⟩ := ii_eq e
    obtain ⟨hz, e⟩ := ite1 e
    cases e; simp only [Rep] at ha hb; obtain ⟨_, rfl⟩ := ha; obtain ⟨_, rfl⟩ := hb
    exact mod_int' hz (hq _ _ (Keeps.tok ..) rep_int)
  | FloorDiv =>
    obtain ⟨x, y, rfl, rfl, e⟩ := ii_eq e
    obtain ⟨hz, e⟩ := ite1 e
    cases e; simp only [Rep] at ha hb; obtain ⟨_, rfl⟩ := ha; obtain ⟨_, rfl⟩ := hb
    exact floordiv_int hz.1 (hq _ _ (Keeps.tok ..) rep_int) (.inl (PyProof.noPylong_small hz.2))
  | Pow =>
    obtain ⟨x, y, rfl, rfl, e⟩ := ii_eq e
    obtain ⟨hz, e⟩ := ite1 e
    cases e; simp only [Rep] at ha hb; obtain ⟨_, rfl⟩ := ha; obtain ⟨_, rfl⟩ := hb
    exact pow_int_small hz.1 (by omega) hz.2.2 (hq _ _ (Keeps.tok ..) rep_int)
  | BitAnd =>
    obtain ⟨x, y, rfl, rfl, e⟩ := ii_eq e
    cases e; simp only [Rep] at ha hb; obtain ⟨_, rfl⟩ := ha; obtain ⟨_, rfl⟩ := hb
    exact and_int (hq _ _ (Keeps.tok ..) rep_int)
  | _ => cases e
end

noncomputable def D.isStr : D → Bool | .str _ => true | _ => false
noncomputable def D.isInt : D → Bool | .int _ => true | _ => false
noncomputable def D.isThat (x : Str) : D → Bool | .str y => y == x | _ => false
noncomputable def D.isNum (x : Int) : D → Bool | .int y => y == x | _ => false
noncomputable def b2n (b : Bool) : Int := if b then 1 else 0
noncomputable def D.isNone : D → Bool | .none => true | _ => false
noncomputable def D.isRaw : D → Bool | .raw _ => true | _ => false

noncomputable def pin (a b : D) : Option Bool := match a with
  | .str x => (match b with
    | .lst ds => if ds.all D.isStr = true then some (ds.any (D.isThat x)) else none
    | .str y => some (!(Builtin.Str.occurrences y x 0 y.length 1).isEmpty)
    | _ => none)
  | .int x => b.gL.bind fun ds => if ds.all D.isInt = true then some (ds.any (D.isNum x)) else none
  | _ => none
noncomputable def pis (a b : D) : Option Bool := match b with
  | .none => if a.isRaw = false then some a.isNone else none
  | .bool y => a.gB.bind fun x => some (x == y)
  | .ent y _ _ => a.gE.bind fun x => some (x == y)
  | _ => none
noncomputable def pgt (a b : D) : Option Bool := match a with
  | .bool p => (match b with
    | .int n => some (decide (n < b2n p))
    | .bool q => some (decide (b2n q < b2n p))
    | _ => none)
  | .int x => b.gI.bind fun y => some (decide (y < x))
  | _ => none
noncomputable def pcmp (op : CmpOp) (a b : D) : Option Bool := match op with
  | .Eq => peq 8 a b
  | .NotEq => (peq 8 a b).map (!·)
  | .In => pin a b
  | .NotIn => (pin a b).map (!·)
  | .Is => pis a b
  | .IsNot => (pis a b).map (!·)
  | .Gt => pgt a b
  | _ => none

theorem gives_int_gt_bool_int (p : Bool) (n : Int) (u : Tok) : Gives (Builtin.«int.__gt__» ⟨[.bool p, .int n u], []⟩) (.val (Value.bool ((fun x1 x2 => decide (x1 > x2)) (if p = true then (1 : Int) else 0) n))) :=
  .of_wp fun M A E s Q h => by obtain ⟨hp, g, d, tk, os⟩ := s; wp_walk; exact ⟨_, rfl, h⟩

section
variable {prog : Program} {w : World} {A : Around} {E : Value → Shared → Prop} {s : Shared} {W : List Addr} {Q : Value → Shared → Prop}

theorem gt_bool_int {p : Bool} {n : Int} {u : Tok} (h : Q (.bool (decide (n < b2n p))) s) : wpAny (model prog w) A (compareOp .Gt (.bool p) (.int n u)) Q E s := by
  show wpAny _ _ (richCompare .Gt (.bool p) (.int n u)) Q E s
  exact rc_left_or rfl (typeIs_int s n u) (by decide) F.sub_int_bool F.slot_bool_gt
    (call_gives F.slot_bool_gt rfl F.entry_int_gt (F.args_int_gt_2 _ _) (gives_int_gt_bool_int p n u) ⟨nofun, h⟩) (.inl rfl)

noncomputable def eStr (x : Str) : Value → Bool | .str y _ => y == x | _ => false
noncomputable def eInt (x : Int) : Value → Bool | .int y _ => y == x | _ => false

theorem any_str {h : Heap} {x : Str} : ∀ {ds : List D} {vs : List Value}, Reps W h ds vs → ds.all D.isStr = true → vs.any (eStr x) = ds.any (D.isThat x) ∧ ∀ v ∈ vs, ∃ y t, v = .str y t
  | [], _, r, _ => by simp only [Reps] at r; subst r; simp
  | d :: ds, _, r, ha => by
    simp only [Reps] at r
    obtain ⟨v, t, rfl, h1, h2⟩ := r
    rw [List.all_cons, Bool.and_eq_true] at ha
    obtain ⟨i1, i2⟩ := any_str (x := x) h2 ha.2
    cases d <;> simp [D.isStr] at ha
    simp only [Rep] at h1
    obtain ⟨u, rfl⟩ := h1
    refine ⟨by simp [eStr, D.isThat, i1], fun v hv => ?_⟩
    rcases List.mem_cons.mp hv with rfl | hv
    · exact ⟨_, _, rfl⟩
    · exact i2 v hv
theorem any_int {h : Heap} {x : Int} : ∀ {ds : List D} {vs : List Value}, Reps W h ds vs → ds.all D.isInt = true → vs.any (eInt x) = ds.any (D.isNum x) ∧ ∀ v ∈ vs, ∃ y t, v = .int y t
  | [], _, r, _ => by simp only [Reps] at r; subst r; simp
  | d :: ds, _, r, ha => by
    simp only [Reps] at r
    obtain ⟨v, t, rfl, h1, h2⟩ := r
    rw [List.all_cons, Bool.and_eq_true] at ha
    obtain ⟨i1, i2⟩ := any_int (x := x) h2 ha.2
    cases d <;> simp [D.isInt] at ha
    simp only [Rep] at h1
    obtain ⟨u, rfl⟩ := h1
    refine ⟨by simp [eInt, D.isNum, i1], fun v hv => ?_⟩
    rcases List.mem_cons.mp hv with rfl | hv
    · exact ⟨_, _, rfl⟩
    · exact i2 v hv

theorem in_ok {a b : D} {va vb : Value} {r : Bool} (e : pin a b = some r) (ha : Rep W s.heap a va) (hb : Rep W s.heap b vb) :
    (Q (.bool r) s → wpAny (model prog w) A (compareOp .In va vb) Q E s) ∧ (Q (.bool (!r)) s → wpAny (model prog w) A (compareOp .NotIn va vb) Q E s) := by
  cases a with
  | str x =>
    cases b with
    | lst ds =>
      obtain ⟨hall, e⟩ := ite1 e
      cases e; simp only [Rep] at ha hb; obtain ⟨t, rfl⟩ := ha
      obtain ⟨l, its, rfl, _, hl, hr⟩ := hb
      obtain ⟨i1, i2⟩ := any_str (x := x) hr hall
      have he : ∀ y, y ∈ its → EqAt A.in1 s y (.str x t) (eStr x y) := fun y hy => by
        obtain ⟨z, u, rfl⟩ := i2 y (by simpa using hy)
        exact EqAt.str_str _ _ _ _
      have ee : its.any (eStr x) = ds.any (D.isThat x) := by rw [← i1, Array.any_toList]
      exact ⟨fun q => in_listAt (eStr x) hl he (ee ▸ q), fun q => notIn_listAt (eStr x) hl he (ee ▸ q)⟩
    | str y =>
      cases e; simp only [Rep] at ha hb; obtain ⟨t, rfl⟩ := ha; obtain ⟨u, rfl⟩ := hb
      exact ⟨fun q => in_str q, fun q => notIn_str q⟩
    | _ => cases e
  | int x =>
    obtain ⟨ds, hd, e1⟩ := obnd e
    cases D.gL_eq hd
    obtain ⟨hall, e2⟩ := ite1 e1
    cases e2; simp only [Rep] at ha hb; obtain ⟨t, rfl⟩ := ha
    obtain ⟨l, its, rfl, _, hl, hr⟩ := hb
    obtain ⟨i1, i2⟩ := any_int (x := x) hr hall
    have he : ∀ y, y ∈ its → EqAt A.in1 s y (.int x t) (eInt x y) := fun y hy => by
      obtain ⟨z, u, rfl⟩ := i2 y (by simpa using hy)
      exact EqAt.int_int _ _ _ _
    have ee : its.any (eInt x) = ds.any (D.isNum x) := by rw [← i1, Array.any_toList]
    exact ⟨fun q => in_listAt (eInt x) hl he (ee ▸ q), fun q => notIn_listAt (eInt x) hl he (ee ▸ q)⟩
  | _ => cases e

theorem is_ok {a b : D} {va vb : Value} {r : Bool} (e : pis a b = some r) (ha : Rep W s.heap a va) (hb : Rep W s.heap b vb) :
    (Q (.bool r) s → wpAny (model prog w) A (compareOp .Is va vb) Q E s) ∧ (Q (.bool (!r)) s → wpAny (model prog w) A (compareOp .IsNot va vb) Q E s) := by
  cases b with
  | bool y =>
    obtain ⟨x, hx, e⟩ := obnd e
    cases D.gB_eq hx
    cases e; simp only [Rep] at ha hb; subst ha hb
    have : (Value.bool x == Value.bool y) = (x == y) := by cases x <;> cases y <;> rfl
    exact ⟨fun q => wpAny_is_plain rfl (this ▸ q), fun q => wpAny_isNot_plain rfl (this ▸ q)⟩
  | ent y _ _ =>
    obtain ⟨x, hx, e⟩ := obnd e
    obtain ⟨_, _, rfl⟩ := D.gE_eq hx
    cases e; simp only [Rep] at ha hb
    obtain ⟨rfl, _, o, _, _, ho, hc, _⟩ := ha; obtain ⟨rfl, _, o', _, _, ho', hc', _⟩ := hb
    by_cases hxy : x = y
    · subst hxy
      have : (x == x) = true := by simp
      rw [this]
      exact ⟨fun q => wpAny_is_ref_self q, fun q => wpAny_isNot_ref_self q⟩
    · have : (x == y) = false := by simpa using hxy
      rw [this]
      have hn : o.cls ≠ .type "tuple" := by rw [hc]; intro q; cases q
      exact ⟨fun q => wpAny_is_ref_other hxy ho ho' hn q, fun q => wpAny_isNot_ref_other hxy ho ho' hn q⟩
  | none =>
    obtain ⟨hraw, e⟩ := ite1 e
    cases e; simp only [Rep] at hb; subst hb
    have : (va == Value.none) = a.isNone := by
      cases a <;> simp only [Rep] at ha
      · subst ha; rfl
      · subst ha; rfl
      · obtain ⟨_, rfl⟩ := ha; rfl
      · obtain ⟨_, rfl⟩ := ha; rfl
      · obtain ⟨_, _, rfl, _⟩ := ha; rfl
      · obtain ⟨_, _, rfl, _⟩ := ha; rfl
      · obtain ⟨rfl, _⟩ := ha; rfl
      · cases hraw
    exact ⟨fun q => is_none (this ▸ q), fun q => isNot_none (this ▸ q)⟩
  | _ => cases e

theorem cmp_ok (hu : A.units + 8 < cLine) {op : CmpOp} {a b : D} {va vb : Value} {r : Bool} (e : pcmp op a b = some r) (ha : Rep W s.heap a va) (hb : Rep W s.heap b vb) (hq : Q (.bool r) s) :
    wpAny (model prog w) A (compareOp op va vb) Q E s := by
  cases op with
  | Eq => exact (rep_eqAt hu ha hb e).2.1 prog w E Q hq
  | NotEq => obtain ⟨x, h, rfl⟩ := omap e; exact (rep_eqAt hu ha hb h).2.2 prog w E Q hq
  | In => exact (in_ok e ha hb).1 hq
  | NotIn => obtain ⟨x, h, rfl⟩ := omap e; exact (in_ok h ha hb).2 hq
  | Is => exact (is_ok e ha hb).1 hq
  | IsNot => obtain ⟨x, h, rfl⟩ := omap e; exact (is_ok h ha hb).2 hq
  | Gt =>
    change pgt a b = some r at e
    cases a with
    | bool p =>
      cases b with
      | int n => cases e; simp only [Rep] at ha hb; subst ha; obtain ⟨_, rfl⟩ := hb; exact gt_bool_int hq
      | bool q => cases e; simp only [Rep] at ha hb; subst ha hb; exact gt_bool hq
      | _ => cases e
    | int x =>
      obtain ⟨y, hy, e⟩ := obnd e
      cases D.gI_eq hy
      cases e; simp only [Rep] at ha hb; obtain ⟨_, rfl⟩ := ha; obtain ⟨_, rfl⟩ := hb
      exact gt_int hq
    | _ => cases e
  | _ => cases e
end
end Mine
end

-- Comp
section
open PySem PySem.W PyProof.Rows PySem.Calls PySem.SeqAt
set_option maxRecDepth 100000
namespace Mine

theorem FR.but {W X : List Addr} {sc : List (Str × NameKind)} {env : Env} {h h' : Heap} {m : List (Str × D)} (F : FR W sc env h m) (hX : KX X h h') (hW : ∀ x ∈ X, x ∈ W) (hL : env.locals ∉ X)
    (hc : ∀ y c, env.cells.lookup y = some c → c ∉ X) (lv : ∀ x ∈ X, ∃ o, h'.get? x = some o) : FR W sc env h' m := by
  have kx : KX W h h' := hX.mono hW
  refine ⟨F.kind, F.globs, F.blts, F.kinds, fun x hx => ?_, F.loc, F.cin, F.inj, fun x hx => ?_, ?_⟩
  · by_cases q : x ∈ X
    · exact lv x q
    · obtain ⟨o, e⟩ := F.live x hx; exact ⟨o, hX x o q e⟩
  · obtain ⟨c, v, h1, o, h2, h3⟩ := F.cell x hx
    exact ⟨c, v, h1, o, hX c o (hc x c h1) h2, h3⟩
  · obtain ⟨μ, ⟨o, es, ep, e, r⟩, h2⟩ := F.ns
    refine ⟨μ, ⟨o, es, ep, hX _ _ hL e, r⟩, fun x d hx => ?_⟩
    rcases h2 x d hx with ⟨a, v, b, c⟩ | ⟨a, c, v, h3, ⟨o', h4, h4'⟩, h5⟩
    · exact .inl ⟨a, v, b, c.mono kx⟩
    · exact .inr ⟨a, c, v, h3, ⟨o', hX c o' (hc x c h3) h4, h4'⟩, h5.mono kx⟩
theorem FR.weaken {W : List Addr} {sc : List (Str × NameKind)} {env : Env} {h : Heap} {m m' : List (Str × D)} (F : FR W sc env h m) (hm : ∀ x d, m'.lookup x = some d → m.lookup x = some d) : FR W sc env h m' :=
  ⟨F.kind, F.globs, F.blts, F.kinds, F.live, F.loc, F.cin, F.inj, F.cell, let ⟨μ, a, b⟩ := F.ns; ⟨μ, a, fun x d hx => b x d (hm x d hx)⟩⟩

section
variable {prog : Program} {w : World} {A : Around} {R : Result → Shared → Prop} {s : Shared}
variable {W : List Addr} {sc : List (Str × NameKind)} {cenv : Env} {m : List (Str × D)}

noncomputable abbrev testsOf (ifs : List Expr) (env : Env) : Sem Bool :=
  forIn ifs true fun c r => if r = true then do let ok ← isTrue c env (eval c env); pure (ForInStep.yield ok) else pure (ForInStep.yield r)

/-- the state between two turns -/
structure CInv (W Y : List Addr) (sc : List (Str × NameKind)) (cenv : Env) (m : List (Str × D)) (Dx : Addr) (ds : List D) (p : D → Bool) (Re : D → D → Prop) (St : Nat → Heap → Prop) (s : Shared) (k : Nat) (h' : Heap) : Prop where
  fr : FR W sc cenv h' m
  kx : KX Y s.heap h'
  st : St k h'
  acc : ∃ ys ds', h'.PlainList Dx ys ∧ Reps W h' ds' ys.toList ∧ Paired Re ((ds.take k).filter p) ds'

theorem comp_loop {Y : List Addr} {elt iter : Expr} {x : Str} {px : Pos} {ifs : List Expr} {scope : Scope} {pos : Pos} {I Dx : Addr} {fp wr : List Addr} {n : Nat} {P : Nat → Value → Prop} {St : Nat → Heap → Prop}
    (Wk : Walks prog w A I fp wr n P St) (ds : List D) (p : D → Bool) (Re : D → D → Prop)
    (hlive : ∀ i h, St i h → ∀ b ∈ wr, ∃ o, h.get? b = some o)
    (hn : ds.length = n) (hsz : n ≤ sizeLine)
    (F : FR W sc cenv s.heap m) (hx : sc.lookup x = some .local ∨ sc.lookup x = some .cell) (hmx : m.lookup x = none)
    (hYW : ∀ b ∈ Y, b ∈ W) (hDY : Dx ∈ Y) (hwrY : ∀ b ∈ wr, b ∈ Y) (hLY : cenv.locals ∈ Y) (hxY : sc.lookup x = some .cell → ∀ c, cenv.cells.lookup x = some c → c ∈ Y) (hDf : Dx ∉ fp) (hLf : cenv.locals ∉ fp) (hcf : ∀ y c, cenv.cells.lookup y = some c → c ∉ fp) (hDL : Dx ≠ cenv.locals) (hDc : ∀ y c, cenv.cells.lookup y = some c → c ≠ Dx)
    (hst : St 0 s.heap) (hacc : s.heap.PlainList Dx #[])
    (items : ∀ i v, i < n → P i v → ∃ d, ds[i]? = some d ∧ Rep W s.heap d v)
    (tests : ∀ d ∈ ds, ∀ s₂ E', FR W sc cenv s₂.heap ((x, d) :: m) → KX Y s.heap s₂.heap → (∃ h tk, s₂ = { s with heap := h, toks := tk }) →
      wpAny (model prog w) A (testsOf ifs cenv) (fun ok s₃ => ok = p d ∧ Keeps s₂ s₃) E' s₂)
    (elts : ∀ d ∈ ds, p d = true → ∀ s₂ E', FR W sc cenv s₂.heap ((x, d) :: m) → KX Y s.heap s₂.heap → (∃ h tk, s₂ = { s with heap := h, toks := tk }) →
      wpAny (model prog w) A (eval elt cenv) (fun y s₃ => Keeps s₂ s₃ ∧ ∃ d', Re d d' ∧ Rep W s₃.heap d' y) E' s₂)
    (fin : ∀ h' tk ys ds', FR W sc cenv s.heap m → KX Y s.heap h' → (∃ μ, h'.Ns cenv.locals μ) → h'.PlainList Dx ys → Reps W h' ds' ys.toList → Paired Re (ds.filter p) ds' → R (.ok .next) { s with heap := h', toks := tk }) :
    codeAny (model prog w) A (.compLoop (.ListComp elt [⟨.Name x px, iter, ifs, 0⟩] scope pos) 0 (.ref I) (.ref Dx) cenv) R s := by
  refine codeAny_compLoop_tests (fun k s' => ∃ j h' tk, s' = { s with heap := h', toks := tk } ∧ j ≤ n ∧ k = n + 1 - j ∧ CInv W Y sc cenv m Dx ds p Re St s j h') ?_ (n + 1)
    ⟨0, s.heap, s.toks, rfl, Nat.zero_le _, rfl, ⟨F, KX.refl _ _, hst, #[], [], hacc, by simpa using Reps.nil, by simpa using Paired.nil⟩⟩
  rintro k s' ⟨j, h', tk, rfl, hj, rfl, C⟩
  have hDW := hYW _ hDY
  have hwrW : ∀ b ∈ wr, b ∈ W := fun b hb => hYW b (hwrY b hb)
  have cW : KX W s.heap h' := C.kx.mono hYW
  obtain ⟨ys, ds', hys, hrs, hpr⟩ := C.acc
  have hDw : Dx ∉ wr := fun h => hDf (Wk.sub _ h)
  have hLw : cenv.locals ∉ wr := fun h => hLf (Wk.sub _ h)
  have hcw : ∀ y c, cenv.cells.lookup y = some c → c ∉ wr := fun y c e h => hcf y c e (Wk.sub _ h)
  have hlen : ys.size ≤ n := by
    have e1 := hrs.length
    have e2 := hpr.length
    have e3 : ((ds.take j).filter p).length ≤ (ds.take j).length := List.length_filter_le _ _
    rw [List.length_take] at e3
    rw [Array.length_toList] at e1
    omega
  by_cases hlt : j < n
  · refine Wk.item j _ _ _ hlt C.st fun v h₁ tk₁ hPv hst₁ hk₁ => ?_
    obtain ⟨d, hd, hr⟩ := items j v hlt hPv
    have hdm : d ∈ ds := List.mem_of_getElem? hd
    have ky₁ : KX Y h' h₁ := fun b o nb e => hk₁ b o (fun q => nb (hwrY b q)) e
    have kx₁ : KX W h' h₁ := ky₁.mono hYW
    have F₁ : FR W sc cenv h₁ m := C.fr.but (X := wr) (fun b o nb e => hk₁ b o nb e) hwrW hLw hcw (hlive _ _ hst₁)
    refine wpAny_assign_Name (FR.store (s := { s with heap := h₁, toks := tk₁ }) F₁ hx ((hr.mono cW).mono kx₁) fun h₂ tk₂ F₂ kx₂ kb₂ => ?_)
    obtain ⟨a₂, ha₂, kb₂⟩ := kb₂
    have haY : a₂ ∈ Y := by
      rcases ha₂ with rfl | ⟨q1, q2⟩
      · exact hLY
      · exact hxY q1 _ q2
    have haf : a₂ ∉ fp := by
      rcases ha₂ with rfl | ⟨q1, q2⟩
      · exact hLf
      · exact hcf _ _ q2
    have haD : Dx ≠ a₂ := by
      rcases ha₂ with rfl | ⟨q1, q2⟩
      · exact hDL
      · exact (hDc _ _ q2).symm
    have ky₂ : KX Y h₁ h₂ := fun b o nb e => kb₂ b o (fun q => nb (q ▸ haY)) e
    have kys₂ : KX Y s.heap h₂ := (C.kx.trans ky₁).trans ky₂
    have kxs₂ : KX W s.heap h₂ := kys₂.mono hYW
    have hst₂ : St (j + 1) h₂ := Wk.frame _ _ _ hst₁ fun b hb o e => kb₂ b o (fun q => haf (q ▸ hb)) e
    have hys₂ : h₂.PlainList Dx ys := (hys.at fun o e => hk₁ _ o hDw e).at fun o e => kb₂ Dx o haD e
    have hrs₂ : Reps W h₂ ds' ys.toList := (hrs.mono kx₁).mono kx₂
    have htk : (ds.take (j + 1)).filter p = (ds.take j).filter p ++ (if p d then [d] else []) := take_succ_filter p ds j d hd
    refine wpAny_mono (tests d hdm { s with heap := h₂, toks := tk₂ } _ F₂ kys₂ ⟨_, _, rfl⟩) (fun ok s₃ h₃ => ?_) fun _ _ e => e
    obtain ⟨rfl, h₃, tk₃, rfl, hk₃⟩ := h₃
    dsimp only at hk₃
    have F₃ := F₂.keep hk₃
    have hst₃ : St (j + 1) h₃ := Wk.frame _ _ _ hst₂ fun b _ o e => hk₃ b o e
    have hys₃ := hys₂.at fun o e => hk₃ _ o e
    have drop : ∀ y d', m.lookup y = some d' → ((x, d) :: m).lookup y = some d' := fun y d' e => by
      by_cases q : y = x
      · subst q; rw [hmx] at e; cases e
      · rw [lookup_cons_ne q]; exact e
    cases hpv : p d with
    | false =>
      simp only [Bool.false_eq_true, if_false]
      refine ⟨n + 1 - (j + 1), by omega, j + 1, h₃, tk₃, rfl, hlt, rfl, ⟨F₃.weaken drop, kys₂.trans (KX.of hk₃), hst₃, ys, ds', hys₃, hrs₂.mono (KX.of hk₃), ?_⟩⟩
      rw [htk, hpv]; simpa using hpr
    | true =>
      simp only [if_true]
      refine wpAny_mono (elts d hdm hpv { s with heap := h₃, toks := tk₃ } _ F₃ (kys₂.trans (KX.of hk₃)) ⟨_, _, rfl⟩) (fun y s₄ h₄ => ?_) fun _ _ e => e
      obtain ⟨⟨h₄, tk₄, rfl, hk₄⟩, d', hRe, hRep⟩ := h₄
      dsimp only at hk₄ hRep
      refine wpAny_list_append_plain (hsz := Nat.le_trans hlen hsz) (hys₃.at fun o e => hk₄ _ o e) fun h₅ hl₅ hs₅ => ?_
      have ky₅ : KX Y h₄ h₅ := fun b o nb e => hs₅.extBut b o (fun q => nb (q ▸ hDY)) e
      have kx₅ : KX W h₄ h₅ := ky₅.mono hYW
      have F₅ : FR W sc cenv h₅ ((x, d) :: m) := (F₃.keep hk₄).but (X := [Dx]) (fun b o nb e => hs₅.extBut b o (by simpa using nb) e) (by simpa using hDW) (by simpa using Ne.symm hDL)
        (fun z c e q => hDc z c e (by simpa using q)) (fun z hz => by obtain ⟨q, e⟩ := hl₅; simp at hz; subst hz; exact ⟨_, e⟩)
      refine ⟨n + 1 - (j + 1), by omega, j + 1, h₅, tk₄, rfl, hlt, rfl, ⟨F₅.weaken drop, ((kys₂.trans (KX.of hk₃)).trans (KX.of hk₄)).trans ky₅, ?_, ys.push y, ds' ++ [d'], hl₅, ?_, ?_⟩⟩
      · exact Wk.frame _ _ _ hst₃ fun b hb o e => hs₅.extBut b o (fun q => hDf (q ▸ hb)) (hk₄ b o e)
      · rw [Array.toList_push]
        exact (((hrs₂.mono (KX.of hk₃)).mono (KX.of hk₄)).mono kx₅).append (Reps.one (hRep.mono kx₅))
      · rw [htk, hpv]; simpa using Paired.snoc hpr hRe
  · have hjn : j = n := by omega
    subst hjn
    refine Wk.done _ _ _ C.st fun h₁ tk₁ hk₁ => ?_
    have ky₁ : KX Y h' h₁ := fun b o nb e => hk₁ b o (fun q => nb (hwrY b q)) e
    have kx₁ : KX W h' h₁ := ky₁.mono hYW
    refine fin h₁ tk₁ ys ds' F (C.kx.trans ky₁) ?_ (hys.at fun o e => hk₁ _ o hDw e) (hrs.mono kx₁) (by rw [List.take_of_length_le (by omega)] at hpr; exact hpr)
    obtain ⟨μ, h1, _⟩ := C.fr.ns
    exact ⟨μ, h1.at' fun o e => hk₁ _ o hLw e⟩
end
end Mine
end

-- CompEnv
section
open PySem PySem.W PyProof.Rows PySem.Calls PySem.SeqAt
set_option maxRecDepth 100000
namespace Mine

theorem cellsFrom_acc : ∀ (names : List (Str × NameKind)) (n : Nat) (acc : List (Str × Addr)), cellsFrom n names acc = cellsFrom n names [] ++ acc
  | [], _, _ => rfl
  | (x, k) :: r, n, acc => by
    unfold cellsFrom
    split
    · rw [cellsFrom_acc r (n + 1) ((x, n) :: acc), cellsFrom_acc r (n + 1) [(x, n)], List.append_assoc]; rfl
    · exact cellsFrom_acc r n acc
theorem lookup_append {α : Type} (x : Str) : ∀ (l l' : List (Str × α)), (l ++ l').lookup x = (l.lookup x).or (l'.lookup x)
  | [], _ => by simp
  | (y, a) :: r, l' => by
    rw [List.cons_append, List.lookup_cons, List.lookup_cons]
    cases h : x == y with
    | true => rfl
    | false => exact lookup_append x r l'
theorem cellsFrom_mem : ∀ (names : List (Str × NameKind)) (n : Nat) (x : Str), (x, NameKind.cell) ∈ names → ∃ c, (x, c) ∈ cellsFrom n names []
  | (y, k) :: r, n, x, h => by
    unfold cellsFrom
    rcases List.mem_cons.mp h with e | h
    · cases e
      exact ⟨n, by simp only [beq_self_eq_true, if_true]; rw [cellsFrom_acc]; simp⟩
    · split
      · obtain ⟨c, hc⟩ := cellsFrom_mem r (n + 1) x h
        exact ⟨c, by rw [cellsFrom_acc]; exact List.mem_append_left _ hc⟩
      · exact cellsFrom_mem r n x h
theorem lookup_of_mem {α : Type} {x : Str} {a : α} : ∀ {l : List (Str × α)}, (x, a) ∈ l → ∃ b, l.lookup x = some b
  | (y, b) :: r, h => by
    rw [List.lookup_cons]
    cases q : x == y with
    | true => exact ⟨b, rfl⟩
    | false =>
      rcases List.mem_cons.mp h with e | h
      · cases e; simp at q
      · exact lookup_of_mem h
theorem cellsFrom_name : ∀ (names : List (Str × NameKind)) (n : Nat) (x : Str) (c : Addr), (x, c) ∈ cellsFrom n names [] → (x, NameKind.cell) ∈ names
  | [], _, _, _, h => by simp [cellsFrom] at h
  | (y, k) :: r, n, x, c, h => by
    unfold cellsFrom at h
    split at h
    · rename_i hk
      rw [cellsFrom_acc] at h
      rcases List.mem_append.mp h with h | h
      · exact List.mem_cons_of_mem _ (cellsFrom_name r _ x c h)
      · simp at h
        have : k = .cell := by simpa using hk
        rw [this, h.1]; exact List.mem_cons_self
    · exact List.mem_cons_of_mem _ (cellsFrom_name r _ x c h)

/-- the closure that a block takes along -/
noncomputable def clos (env : Env) : List (Str × NameKind) → List (Str × Addr) → List (Str × Addr)
  | [], acc => acc
  | (n, k) :: r, acc => if k == .free then clos env r ((n, (env.cells.lookup n).getD 0) :: acc) else clos env r acc
theorem closureFor_eq {env : Env} {scope : Scope} (h : ∀ x, (x, NameKind.free) ∈ scope.names → ∃ c, env.cells.lookup x = some c) : closureFor scope env = pure (clos env scope.names []) := by
  unfold closureFor
  have : ∀ (l : List (Str × NameKind)) (acc : List (Str × Addr)), (∀ x, (x, NameKind.free) ∈ l → ∃ c, env.cells.lookup x = some c) →
      (forIn l acc fun (x : Str × NameKind) (cs : List (Str × Addr)) => (if (x.2 == NameKind.free) = true then do let a ← cellOf env x.1; pure (ForInStep.yield ((x.1, a) :: cs)) else pure (ForInStep.yield cs) : Sem _)) = pure (clos env l acc) := by
    intro l
    induction l with
    | nil => intro acc _; rfl
    | cons y r ih =>
      intro acc hl
      obtain ⟨n, k⟩ := y
      rw [List.forIn_cons]
      unfold clos
      cases hk : k == NameKind.free with
      | true =>
        have : k = .free := by simpa using hk
        obtain ⟨c, hc⟩ := hl n (by rw [this]; exact List.mem_cons_self)
        simp only [if_true]
        unfold cellOf
        rw [hc]
        exact ih _ fun x hx => hl x (List.mem_cons_of_mem _ hx)
      | false =>
        simp only [Bool.false_eq_true, if_false]
        exact ih _ fun x hx => hl x (List.mem_cons_of_mem _ hx)
  exact (congrArg (fun t => t >>= pure) (this scope.names [] h))
theorem clos_lookup {env : Env} : ∀ (names : List (Str × NameKind)) (acc : List (Str × Addr)) (x : Str) (c : Addr), (∀ x, (x, NameKind.free) ∈ names → ∃ c, env.cells.lookup x = some c) →
    (∀ x c, acc.lookup x = some c → env.cells.lookup x = some c) → (clos env names acc).lookup x = some c → env.cells.lookup x = some c
  | [], _, x, c, _, ha, h => ha x c h
  | (y, k) :: r, acc, x, c, hl, ha, h => by
    unfold clos at h
    have hr : ∀ x, (x, NameKind.free) ∈ r → ∃ c, env.cells.lookup x = some c := fun x hx => hl x (List.mem_cons_of_mem _ hx)
    split at h
    · rename_i hk
      refine clos_lookup r _ x c hr (fun z d hz => ?_) h
      have : k = .free := by simpa using hk
      obtain ⟨c', hc'⟩ := hl y (by rw [this]; exact List.mem_cons_self)
      by_cases q : z = y
      · subst q; rw [lookup_cons_self, hc'] at hz; rw [hc']; simpa using hz
      · rw [lookup_cons_ne q] at hz; exact ha z d hz
    · exact clos_lookup r acc x c hr ha h
theorem clos_has {env : Env} : ∀ (names : List (Str × NameKind)) (acc : List (Str × Addr)) (x : Str), ((x, NameKind.free) ∈ names ∨ ∃ c, acc.lookup x = some c) → ∃ c, (clos env names acc).lookup x = some c
  | [], _, x, h => by
    rcases h with h | h
    · cases h
    · exact h
  | (y, k) :: r, acc, x, h => by
    unfold clos
    split
    · rename_i hk
      refine clos_has r _ x ?_
      by_cases q : x = y
      · subst q; exact .inr ⟨_, lookup_cons_self⟩
      · rcases h with h | ⟨c, h⟩
        · rcases List.mem_cons.mp h with e | h
          · cases e; exact absurd rfl q
          · exact .inl h
        · exact .inr ⟨c, by rw [lookup_cons_ne q]; exact h⟩
    · rename_i hk
      refine clos_has r acc x ?_
      rcases h with h | h
      · rcases List.mem_cons.mp h with e | h
        · cases e; simp at hk
        · exact .inl h
      · exact .inr h


theorem relabel_kind {scope : Scope} {env : Env} (x : Str) : (relabel scope env).names.lookup x = scope.names.lookup x ∨ (scope.names.lookup x = some .free ∧ (relabel scope env).names.lookup x = some .cell) := by
  unfold relabel
  dsimp only
  induction scope.names with
  | nil => exact .inl rfl
  | cons y r ih =>
    obtain ⟨n, k⟩ := y
    rw [List.map_cons]
    split
    · rename_i hc
      rw [List.lookup_cons, List.lookup_cons]
      cases q : x == n with
      | true =>
        refine .inr ⟨?_, rfl⟩
        simp only [Bool.and_eq_true] at hc
        have : k = .free := by simpa using hc.1.1
        rw [this]
      | false => exact ih
    · rw [List.lookup_cons, List.lookup_cons]
      cases q : x == n with
      | true => exact .inl rfl
      | false => exact ih

/-- the names that a block may take along stand as cells in the frame around it; the locals' table is right -/
noncomputable def blockOk (sc : List (Str × NameKind)) (scope : Scope) : Bool :=
  (scope.names.all fun y => y.2 != .free || (sc.lookup y.1 == some .cell || sc.lookup y.1 == some .free)) &&
  (scope.names.all fun y => y.2 != .local || scope.names.lookup y.1 == some .local) &&
  (scope.names.all fun y => y.2 != .cell || scope.names.lookup y.1 == some .cell) &&
  (match scope.kind with | .function => true | _ => false)
noncomputable def freeOf (scope : Scope) (m : List (Str × D)) : List (Str × D) := m.filter fun p => scope.names.lookup p.1 == some .free
theorem lookup_filter {α : Type} {q : Str → Bool} {x : Str} : ∀ {l : List (Str × α)}, (l.filter fun p => q p.1).lookup x = if q x then l.lookup x else none
  | [] => by simp
  | (y, a) :: r => by
    rw [List.filter_cons]
    cases hq : q y with
    | true =>
      simp only [if_true, List.lookup_cons]
      cases e : x == y with
      | true => have : x = y := by simpa using e
                subst this; simp [hq]
      | false => exact lookup_filter (l := r)
    | false =>
      simp only [Bool.false_eq_true, if_false]
      rw [lookup_filter (l := r), List.lookup_cons]
      cases e : x == y with
      | true => have : x = y := by simpa using e
                subst this; simp [hq]
      | false => rfl

section
variable {M : Model} {A : Around} {E : Value → Shared → Prop} {s : Shared}
variable {W : List Addr} {sc : List (Str × NameKind)} {env : Env} {m : List (Str × D)}

noncomputable abbrev cEnv (scope : Scope) (env : Env) (L : Addr) : Env :=
  { scope := relabel scope env, locals := L, globals := env.globals, cells := cellsFrom (L + 1) scope.names (clos env scope.names []), qual := env.qual, func := none, code := env.code, frame := env.frame, builtins := env.builtins }

noncomputable def freshOf (scope : Scope) (L : Addr) : List Addr := L :: (cellsFrom (L + 1) scope.names []).map (·.2)

theorem blockOk_free {scope : Scope} (h : blockOk sc scope = true) (F : FR W sc env s.heap m) : ∀ x, (x, NameKind.free) ∈ scope.names → ∃ c, env.cells.lookup x = some c := fun x hx => by
  simp only [blockOk, Bool.and_eq_true] at h
  have := List.all_eq_true.mp h.1.1.1 (x, .free) hx
  simp only [bne_self_eq_false, Bool.false_or, Bool.or_eq_true, beq_iff_eq] at this
  obtain ⟨c, _, e, _⟩ := F.cell x (this.imp (fun a => a) (fun a => a))
  exact ⟨c, e⟩

theorem comp_env {scope : Scope} {Q : Env → Shared → Prop} (F : FR W sc env s.heap m) (hb : blockOk sc scope = true)
    (hq : ∀ h', FR (freshOf scope s.heap.objs.size ++ W) scope.names (cEnv scope env s.heap.objs.size) h' (freeOf scope m) → (∀ b o, s.heap.get? b = some o → h'.get? b = some o) →
      (∀ b ∈ freshOf scope s.heap.objs.size, s.heap.get? b = none) → (∀ y c, (cEnv scope env s.heap.objs.size).cells.lookup y = some c → c ∈ freshOf scope s.heap.objs.size ∨ env.cells.lookup y = some c) →
      (∀ y, scope.names.lookup y = some .cell → ∀ c, (cEnv scope env s.heap.objs.size).cells.lookup y = some c → c ∈ freshOf scope s.heap.objs.size) →
      ∀ e', e' = { cEnv scope env s.heap.objs.size with scope := scope } → Q e' { s with heap := h' }) :
    wpAny M A (newFunctionEnv scope env.globals (clos env scope.names []) [] env.qual none .none (some env)) Q E s := by
  have hfree := blockOk_free hb F
  simp only [blockOk, Bool.and_eq_true] at hb
  obtain ⟨⟨⟨b1, b2⟩, b3⟩, b4⟩ := hb
  simp only [newFunctionEnv, Option.isSome_some, if_true]
  refine wpAny_bind (wpAny_alloc ?_)
  refine wpAny_bind (wpAny_layCells _ (fun name kind cells => by cases hkc : kind == NameKind.cell <;> simp) _ _ _ _ ?_)
  have hsz : (s.heap.push { cls := .type "dict", data := .dict #[] }).objs.size = s.heap.objs.size + 1 := Heap.size_push ..
  have ok := cellsFrom_ok scope.names (s.heap.push { cls := .type "dict", data := .dict #[] }) (s.heap.objs.size + 1) [] ⟨fun _ _ hm => (nomatch hm), List.Pairwise.nil⟩ (by rw [hsz]; exact Nat.le_refl _)
  rw [hsz] at ok
  rw [show ({ s with heap := s.heap.push { cls := .type "dict", data := .dict #[] } } : Shared).heap.objs.size = s.heap.objs.size + 1 from hsz]
  simp only [List.forIn_nil]
  refine wpAny_bind (wpAny_pure (wpAny_pure ?_))
  have keep : ∀ b o, s.heap.get? b = some o → (pushCells (s.heap.push { cls := .type "dict", data := .dict #[] }) scope.names).get? b = some o := fun b o e => pushCells_keeps _ _ b o (Heap.get?_push_of_some _ e)
  have hfr : ∀ b ∈ freshOf scope s.heap.objs.size, s.heap.objs.size ≤ b := fun b hb => by
    unfold freshOf at hb
    rcases List.mem_cons.mp hb with rfl | hb
    · exact Nat.le_refl _
    · obtain ⟨⟨n, c⟩, hc, rfl⟩ := List.mem_map.mp hb
      exact Nat.le_trans (Nat.le_succ _) (ok.empty n c hc).2
  have hnone : ∀ b ∈ freshOf scope s.heap.objs.size, s.heap.get? b = none := fun b hb => by
    cases e : s.heap.get? b with
    | none => rfl
    | some o => exact absurd (Heap.lt_size e) (Nat.not_lt.mpr (hfr b hb))
  have hns := (Heap.Ns.new s.heap (.type "dict")).keeps (h' := pushCells (s.heap.push { cls := .type "dict", data := .dict #[] }) scope.names) (pushCells_keeps scope.names _)
  have look : ∀ y c, (cEnv scope env s.heap.objs.size).cells.lookup y = some c →
      ((y, c) ∈ cellsFrom (s.heap.objs.size + 1) scope.names [] ∧ (cellsFrom (s.heap.objs.size + 1) scope.names []).lookup y = some c) ∨ env.cells.lookup y = some c := fun y c h => by
    have h' : (cellsFrom (s.heap.objs.size + 1) scope.names (clos env scope.names [])).lookup y = some c := h
    rw [cellsFrom_acc, lookup_append] at h'
    cases q : (cellsFrom (s.heap.objs.size + 1) scope.names []).lookup y with
    | some c' => rw [q] at h'; cases h'; exact .inl ⟨mem_of_lookup q, rfl⟩
    | none => rw [q] at h'; exact .inr (clos_lookup scope.names [] y c hfree (fun _ _ e => (nomatch e)) h')
  refine hq _ ⟨?_, F.globs, F.blts, fun x => relabel_kind x, ?_, ?_, ?_, ?_, ?_, ?_⟩ keep hnone ?_ ?_ _ rfl
  · show scope.kind = .function
    revert b4
    cases scope.kind <;> simp
  · intro x hx
    rcases List.mem_append.mp hx with hx | hx
    · unfold freshOf at hx
      rcases List.mem_cons.mp hx with rfl | hx
      · obtain ⟨o, _, _, e, _⟩ := hns; exact ⟨o, e⟩
      · obtain ⟨⟨n, c⟩, hc, rfl⟩ := List.mem_map.mp hx
        obtain ⟨o, e, _⟩ := (ok.empty n c hc).1
        exact ⟨o, e⟩
    · obtain ⟨o, e⟩ := F.live x hx; exact ⟨o, keep x o e⟩
  · exact List.mem_append_left _ (by unfold freshOf; exact List.mem_cons_self)
  · intro x c h
    rcases look x c h with ⟨h, _⟩ | h
    · exact List.mem_append_left _ (by unfold freshOf; exact List.mem_cons_of_mem _ (List.mem_map.mpr ⟨(x, c), h, rfl⟩))
    · exact List.mem_append_right _ (F.cin x c h)
  · intro x y c hx hy
    rcases look x c hx with ⟨hx, _⟩ | hx <;> rcases look y c hy with ⟨hy, _⟩ | hy
    · exact name_of_addr ok.apart hx hy
    · exfalso
      obtain ⟨o, e⟩ := F.live c (F.cin y c hy)
      exact absurd (Nat.lt_of_lt_of_le (Heap.lt_size e) (Nat.le_trans (Nat.le_succ _) (ok.empty x c hx).2)) (Nat.lt_irrefl _)
    · exfalso
      obtain ⟨o, e⟩ := F.live c (F.cin x c hx)
      exact absurd (Nat.lt_of_lt_of_le (Heap.lt_size e) (Nat.le_trans (Nat.le_succ _) (ok.empty y c hy).2)) (Nat.lt_irrefl _)
    · exact F.inj x y c hx hy
  · intro x hx
    show ∃ c v, (cellsFrom (s.heap.objs.size + 1) scope.names (clos env scope.names [])).lookup x = some c ∧ _
    rw [cellsFrom_acc, lookup_append]
    cases q : (cellsFrom (s.heap.objs.size + 1) scope.names []).lookup x with
    | some c => exact ⟨c, none, rfl, (ok.empty x c (mem_of_lookup q)).1⟩
    | none =>
      rcases hx with hx | hx
      · obtain ⟨c, hc⟩ := cellsFrom_mem scope.names (s.heap.objs.size + 1) x (mem_of_lookup hx)
        obtain ⟨b, hb⟩ := lookup_of_mem hc
        rw [q] at hb; cases hb
      · obtain ⟨c, hc⟩ := clos_has (env := env) scope.names [] x (.inl (mem_of_lookup hx))
        have he := clos_lookup scope.names [] x c hfree (fun _ _ e => (nomatch e)) hc
        have hk : sc.lookup x = some .cell ∨ sc.lookup x = some .free := by
          have := List.all_eq_true.mp b1 (x, .free) (mem_of_lookup hx)
          simpa using this
        obtain ⟨c', v, e1, e2⟩ := F.cell x hk
        rw [he] at e1; cases e1
        exact ⟨c, v, hc, e2.keeps keep⟩
  · refine ⟨fun _ => none, hns, fun x d hx => ?_⟩
    unfold freeOf at hx
    rw [lookup_filter (q := fun y => scope.names.lookup y == some NameKind.free)] at hx
    split at hx
    · rename_i hfx
      have hfx' : scope.names.lookup x = some .free := by simpa using hfx
      obtain ⟨μ, _, h2⟩ := F.ns
      have hk : sc.lookup x = some .cell ∨ sc.lookup x = some .free := by
        have := List.all_eq_true.mp b1 (x, .free) (mem_of_lookup hfx')
        simpa using this
      rcases h2 x d hx with ⟨a, _⟩ | ⟨_, c, v, h3, h4, h5⟩
      · rw [a] at hk; simp at hk
      · refine .inr ⟨.inr hfx', c, v, ?_, h4.keeps keep, (h5.off (W' := freshOf scope s.heap.objs.size ++ W) fun b hb => ?_).mono (KX.of keep)⟩
        · show (cellsFrom (s.heap.objs.size + 1) scope.names (clos env scope.names [])).lookup x = some c
          rw [cellsFrom_acc, lookup_append]
          cases q : (cellsFrom (s.heap.objs.size + 1) scope.names []).lookup x with
          | some c' =>
            have hm := cellsFrom_name _ _ _ _ (mem_of_lookup q)
            have := List.all_eq_true.mp b3 (x, .cell) hm
            simp [hfx'] at this
          | none =>
            obtain ⟨c', hc'⟩ := clos_has (env := env) scope.names [] x (.inl (mem_of_lookup hfx'))
            have he := clos_lookup scope.names [] x c' hfree (fun _ _ e => (nomatch e)) hc'
            rw [h3] at he; cases he
            simpa using hc'
        · rcases List.mem_append.mp hb with hb | hb
          · exact .inr (hnone b hb)
          · exact .inl hb
    · cases hx
  · intro y c h
    rcases look y c h with ⟨h, _⟩ | h
    · exact .inl (by unfold freshOf; exact List.mem_cons_of_mem _ (List.mem_map.mpr ⟨(y, c), h, rfl⟩))
    · exact .inr h
  · intro y hy c h
    have h' : (cellsFrom (s.heap.objs.size + 1) scope.names (clos env scope.names [])).lookup y = some c := h
    rw [cellsFrom_acc, lookup_append] at h'
    obtain ⟨c₁, hc₁⟩ := cellsFrom_mem scope.names (s.heap.objs.size + 1) y (mem_of_lookup hy)
    obtain ⟨c₂, hc₂⟩ := lookup_of_mem hc₁
    rw [hc₂] at h'
    cases h'
    unfold freshOf
    exact List.mem_cons_of_mem _ (List.mem_map.mpr ⟨(y, c), mem_of_lookup hc₂, rfl⟩)
end
end Mine
end

-- CompOk
section
open PySem PySem.W PyProof.Rows PySem.Calls PySem.SeqAt
set_option maxRecDepth 100000
namespace Mine

theorem FR.grow {W X : List Addr} {sc : List (Str × NameKind)} {env : Env} {h h' : Heap} {m : List (Str × D)} (F : FR W sc env h m) (hk : ∀ b o, h.get? b = some o → h'.get? b = some o) (hX : ∀ x ∈ X, h.get? x = none)
    (lv : ∀ x ∈ X, ∃ o, h'.get? x = some o) : FR (X ++ W) sc env h' m := by
  have off : ∀ {d v}, Rep W h d v → Rep (X ++ W) h' d v := fun r => (r.off (W' := X ++ W) fun b hb => by
    rcases List.mem_append.mp hb with hb | hb
    · exact .inr (hX b hb)
    · exact .inl hb).mono (KX.of hk)
  refine ⟨F.kind, F.globs, F.blts, F.kinds, fun x hx => ?_, List.mem_append_right _ F.loc, fun x c e => List.mem_append_right _ (F.cin x c e), F.inj, fun x hx => ?_, ?_⟩
  · rcases List.mem_append.mp hx with hx | hx
    · exact lv x hx
    · obtain ⟨o, e⟩ := F.live x hx; exact ⟨o, hk x o e⟩
  · obtain ⟨c, v, h1, h2⟩ := F.cell x hx
    exact ⟨c, v, h1, h2.keeps hk⟩
  · obtain ⟨μ, h1, h2⟩ := F.ns
    refine ⟨μ, h1.keeps hk, fun x d hx => ?_⟩
    rcases h2 x d hx with ⟨a, v, b, c⟩ | ⟨a, c, v, h3, h4, h5⟩
    · exact .inl ⟨a, v, b, off c⟩
    · exact .inr ⟨a, c, v, h3, h4.keeps hk, off h5⟩

/-- an iterator that yields the data ds -/
noncomputable def Src (prog : Program) (w : World) (A : Around) (W : List Addr) (s : Shared) (it : Value) (ds : List D) (s₂ : Shared) : Prop :=
  ∃ I fp wr n P St, it = .ref I ∧ Walks prog w A I fp wr n P St ∧ (∀ i h, St i h → ∀ b ∈ wr, ∃ o, h.get? b = some o) ∧ ds.length = n ∧ St 0 s₂.heap ∧ Keeps s s₂ ∧
    (∀ b ∈ wr, s.heap.get? b = none) ∧ (∀ b ∈ fp, b ∉ W ∧ ∃ o, s₂.heap.get? b = some o) ∧ ∀ i v, i < n → P i v → ∃ d, ds[i]? = some d ∧ Rep (wr ++ W) s₂.heap d v

noncomputable def notSet (e : Expr) : Bool := (exTag e).2.1
theorem folded_eq {e : Expr} (h : notSet e = true) (env : Env) (x : Value) : foldedSetIterable e env x = pure x := by cases e <;> first | rfl | cases h

section
variable {prog : Program} {w : World} {A : Around} {E : Value → Shared → Prop} {s : Shared}
variable {W : List Addr} {sc : List (Str × NameKind)} {env : Env} {m : List (Str × D)}

/-- what a comprehension leaves: Re relates each item that passes to what is kept of it -/
theorem comp_core {elt iter : Expr} {x : Str} {px : Pos} {ifs : List Expr} {scope : Scope} {pos : Pos} {ds : List D} {RR : Value → Addr → Result → Shared → Prop} {s₂ : Shared} {it : Value}
    (p : D → Bool) (Re : D → D → Prop)
    (F : FR W sc env s.heap m) (hb : blockOk sc scope = true) (hx : scope.names.lookup x = some .local ∨ scope.names.lookup x = some .cell) (hsz : ds.length ≤ sizeLine)
    (src : Src prog w A W s it ds s₂)
    (tests : ∀ W' cenv d, d ∈ ds → (∀ b ∈ W, b ∈ W') → ∀ s₃ E', FR W' scope.names cenv s₃.heap ((x, d) :: freeOf scope m) → (∃ h tk, s₃ = { s with heap := h, toks := tk } ∧ ∀ b o, s.heap.get? b = some o → h.get? b = some o) →
      wpAny (model prog w) A (testsOf ifs cenv) (fun ok s₄ => ok = p d ∧ Keeps s₃ s₄) E' s₃)
    (elts : ∀ W' cenv d, d ∈ ds → p d = true → (∀ b ∈ W, b ∈ W') → ∀ s₃ E', FR W' scope.names cenv s₃.heap ((x, d) :: freeOf scope m) → (∃ h tk, s₃ = { s with heap := h, toks := tk } ∧ ∀ b o, s.heap.get? b = some o → h.get? b = some o) →
      wpAny (model prog w) A (eval elt cenv) (fun y s₄ => Keeps s₃ s₄ ∧ ∃ d', Re d d' ∧ Rep W' s₄.heap d' y) E' s₃)
    (fin : ∀ Dx C h' tk ds', (∃ μ, h'.Ns C μ) → s.heap.get? C = none → (s.heap.get? Dx = none ∧ Dx ≠ C ∧ ∃ ys, h'.PlainList Dx ys ∧ Reps (Dx :: C :: W) h' ds' ys.toList) → Keeps s { s with heap := h', toks := tk } → Rep (C :: W) h' (.lst ds') (.ref Dx) → Paired Re (ds.filter p) ds' → RR (.ref Dx) C (.ok .next) { s with heap := h', toks := tk }) :
    wpAny (model prog w) A (newList []) (fun acc s₃ => wpAny (model prog w) A (newFunctionEnv scope env.globals (clos env scope.names []) [] env.qual none .none (some env)) (fun cenv s₄ =>
      codeAny (model prog w) A (.compStart (.ListComp elt [⟨.Name x px, iter, ifs, 0⟩] scope pos) 0 it acc { cenv with scope := relabel scope env }) (RR acc cenv.locals) s₄) E s₃) E s₂ := by
  obtain ⟨I, fp, wr, n, P, St, rfl, Wk, hlive, hn, hst, hk₂, hwr, hfp, items⟩ := src
  obtain ⟨h₂, tk₂, rfl, hk₂⟩ := hk₂
  dsimp only at hst hfp items hk₂ ⊢
  refine wpAny_newList ?_ (by simp)
  dsimp only
  generalize hH3 : h₂.push { cls := .type "list", data := .seq ([] : List Value).toArray } = H3
  have hk₃ : ∀ b o, h₂.get? b = some o → H3.get? b = some o := fun b o e => hH3 ▸ Heap.get?_push_of_some _ e
  have hD : H3.PlainList h₂.objs.size #[] := ⟨0, hH3 ▸ Heap.get?_push_size _ rfl⟩
  have hDnone : h₂.get? h₂.objs.size = none := by
    cases e : h₂.get? h₂.objs.size with
    | none => rfl
    | some o => exact absurd (Heap.lt_size e) (Nat.lt_irrefl _)
  have hDs : s.heap.get? h₂.objs.size = none := by
    cases e : s.heap.get? h₂.objs.size with
    | none => rfl
    | some o => rw [hk₂ _ _ e] at hDnone; cases hDnone
  have F₃ : FR ((h₂.objs.size :: wr) ++ W) sc env H3 m := F.grow (fun b o e => hk₃ b o (hk₂ b o e)) (fun b hb => by
      rcases List.mem_cons.mp hb with rfl | hb
      · exact hDs
      · exact hwr b hb) (fun b hb => by
      rcases List.mem_cons.mp hb with rfl | hb
      · obtain ⟨q, e⟩ := hD; exact ⟨_, e⟩
      · obtain ⟨o, e⟩ := hlive 0 h₂ hst b hb; exact ⟨o, hk₃ b o e⟩)
  refine comp_env (s := { s with heap := H3, toks := tk₂ }) F₃ hb fun h₄ F₄ hk₄ hnone hcl hxc e' he' => ?_
  subst he'
  show codeAny (model prog w) A (.compStart _ 0 _ _ (cEnv scope env H3.objs.size)) (RR (.ref h₂.objs.size) H3.objs.size) { s with heap := h₄, toks := tk₂ }
  dsimp only at F₄ hk₄ hnone hcl hxc
  generalize hW : freshOf scope H3.objs.size ++ ((h₂.objs.size :: wr) ++ W) = W' at F₄
  have hWsub : ∀ b ∈ W, b ∈ W' := fun b hb => hW ▸ List.mem_append_right _ (List.mem_append_right _ hb)
  have hfpn : ∀ b ∈ fp, b ∉ freshOf scope H3.objs.size := fun b hb q => by
    obtain ⟨o, e⟩ := (hfp b hb).2
    have := hnone b q
    rw [hk₃ b o e] at this; cases this
  have hDfp : h₂.objs.size ∉ fp := fun q => by
    obtain ⟨o, e⟩ := (hfp _ q).2
    rw [hDnone] at e; cases e
  have hDfr : h₂.objs.size ∉ freshOf scope H3.objs.size := fun q => by
    obtain ⟨k, e⟩ := hD
    have := hnone _ q
    rw [e] at this; cases this
  have hLfr : H3.objs.size ∈ freshOf scope H3.objs.size := by unfold freshOf; exact List.mem_cons_self
  have ksh : ∀ b o, s.heap.get? b = some o → h₄.get? b = some o := fun b o e => hk₄ b o (hk₃ b o (hk₂ b o e))
  have hYnone : ∀ b ∈ freshOf scope H3.objs.size ++ (h₂.objs.size :: wr), s.heap.get? b = none := fun b hb => by
    rcases List.mem_append.mp hb with hb | hb
    · cases e : s.heap.get? b with
      | none => rfl
      | some o => have := hnone b hb; rw [hk₃ b o (hk₂ b o e)] at this; cases this
    · rcases List.mem_cons.mp hb with rfl | hb
      · exact hDs
      · exact hwr b hb
  have hcf : ∀ y c, (cEnv scope env H3.objs.size).cells.lookup y = some c → c ∉ fp ∧ c ≠ h₂.objs.size := fun y c e => by
    rcases hcl y c e with q | q
    · exact ⟨fun z => hfpn c z q, fun z => hDfr (z ▸ q)⟩
    · have hcW := F.cin y c q
      exact ⟨fun z => (hfp c z).1 hcW, fun z => by obtain ⟨o, e⟩ := F.live c hcW; rw [z, hDs] at e; cases e⟩
  have hmx : (freeOf scope m).lookup x = none := by
    unfold freeOf
    rw [lookup_filter (q := fun y => scope.names.lookup y == some NameKind.free)]
    rw [if_neg]
    rcases hx with hx | hx <;> simp [hx]
  have loop : codeAny (model prog w) A (.compLoop (.ListComp elt [⟨.Name x px, iter, ifs, 0⟩] scope pos) 0 (.ref I) (.ref h₂.objs.size) (cEnv scope env H3.objs.size)) (RR (.ref h₂.objs.size) H3.objs.size) { s with heap := h₄, toks := tk₂ } := by
    refine comp_loop (W := W') (Y := freshOf scope H3.objs.size ++ (h₂.objs.size :: wr)) (sc := scope.names) (m := freeOf scope m) Wk ds p Re hlive hn (hn ▸ hsz) F₄ hx hmx
      (fun b hb => hW ▸ (by rw [← List.append_assoc]; exact List.mem_append_left _ hb)) (List.mem_append_right _ List.mem_cons_self) (fun b hb => List.mem_append_right _ (List.mem_cons_of_mem _ hb))
      (List.mem_append_left _ hLfr) (fun q c e => List.mem_append_left _ (hxc x q c e)) hDfp (fun q => hfpn _ q hLfr) (fun y c e => (hcf y c e).1) (fun q => hDfr (q ▸ hLfr)) (fun y c e => (hcf y c e).2)
      (Wk.frame _ _ _ hst fun b _ o e => hk₄ b o (hk₃ b o e)) (hD.at fun o e => hk₄ _ o e) (fun i v hin hP => ?_) (fun d hd s₃ E' Fx kx hs => ?_) (fun d hd hp s₃ E' Fx kx hs => ?_) (fun h' tk ys ds' _ ky hns hys hrs hpr => ?_)
    · obtain ⟨d, hd, hr⟩ := items i v hin hP
      refine ⟨d, hd, (hr.off (W' := W') fun b hb => ?_).mono (KX.of fun b o e => hk₄ b o (hk₃ b o e))⟩
      rw [← hW] at hb
      rcases List.mem_append.mp hb with hb | hb
      · refine .inr ?_
        cases e : h₂.get? b with
        | none => rfl
        | some o => have := hnone b hb; rw [hk₃ b o e] at this; cases this
      · rcases List.mem_append.mp hb with hb | hb
        · rcases List.mem_cons.mp hb with rfl | hb
          · exact .inr hDnone
          · exact .inl (List.mem_append_left _ hb)
        · exact .inl (List.mem_append_right _ hb)
    · obtain ⟨h, tk, rfl⟩ := hs
      refine tests W' _ d hd hWsub _ E' Fx ⟨h, tk, rfl, fun b o e => ?_⟩
      exact kx b o (fun q => by have := hYnone b q; rw [e] at this; cases this) (ksh b o e)
    · obtain ⟨h, tk, rfl⟩ := hs
      refine elts W' _ d hd hp hWsub _ E' Fx ⟨h, tk, rfl, fun b o e => ?_⟩
      exact kx b o (fun q => by have := hYnone b q; rw [e] at this; cases this) (ksh b o e)
    · have kfin : ∀ b o, s.heap.get? b = some o → h'.get? b = some o := fun b o e => ky b o (fun q => by have := hYnone b q; rw [e] at this; cases this) (ksh b o e)
      have hrs' : Reps (H3.objs.size :: W) h' ds' ys.toList := hrs.off fun b hb => by
        rcases List.mem_cons.mp hb with rfl | hb
        · exact .inl (hW ▸ List.mem_append_left _ hLfr)
        · exact .inl (hWsub b hb)
      refine fin _ _ h' tk ds' hns (by
        cases e : s.heap.get? H3.objs.size with
        | none => rfl
        | some o => have := hnone _ hLfr; rw [hk₃ _ o (hk₂ _ o e)] at this; cases this) ⟨hDs, fun q => hDfr (q ▸ hLfr), ys, hys, hrs.off fun b hb => by
          rcases List.mem_cons.mp hb with rfl | hb
          · exact .inl (hW ▸ List.mem_append_right _ (List.mem_append_left _ List.mem_cons_self))
          · rcases List.mem_cons.mp hb with rfl | hb
            · exact .inl (hW ▸ List.mem_append_left _ hLfr)
            · exact .inl (hWsub b hb)⟩ ⟨h', tk, rfl, kfin⟩ ?_ hpr
      simp only [Rep]
      refine ⟨_, ys, rfl, ?_, hys.isList, hrs'⟩
      intro q
      rcases List.mem_cons.mp q with q | q
      · exact hDfr (q ▸ hLfr)
      · obtain ⟨o, e⟩ := F.live _ q; rw [hDs] at e; cases e
  exact codeAny_compStart_list loop (Wk.self 0 _ _ _ (Wk.frame _ _ _ hst fun b _ o e => hk₄ b o (hk₃ b o e)) loop)
end
end Mine
end

-- CompUse2
section
open PySem PySem.W PyProof.Rows PySem.Calls PySem.SeqAt
set_option maxRecDepth 100000
namespace Mine

theorem FR.drop {W : List Addr} {C : Addr} {sc : List (Str × NameKind)} {env : Env} {h h' : Heap} {m : List (Str × D)} (F : FR (C :: W) sc env h m) (hL : env.locals ∈ W) (hc : ∀ x c, env.cells.lookup x = some c → c ∈ W) (hCW : C ∉ W)
    (hs : ∀ b o, b ≠ C → h.get? b = some o → h'.get? b = some o) : FR W sc env h' m := by
  have ne : ∀ x ∈ W, x ≠ C := fun x hx e => hCW (e ▸ hx)
  have rp : ∀ {d v}, Rep (C :: W) h d v → Rep W h' d v := fun r => (r.mono (h' := h') fun b o nb e => hs b o (fun q => nb (q ▸ List.mem_cons_self)) e).off fun b hb => .inl (List.mem_cons_of_mem _ hb)
  refine ⟨F.kind, F.globs, F.blts, F.kinds, fun x hx => let ⟨o, e⟩ := F.live x (List.mem_cons_of_mem _ hx); ⟨o, hs x o (ne x hx) e⟩, hL, hc, F.inj, fun x hx => ?_, ?_⟩
  · obtain ⟨c, v, h1, o, h2, h3⟩ := F.cell x hx
    exact ⟨c, v, h1, o, hs c o (ne c (hc x c h1)) h2, h3⟩
  · obtain ⟨μ, ⟨o, es, ep, e, r⟩, h2⟩ := F.ns
    refine ⟨μ, ⟨o, es, ep, hs _ _ (ne _ hL) e, r⟩, fun x d hx => ?_⟩
    rcases h2 x d hx with ⟨a, v, b, c⟩ | ⟨a, c, v, h3, ⟨o', h4, h4'⟩, h5⟩
    · exact .inl ⟨a, v, b, rp c⟩
    · exact .inr ⟨a, c, v, h3, ⟨o', hs c o' (ne c (hc x c h3)) h4, h4'⟩, rp h5⟩

section
variable {prog : Program} {w : World} {A : Around} {E : Value → Shared → Prop} {s : Shared}
variable {W : List Addr} {sc : List (Str × NameKind)} {env : Env} {m : List (Str × D)}

theorem blockOk_names {scope : Scope} (hb : blockOk sc scope = true) : scope.kind = .function ∧ ∀ y ∈ scope.names, y.2 = .local → scope.names.lookup y.1 = some .local := by
  simp only [blockOk, Bool.and_eq_true] at hb
  obtain ⟨⟨⟨b1, b2⟩, b3⟩, b4⟩ := hb
  refine ⟨by revert b4; cases scope.kind <;> simp, fun y hy hl => ?_⟩
  have := List.all_eq_true.mp b2 y hy
  simpa [hl] using this

/-- a comprehension as an expression -/
theorem listcomp_ok {elt iter : Expr} {x : Str} {px : Pos} {ifs : List Expr} {scope : Scope} {pos : Pos} {ds : List D} {Q : Value → Shared → Prop} (p : D → Bool) (Re : D → D → Prop)
    (F : FR W sc env s.heap m) (hb : blockOk sc scope = true) (hx : scope.names.lookup x = some .local ∨ scope.names.lookup x = some .cell) (hsz : ds.length ≤ sizeLine) (hset : notSet iter = true)
    (src : ∀ Q', (∀ it s₂, Src prog w A W s it ds s₂ → Q' it s₂) → wpAny (model prog w) A (eval iter env) (fun xv s₁ => wpAny (model prog w) A (pyIter xv) Q' E s₁) E s)
    (tests : ∀ W' cenv d, d ∈ ds → (∀ b ∈ W, b ∈ W') → ∀ s₃ E', FR W' scope.names cenv s₃.heap ((x, d) :: freeOf scope m) → (∃ h tk, s₃ = { s with heap := h, toks := tk } ∧ ∀ b o, s.heap.get? b = some o → h.get? b = some o) →
      wpAny (model prog w) A (testsOf ifs cenv) (fun ok s₄ => ok = p d ∧ Keeps s₃ s₄) E' s₃)
    (elts : ∀ W' cenv d, d ∈ ds → p d = true → (∀ b ∈ W, b ∈ W') → ∀ s₃ E', FR W' scope.names cenv s₃.heap ((x, d) :: freeOf scope m) → (∃ h tk, s₃ = { s with heap := h, toks := tk } ∧ ∀ b o, s.heap.get? b = some o → h.get? b = some o) →
      wpAny (model prog w) A (eval elt cenv) (fun y s₄ => Keeps s₃ s₄ ∧ ∃ d', Re d d' ∧ Rep W' s₄.heap d' y) E' s₃)
    (hq : ∀ ds' v s', Keeps s s' → Rep W s'.heap (.lst ds') v → Paired Re (ds.filter p) ds' → Q v s') :
    wpAny (model prog w) A (eval (.ListComp elt [⟨.Name x px, iter, ifs, 0⟩] scope pos) env) Q E s := by
  rw [eval_ListComp]
  obtain ⟨hk, hnm⟩ := blockOk_names hb
  refine wpAny_comprehension_free (use := none) rfl (folded_eq hset env) (closureFor_eq (blockOk_free hb F)) hk hnm (src _ fun it s₂ hsrc => ?_)
  refine comp_core (RR := fun acc C => compPost (model prog w) A E none Q acc C) p Re F hb hx hsz hsrc tests elts ?_
  intro Dx C h' tk ds' hns hC _ hks hrep hpr
  obtain ⟨μ, hns⟩ := hns
  refine ⟨μ, hns, fun h'' hs'' => hq ds' _ _ ?_ ?_ hpr⟩
  · obtain ⟨h1, t1, e1, k1⟩ := hks
    cases e1
    exact ⟨h'', tk, rfl, fun b o e => (hs''.2 b (by rintro rfl; rw [hC] at e; cases e)).trans (k1 b o e)⟩
  · exact (hrep.mono (h' := h'') fun b o nb e => (hs''.2 b (fun q => nb (q ▸ List.mem_cons_self))).trans e).off fun b hb => .inl (List.mem_cons_of_mem _ hb)

/-- NAME = [comprehension] -/
theorem assign_comp_ok {elt iter : Expr} {x y : Str} {px py : Pos} {ifs : List Expr} {scope : Scope} {pos spos : Pos} {ds : List D} {Q : Flow → Shared → Prop} (p : D → Bool) (Re : D → D → Prop)
    (F : FR W sc env s.heap m) (hb : blockOk sc scope = true) (hx : scope.names.lookup x = some .local ∨ scope.names.lookup x = some .cell) (hy : sc.lookup y = some .local ∨ sc.lookup y = some .cell) (hsz : ds.length ≤ sizeLine) (hset : notSet iter = true)
    (src : ∀ Q', (∀ it s₂, Src prog w A W s it ds s₂ → Q' it s₂) → wpAny (model prog w) A (eval iter env) (fun xv s₁ => wpAny (model prog w) A (pyIter xv) Q' E s₁) E s)
    (tests : ∀ W' cenv d, d ∈ ds → (∀ b ∈ W, b ∈ W') → ∀ s₃ E', FR W' scope.names cenv s₃.heap ((x, d) :: freeOf scope m) → (∃ h tk, s₃ = { s with heap := h, toks := tk } ∧ ∀ b o, s.heap.get? b = some o → h.get? b = some o) →
      wpAny (model prog w) A (testsOf ifs cenv) (fun ok s₄ => ok = p d ∧ Keeps s₃ s₄) E' s₃)
    (elts : ∀ W' cenv d, d ∈ ds → p d = true → (∀ b ∈ W, b ∈ W') → ∀ s₃ E', FR W' scope.names cenv s₃.heap ((x, d) :: freeOf scope m) → (∃ h tk, s₃ = { s with heap := h, toks := tk } ∧ ∀ b o, s.heap.get? b = some o → h.get? b = some o) →
      wpAny (model prog w) A (eval elt cenv) (fun y s₄ => Keeps s₃ s₄ ∧ ∃ d', Re d d' ∧ Rep W' s₄.heap d' y) E' s₃)
    (hq : ∀ ds' h' tk, Paired Re (ds.filter p) ds' → FR W sc env h' ((y, .lst ds') :: m) → KX W s.heap h' → (∃ a, (a = env.locals ∨ (sc.lookup y = some .cell ∧ env.cells.lookup y = some a)) ∧ ∀ b o, b ≠ a → s.heap.get? b = some o → h'.get? b = some o) → Q .next { s with heap := h', toks := tk }) :
    wpAny (model prog w) A (exec (.Assign [.Name y py] (.ListComp elt [⟨.Name x px, iter, ifs, 0⟩] scope pos) spos) env) Q E s := by
  have hswap : ∃ b, swapsWith (.ListComp elt [⟨.Name x px, iter, ifs, 0⟩] scope pos) (some (.Name y py)) spos.line env = pure b := ⟨_, rfl⟩
  obtain ⟨b, hsw⟩ := hswap
  cases b with
  | false =>
    refine asgN (listcomp_ok p Re F hb hx hsz hset src tests elts fun ds' v s' hks hr hpr => ?_) hsw
    obtain ⟨h', tk, rfl, hk⟩ := hks
    refine FR.store (s := { s with heap := h', toks := tk }) (F.keep hk) hy hr fun h'' tk'' F'' kx'' hb'' => ?_
    obtain ⟨a, ha, hb''⟩ := hb''
    exact hq ds' h'' tk'' hpr F'' ((KX.of hk).trans kx'') ⟨a, ha, fun b o nb e => hb'' b o nb (hk b o e)⟩
  | true =>
    rw [exec_Assign_Name_used _ _ _ _ hsw]
    refine wpAny_bind (wpAny_standAt (wpAny_bind ?_))
    show wpAny _ A (do let _ ← comprehension (.ListComp elt [⟨.Name x px, iter, ifs, 0⟩] scope pos) scope env _ (newList []) false (eval iter env) (some (assign (.Name y py) env))) _ _ s
    obtain ⟨hk, hnm⟩ := blockOk_names hb
    refine wpAny_bind (wpAny_mono (wpAny_comprehension_free (use := some (assign (.Name y py) env)) (Q := fun _ s' => Q .next s') rfl (folded_eq hset env) (closureFor_eq (blockOk_free hb F)) hk hnm
      (src _ fun it s₂ hsrc => ?_)) (fun _ s' hq => wpAny_pure (wpAny_pure hq)) fun _ _ e => e)
    refine comp_core (RR := fun acc C => compPost (model prog w) A E (some (assign (.Name y py) env)) (fun _ s' => Q .next s') acc C) p Re F hb hx hsz hsrc tests elts ?_
    intro Dx C h' tk ds' hns hC _ hks hrep hpr
    obtain ⟨μ, hns⟩ := hns
    obtain ⟨h1, t1, e1, k1⟩ := hks
    cases e1
    have hCW : C ∉ W := fun q => by obtain ⟨o, e⟩ := F.live C q; rw [hC] at e; cases e
    have F' : FR (C :: W) sc env h' m := F.grow (X := [C]) k1 (by simpa using hC) (fun b hb => by
      simp at hb; subst hb; obtain ⟨o, _, _, e, _⟩ := hns; exact ⟨o, e⟩)
    show wpAny _ A (assign (.Name y py) env (.ref Dx)) _ _ _
    refine wpAny_assign_Name (FR.store (s := { s with heap := h', toks := tk }) F' hy hrep fun h₂ tk₂ F₂ kx₂ hb₂ => ?_)
    obtain ⟨a, ha, hb₂⟩ := hb₂
    have haC : C ≠ a := by
      rcases ha with rfl | ⟨_, ha⟩
      · exact fun q => hCW (q ▸ F.loc)
      · exact fun q => hCW (q ▸ F.cin _ _ ha)
    refine ⟨μ, hns.at' fun o e => hb₂ C o haC e, fun h₃ hs₃ => ?_⟩
    refine hq ds' h₃ tk₂ hpr (F₂.drop F.loc F.cin hCW fun b o nb e => (hs₃.2 b nb).trans e) ?_ ⟨a, ha, fun b o nb e => ?_⟩
    · intro b o nb e
      have hbC : b ≠ C := by rintro rfl; rw [hC] at e; cases e
      exact (hs₃.2 b hbC).trans (kx₂ b o (fun q => by rcases List.mem_cons.mp q with q | q; exact hbC q; exact nb q) (k1 b o e))
    · have hbC : b ≠ C := by rintro rfl; rw [hC] at e; cases e
      exact (hs₃.2 b hbC).trans (hb₂ b o nb (k1 b o e))
end
end Mine
end

-- Ev
section
open PySem PySem.W PyProof.Rows PySem.Calls PySem.SeqAt
set_option maxRecDepth 100000
namespace Mine

noncomputable abbrev K : Params → Frag := hFrag

/-- what is known of the heap behind the top -/
structure Base (P : Params) (h₀ : Heap) : Prop where
  k : (K P).In h₀
  g : ∃ mg, h₀.Ns mainGlobals mg
  b : ∃ mb, h₀.Ns builtinsNs mb ∧ ∀ x : Str, x ≠ "__name__" → mb x = bootBuiltins x
  lim : h₀.NoLimit
  t1 : ∃ ps, h₀.get? 137 = some (tabObj ps)
  t2 : ∃ ps, h₀.get? 147 = some (tabObj ps)

/-- h has all that h₀ has, but for the two code tables that may grow -/
structure Tp (h₀ h : Heap) : Prop where
  all : ∀ b o, b ≠ 137 → b ≠ 147 → h₀.get? b = some o → h.get? b = some o
  s1 : ∃ o, h₀.get? 137 = some o
  s2 : ∃ o, h₀.get? 147 = some o
  l1 : ∃ o, h.get? 137 = some o
  l2 : ∃ o, h.get? 147 = some o
theorem Tp.keep {h₀ h h' : Heap} (t : Tp h₀ h) (hk : ∀ b o, h.get? b = some o → h'.get? b = some o) : Tp h₀ h' :=
  ⟨fun b o n1 n2 e => hk b o (t.all b o n1 n2 e), t.s1, t.s2, let ⟨o, e⟩ := t.l1; ⟨o, hk _ o e⟩, let ⟨o, e⟩ := t.l2; ⟨o, hk _ o e⟩⟩
theorem Tp.kx {h₀ h h' : Heap} {Y : List Addr} (t : Tp h₀ h) (kx : ∀ b o, b ∉ Y → h.get? b = some o → h'.get? b = some o) (hY : ∀ b ∈ Y, h₀.get? b = none) : Tp h₀ h' := by
  have no : ∀ {b o}, h₀.get? b = some o → b ∉ Y := fun e q => by rw [hY _ q] at e; cases e
  refine ⟨fun b o n1 n2 e => kx b o (no e) (t.all b o n1 n2 e), t.s1, t.s2, ?_, ?_⟩
  · obtain ⟨o, e⟩ := t.l1; obtain ⟨o', e'⟩ := t.s1; exact ⟨o, kx _ o (no e') e⟩
  · obtain ⟨o, e⟩ := t.l2; obtain ⟨o', e'⟩ := t.s2; exact ⟨o, kx _ o (no e') e⟩
/-- what is not in h is not in h₀ -/
theorem Tp.gone {h₀ h : Heap} (t : Tp h₀ h) {b : Addr} (hb : h.get? b = none) : h₀.get? b = none := by
  cases e : h₀.get? b with
  | none => rfl
  | some o =>
    by_cases q1 : b = 137
    · subst q1; obtain ⟨o, e⟩ := t.l1; rw [hb] at e; cases e
    by_cases q2 : b = 147
    · subst q2; obtain ⟨o, e⟩ := t.l2; rw [hb] at e; cases e
    rw [t.all b o q1 q2 e] at hb; cases hb

theorem Base.kin {P : Params} {h₀ h : Heap} (B : Base P h₀) (t : Tp h₀ h) : (K P).In h := fun a o e => by
  refine t.all a o ?_ ?_ (B.k a o e)
  · rintro rfl; cases e
  · rintro rfl; cases e
theorem Base.ns {h₀ h : Heap} (t : Tp h₀ h) {a : Addr} {m : Str → Option Value} (hn : h₀.Ns a m) (h1 : a ≠ 137) (h2 : a ≠ 147) : h.Ns a m := hn.at' fun o e => t.all a o h1 h2 e

/-- room for calls -/
structure Room (A : Around) (k : Nat) : Prop where
  hd : A.handled = none
  dp : A.depth + k < recursionLimit
  un : A.units + 64 * k + 64 < cLine
theorem Room.deeper {A : Around} {k : Nat} (r : Room A (k + 1)) (env : Env) : Room (A.deeper env) k :=
  ⟨r.hd, by show A.depth + 1 + k < _; have := r.dp; omega, by show A.units + 3 + 64 * k + 64 < _; have := r.un; omega⟩

noncomputable def pconst : Const → Option D
  | .none => some .none
  | .bool b => some (.bool b)
  | .int i => some (.int i)
  | .str s => some (.str s)
  | _ => none

noncomputable def noStar (e : Expr) : Bool := (exTag e).1
noncomputable def asName : Expr → Option Str
  | .Name x _ => some x
  | _ => none
theorem asName_eq {e : Expr} {x : Str} (h : asName e = some x) : ∃ p, e = .Name x p := by
  cases e <;> first | exact no h | exact ⟨_, congrArg (fun x => Expr.Name x _) (Option.some.inj h)⟩
noncomputable def asCall : Expr → Option (Expr × List Expr × List Keyword × Pos)
  | .Call f a k p => some (f, a, k, p)
  | _ => none
theorem asCall_eq {e : Expr} {c : Expr × List Expr × List Keyword × Pos} (h : asCall e = some c) : e = .Call c.1 c.2.1 c.2.2.1 c.2.2.2 := by
  cases e <;> first | exact no h | exact congrArg (fun c : Expr × List Expr × List Keyword × Pos => Expr.Call c.1 c.2.1 c.2.2.1 c.2.2.2) (Option.some.inj h)
noncomputable def asOne {α : Type} (l : List α) : Option α := if l.length = 1 then l.head? else none
theorem asOne_eq {α : Type} {l : List α} {a : α} (h : asOne l = some a) : l = [a] := by
  obtain ⟨h1, h2⟩ := ite1 h
  obtain ⟨b, rfl⟩ := len1 h1
  exact congrArg (fun x => [x]) (Option.some.inj h2)
noncomputable def asTwo {α : Type} (l : List α) : Option (α × α) := if l.length = 2 then l.head?.bind fun a => l.tail.head?.map fun b => (a, b) else none
theorem asTwo_eq {α : Type} {l : List α} {a : α × α} (h : asTwo l = some a) : l = [a.1, a.2] := by
  obtain ⟨h1, h2⟩ := ite1 h
  obtain ⟨b, c, rfl⟩ := len2 h1
  exact congrArg (fun x : α × α => [x.1, x.2]) (Option.some.inj h2)
noncomputable def notSuper (e : Expr) : Bool := !((asCall e).any fun c => (asName c.1).isSome && c.2.1.isEmpty && c.2.2.1.isEmpty)

noncomputable def pidx (a b : D) : Option D := b.gI.bind fun i => match a with
  | .lst ds => if ds.length ≤ bound ∧ -(ds.length : Int) ≤ i ∧ i < ds.length then ds[(if i < 0 then i + ds.length else i).toNat]? else none
  | .tup ds => if ds.length ≤ bound ∧ 0 ≤ i ∧ i < ds.length then ds[i.toNat]? else none
  | .str x => if x.length ≤ bound ∧ 0 ≤ i ∧ i < x.length then (x.cps[i.toNat]?).map fun c => .str ⟨#[c]⟩ else none
  | _ => none

noncomputable def pattr (a : D) (name : Str) : Option D := match a with
  | .ent _ ns ds => if name ∈ (["useragents", "rulelines", "delay", "req_rate", "allowance"] : List Str) then (match (ns.zip ds).lookup name with | some d => if d.isRaw = true then none else some d | none => none) else none
  | _ => none

noncomputable def ppart (ev : Expr → Option D) (o : Option Expr) : Option (Option Int) := if o.isSome = true then ((o.bind ev).bind D.gI).bind fun i => some (some i) else some none
noncomputable def ppick (ds : List D) (lo hi st : Option Int) : List D :=
  ((sliceRange (sliceBounds lo hi st ds.length).1 (sliceBounds lo hi st ds.length).2.1 (sliceBounds lo hi st ds.length).2.2).filterMap (ds[·]?))
noncomputable def pslice (ev : Expr → Option D) (a : D) (lo hi st : Option Expr) : Option D := a.gL.bind fun ds => (ppart ev lo).bind fun l => (ppart ev hi).bind fun h => (ppart ev st).bind fun s =>
  if ds.length ≤ bound ∧ s ≠ some 0 then some (.lst (ppick ds l h s)) else none

noncomputable def pevs (ev : Expr → Option D) : List Expr → Option (List D)
  | [] => some []
  | e :: r => match ev e, pevs ev r with | some d, some ds => some (d :: ds) | _, _ => none

noncomputable def strsOf : List D → Option (List Str)
  | [] => some []
  | .str x :: r => (strsOf r).map (x :: ·)
  | _ => none

noncomputable def pStr (x name : Str) (ds : List D) : Option D :=
  if name = "join" then (asOne ds).bind fun d => d.gL.bind fun l => (strsOf l).bind fun xs => if JoinOk x xs = true then some (.str (Txt.join x xs)) else none
  else if name = "upper" ∧ ds.isEmpty = true ∧ (Txt.upper x).length ≤ bound then some (.str (Txt.upper x))
  else if name = "lower" ∧ ds.isEmpty = true ∧ (Txt.lower x).length ≤ bound then some (.str (Txt.lower x)) else none
noncomputable def pmeth (M : Str → List D → Option D) (b : D) (name : Str) (ds : List D) : Option D := match b with
  | .str x => pStr x name ds
  | .ent a ns fs => if ns.contains name = false then M name (.ent a ns fs :: ds) else none
  | _ => none

noncomputable def pcallG (F : Str → List D → Option D) (f : Str) (ds : List D) : Option D :=
  if f = "len" then (asOne ds).bind fun d => d.gL.bind fun l => if l.length ≤ bound then some (.int l.length) else none else F f ds

noncomputable def pcomp (t : D → Option Bool) (e : D → Option D) : List D → Option (List D)
  | [] => some []
  | d :: r => match t d with
    | none => none
    | some false => pcomp t e r
    | some true => match e d, pcomp t e r with | some y, some ys => some (y :: ys) | _, _ => none

noncomputable def ptests (t : Expr → Option Bool) : List Expr → Option Bool
  | [] => some true
  | [c] => t c
  | _ => none

noncomputable def asRange (e : Expr) : Option (Expr × Expr × Pos) := (asCall e).bind fun c => (asName c.1).bind fun f => (asOne c.2.1).bind fun a => if f = "range" ∧ c.2.2.1.isEmpty = true then some (a, c.1, c.2.2.2) else none
theorem asRange_eq {e : Expr} {c : Expr × Expr × Pos} (h : asRange e = some c) : ∃ p, e = .Call (.Name "range" p) [c.1] [] c.2.2 := by
  obtain ⟨c', h1, q1⟩ := obnd h
  obtain ⟨f, h2, q2⟩ := obnd q1
  obtain ⟨a, h3, q3⟩ := obnd q2
  obtain ⟨⟨h4, h5⟩, h6⟩ := ite1 q3
  cases h6
  obtain ⟨p, h7⟩ := asName_eq h2
  exact ⟨p, by rw [asCall_eq h1, asOne_eq h3, List.isEmpty_iff.mp h5, h7, h4]⟩
noncomputable def psrc (ev : Expr → Option D) (sc : List (Str × NameKind)) (iter : Expr) : Option (List D) :=
  if (asRange iter).isSome = true then (asRange iter).bind fun c => if sc.lookup ("range" : Str) = some .globalImplicit ∧ noStar c.1 = true then ((ev c.1).bind D.gI).bind fun k => if 0 ≤ k ∧ k ≤ bound then some ((List.range k.toNat).map fun (i : Nat) => .int (i : Int)) else none else none
  else (ev iter).bind D.gL

noncomputable def asAttr : Expr → Option (Expr × Str × Pos)
  | .Attribute o name p => some (o, name, p)
  | _ => none
theorem asAttr_eq {e : Expr} {t : Expr × Str × Pos} (h : asAttr e = some t) : e = .Attribute t.1 t.2.1 t.2.2 := by
  cases e <;> first | exact no h | exact congrArg (fun t : Expr × Str × Pos => Expr.Attribute t.1 t.2.1 t.2.2) (Option.some.inj h)
noncomputable def asSlice : Expr → Option (Option Expr × Option Expr × Option Expr)
  | .Slice lo hi st _ => some (lo, hi, st)
  | _ => none
theorem asSlice_eq {e : Expr} {t : Option Expr × Option Expr × Option Expr} (h : asSlice e = some t) : ∃ p, e = .Slice t.1 t.2.1 t.2.2 p := by
  cases e <;> first | exact no h | exact ⟨_, congrArg (fun t : Option Expr × Option Expr × Option Expr => Expr.Slice t.1 t.2.1 t.2.2 _) (Option.some.inj h)⟩
noncomputable def asSplit (v : Expr) : Option (Expr × Pos × Expr × Pos) := (asCall v).bind fun c => (asAttr c.1).bind fun t => (asOne c.2.1).bind fun a => if t.2.1 = "split" ∧ c.2.2.1.isEmpty = true then some (t.1, t.2.2, a, c.2.2.2) else none
theorem asSplit_eq {v : Expr} {c : Expr × Pos × Expr × Pos} (h : asSplit v = some c) : v = .Call (.Attribute c.1 "split" c.2.1) [c.2.2.1] [] c.2.2.2 := by
  obtain ⟨c', h1, q1⟩ := obnd h
  obtain ⟨t, h2, q2⟩ := obnd q1
  obtain ⟨a, h3, q3⟩ := obnd q2
  obtain ⟨⟨h4, h5⟩, h6⟩ := ite1 q3
  cases h6
  rw [asCall_eq h1, asOne_eq h3, List.isEmpty_iff.mp h5, asAttr_eq h2, h4]
noncomputable def oneGen (gs : List Comprehension) : Option (Str × Expr × List Expr) := (asOne gs).bind fun g => (asName g.target).bind fun x => if g.is_async = 0 then some (x, g.iter, g.ifs) else none
theorem oneGen_eq {gs : List Comprehension} {c : Str × Expr × List Expr} (h : oneGen gs = some c) : ∃ p, gs = [⟨.Name c.1 p, c.2.1, c.2.2, 0⟩] := by
  obtain ⟨g, h1, q1⟩ := obnd h
  obtain ⟨x, h2, q2⟩ := obnd q1
  obtain ⟨h4, h6⟩ := ite1 q2
  cases h6
  obtain ⟨p, h7⟩ := asName_eq h2
  refine ⟨p, (asOne_eq h1).trans ?_⟩
  cases g
  cases h4; cases h7; rfl

noncomputable def hName (m : List (Str × D)) (x : Str) : Option D := if x ≠ "__debug__" ∧ x ≠ "__classdict__" then m.lookup x else none
noncomputable def hBin (ev : Expr → Option D) (l : Expr) (op : Operator) (r : Expr) : Option D := (ev l).bind fun a => (ev r).bind fun b => pbin op a b
noncomputable def hCmp (ev : Expr → Option D) (l : Expr) (ops : List CmpOp) (rs : List Expr) : Option Bool := (asOne ops).bind fun op => (asOne rs).bind fun r =>
  if behindInMarks op r = false then (ev l).bind fun a => (ev r).bind fun b => pcmp op a b else none
noncomputable def hBool (ev : Expr → Option D) (op : BoolOp) (es : List Expr) : Option D := (asTwo es).bind fun t => ((ev t.1).bind D.gB).bind fun b =>
  match op with | .And => cond b (ev t.2) (some (.bool false)) | .Or => cond b (some (.bool true)) (ev t.2)
noncomputable def hUn (ev : Expr → Option D) (op : UnaryOp) (x : Expr) : Option D := match op with
  | .USub => ((ev x).bind D.gI).bind fun i => some (.int (-i))
  | _ => none
noncomputable def hIf (ev : Expr → Option D) (ts : Expr → Option Bool) (t b o : Expr) : Option D := (ts t).bind fun c => cond c (ev b) (ev o)
noncomputable def hItems (ev : Expr → Option D) (es : List Expr) : Option (List D) := if es.all noStar = true ∧ es.length ≤ bound then pevs ev es else none
noncomputable def hIdx (ev : Expr → Option D) (v i : Expr) : Option D := (ev v).bind fun a => (ev i).bind fun b => pidx a b
noncomputable def hSplit (ev : Expr → Option D) (o : Expr) (apos : Pos) (a : Expr) (cpos : Pos) (i : Expr) : Option D :=
  if notSuper o = true ∧ noStar a = true ∧ (apos.endLine == cpos.line) = true then
    ((ev o).bind D.gS).bind fun x => ((ev a).bind D.gS).bind fun y => ((ev i).bind D.gI).bind fun z =>
      if z = 0 ∧ y.length ≠ 0 ∧ x.length ≤ bound ∧ (Builtin.Str.partsBetween x (Builtin.Str.occurrences x y 0 x.length (x.length + 1)) y.length).length ≤ bound then (Txt.split x y)[0]?.map .str else none
  else none
noncomputable def hSub (ev : Expr → Option D) (v i : Expr) : Option D :=
  if (asSplit v).isSome = true then (asSplit v).bind fun c => hSplit ev c.1 c.2.1 c.2.2.1 c.2.2.2 i
  else if (asSlice i).isSome = true then (asSlice i).bind fun t => (ev v).bind fun a => pslice ev a t.1 t.2.1 t.2.2
  else hIdx ev v i
noncomputable def hAttr (ev : Expr → Option D) (o : Expr) (name : Str) : Option D := if notSuper o = true then (ev o).bind fun a => pattr a name else none
noncomputable def hComp (evs : List (Str × NameKind) → List (Str × D) → Expr → Option D) (tss : List (Str × NameKind) → List (Str × D) → Expr → Option Bool) (sc : List (Str × NameKind)) (m : List (Str × D)) (elt : Expr) (gens : List Comprehension) (scope : Scope) : Option D :=
  (oneGen gens).bind fun g => if blockOk sc scope = true ∧ (scope.names.lookup g.1 = some .local ∨ scope.names.lookup g.1 = some .cell) ∧ notSet g.2.1 = true then
    (psrc (evs sc m) sc g.2.1).bind fun ds => if ds.length ≤ bound then (pcomp (fun d => ptests (tss scope.names ((g.1, d) :: freeOf scope m)) g.2.2) (fun d => evs scope.names ((g.1, d) :: freeOf scope m) elt) ds).bind fun ys => some (.lst ys) else none
  else none
noncomputable def hFn (F : Str → List D → Option D) (ev : Expr → Option D) (sc : List (Str × NameKind)) (f : Str) (args : List Expr) : Option D :=
  if sc.lookup f = some .globalImplicit ∧ f ≠ "__debug__" ∧ args.all noStar = true then (pevs ev args).bind fun ds => pcallG F f ds else none
noncomputable def hMeth (M : Str → List D → Option D) (ev : Expr → Option D) (o : Expr) (name : Str) (apos : Pos) (args : List Expr) (pos : Pos) : Option D :=
  if notSuper o = true ∧ args.all noStar = true ∧ args.length < 30 ∧ (apos.endLine == pos.line) = true then (ev o).bind fun b => (pevs ev args).bind fun ds => pmeth M b name ds else none
noncomputable def hCall (F M : Str → List D → Option D) (ev : Expr → Option D) (sc : List (Str × NameKind)) (fn : Expr) (args : List Expr) (kws : List Keyword) (pos : Pos) : Option D :=
  if kws.isEmpty = true then (if (asName fn).isSome = true then (asName fn).bind fun f => hFn F ev sc f args else (asAttr fn).bind fun t => hMeth M ev t.1 t.2.1 t.2.2 args pos) else none
noncomputable def tNot (ts : Expr → Option Bool) (op : UnaryOp) (x : Expr) : Option Bool := match op with | .Not => (ts x).bind fun c => some (!c) | _ => none
noncomputable def tBool (ts : Expr → Option Bool) (op : BoolOp) (es : List Expr) : Option Bool := (asTwo es).bind fun t => (ts t.1).bind fun b =>
  match op with | .And => cond b (ts t.2) (some false) | .Or => cond b (some true) (ts t.2)
noncomputable def tVal (ev : Expr → Option D) (e : Expr) : Option Bool := (ev e).bind D.gB

mutual
noncomputable def pev (F M : Str → List D → Option D) : Nat → List (Str × NameKind) → List (Str × D) → Expr → Option D
  | 0, _, _, _ => none
  | n + 1, sc, m, e => match e with
    | .Constant c _ _ => pconst c
    | .Name x _ => hName m x
    | .BinOp l op r _ => hBin (pev F M n sc m) l op r
    | .Compare l ops rs _ => (hCmp (pev F M n sc m) l ops rs).map .bool
    | .BoolOp op es _ => hBool (pev F M n sc m) op es
    | .UnaryOp op x _ => hUn (pev F M n sc m) op x
    | .IfExp t b o _ => hIf (pev F M n sc m) (ptest F M n sc m) t b o
    | .List es _ => (hItems (pev F M n sc m) es).map .lst
    | .Tuple es _ _ => (hItems (pev F M n sc m) es).map .tup
    | .Subscript v i _ => hSub (pev F M n sc m) v i
    | .Attribute o name _ => hAttr (pev F M n sc m) o name
    | .ListComp elt gens scope _ => hComp (pev F M n) (ptest F M n) sc m elt gens scope
    | .Call fn args kws pos => hCall F M (pev F M n sc m) sc fn args kws pos
    | _ => none
noncomputable def ptest (F M : Str → List D → Option D) : Nat → List (Str × NameKind) → List (Str × D) → Expr → Option Bool
  | 0, _, _, _ => none
  | n + 1, sc, m, e => match e with
    | .Compare l ops rs _ => hCmp (pev F M n sc m) l ops rs
    | .UnaryOp op x _ => tNot (ptest F M n sc m) op x
    | .BoolOp op es _ => tBool (ptest F M n sc m) op es
    | .Name x p => tVal (pev F M n sc m) (.Name x p)
    | .Call f a k p => tVal (pev F M n sc m) (.Call f a k p)
    | _ => none
end

end Mine
end

-- EvOk
section
open PySem PySem.W PyProof.Rows PySem.Calls PySem.SeqAt
set_option maxRecDepth 100000
namespace Mine

/-- a call's contract -/
noncomputable abbrev CallOk (prog : Program) (w : World) (h₀ : Heap) (k : Nat) (a : Addr) (ds : List D) (d : D) : Prop :=
  ∀ (A : Around) (W : List Addr) (s : Shared) (vs : List Value) (Q E : Value → Shared → Prop), Room A k → Tp h₀ s.heap → Live W s.heap → Reps W s.heap ds vs → Then W s d Q → wpAny (model prog w) A (call (.ref a) vs) Q E s
noncomputable def FnOk (prog : Program) (w : World) (h₀ : Heap) (k : Nat) (F : Str → List D → Option D) : Prop :=
  ∀ f ds d, F f ds = some d → ∃ a o fd, nsIn (K w.params) mainGlobals f = some (some (.ref a)) ∧ (K w.params).lookup a = some o ∧ o.data = .func fd ∧ CallOk prog w h₀ k a ds d
noncomputable def MtOk (prog : Program) (w : World) (h₀ : Heap) (k : Nat) (M : Str → List D → Option D) : Prop :=
  ∀ f ds d, M f ds = some d → ∃ a o fd, findIn (K w.params) (.ref 52) f = some (some (.ref a)) ∧ (K w.params).lookup a = some o ∧ o.data = .func fd ∧ typeIn (K w.params) (.ref a) = some (.type "function") ∧ CallOk prog w h₀ k a ds d

theorem starEach_cons {e : Expr} (h : noStar e = true) (rest : List Expr) (env : Env) : starEach (e :: rest) env = (false, eval e env) :: starEach rest env := by cases e <;> first | rfl | cases h
theorem base_eq {o : Expr} (h : notSuper o = true) (name : Str) (env : Env) (t : Sem Value) : attributeBase o name env t = t := by
  cases o with
  | Call f a k p =>
    cases f with
    | Name x q =>
      cases a with
      | nil =>
        cases k with
        | nil => exact nomatch h
        | cons _ _ => rfl
      | cons _ _ => rfl
    | _ => rfl
  | _ => rfl
theorem subscripted_false (slice : Expr) (o i : Value) : ∃ vs, subscripted slice false o i = operate vs (getItem o i) := by
  cases slice with
  | Slice _ _ st _ => cases st with
    | none => exact ⟨_, rfl⟩
    | some _ => exact ⟨_, rfl⟩
  | _ => exact ⟨_, rfl⟩

section
variable {prog : Program} {w : World} {A : Around} {s : Shared} {W : List Addr} {sc : List (Str × NameKind)} {env : Env} {m : List (Str × D)} {h₀ : Heap}

noncomputable def ES (prog : Program) (w : World) (A : Around) (W : List Addr) (sc : List (Str × NameKind)) (env : Env) (m : List (Str × D)) (h₀ : Heap) (ev : Expr → Option D) : Prop :=
  ∀ {e d}, ev e = some d → ∀ {s Q E}, FR W sc env s.heap m → Tp h₀ s.heap → Then W s d Q → wpAny (model prog w) A (eval e env) Q E s

theorem items_ok {ev : Expr → Option D} (H : ES prog w A W sc env m h₀ ev) {pos : Pos} : ∀ {es : List Expr} {ds : List D} {s : Shared} {Q : List Value → Shared → Prop} {E : Value → Shared → Prop}, es.all noStar = true → pevs ev es = some ds → FR W sc env s.heap m → Tp h₀ s.heap →
    (∀ vs s', Keeps s s' → Reps W s'.heap ds vs → Q vs s') → wpAny (model prog w) A (spliced (backTo pos (starEach es env))) Q E s
  | [], ds, s, Q, E, _, h, _, _, hq => by
    simp only [pevs] at h; cases h
    exact wpAny_items_nil (hq [] s (Keeps.rfl' s) Reps.nil)
  | e :: r, ds, s, Q, E, hs, h, F, T, hq => by
    rw [List.all_cons, Bool.and_eq_true] at hs
    simp only [pevs] at h
    split at h
    · rename_i d ds' h1 h2
      cases h
      refine wpAny_items_cons (H h1 F T fun v s' k1 r1 => ?_) (starEach_cons hs.1 _ _)
      refine items_ok H hs.2 h2 (F.keep (kall k1)) (T.keep (kall k1)) fun vs s'' k2 r2 => hq _ _ (ktr k1 k2) (Reps.cons (r1.mono (KX.of (kall k2))) r2)
    · cases h

theorem any_star {pos : Pos} : ∀ {es : List Expr}, es.all noStar = true → (backTo pos (starEach es env)).any (·.1) = false
  | [], _ => rfl
  | e :: r, h => by
    rw [List.all_cons, Bool.and_eq_true] at h
    rw [starEach_cons h.1]
    have : (backTo pos ((false, eval e env) :: starEach r env)) = (false, eval e env) :: backTo pos (starEach r env) := rfl
    rw [this, List.any_cons, any_star h.2]; rfl

theorem evalArgs_ok {ev : Expr → Option D} (H : ES prog w A W sc env m h₀ ev) {pos : Pos} {f : Value} {es : List Expr} {ds : List D} {Q : Args → Shared → Prop} {E : Value → Shared → Prop} (hs : es.all noStar = true) (h : pevs ev es = some ds) (F : FR W sc env s.heap m) (T : Tp h₀ s.heap)
    (hq : ∀ vs s', Keeps s s' → Reps W s'.heap ds vs → Q ⟨vs, []⟩ s') : wpAny (model prog w) A (evalArgs f true (backTo pos (starEach es env)) []) Q E s := by
  have sp := items_ok (pos := pos) (Q := fun vs s' => Q ⟨vs, []⟩ s') (E := E) H hs h F T hq
  cases es with
  | nil =>
    unfold evalArgs
    show wpAny _ A (spliced (backTo pos (starEach [] env)) >>= _) Q E s
    refine wpAny_bind (wpAny_mono sp (fun vs s' h' => ?_) fun _ _ x => x)
    refine wpAny_holding ?_
    exact wpAny_bind (wpAny_pure (wpAny_bind (wpAny_pure (wpAny_pure h'))))
  | cons e r =>
    rw [List.all_cons, Bool.and_eq_true] at hs
    rw [starEach_cons hs.1] at sp ⊢
    exact evalArgs_plain sp

theorem glob_val {v : Value} {f : Str} {p : Pos} {Q E : Value → Shared → Prop} (B : Base w.params h₀) (F : FR W sc env s.heap m) (T : Tp h₀ s.heap) (hf : sc.lookup f = some .globalImplicit) (hd : f ≠ "__debug__") (hn : nsIn (K w.params) mainGlobals f = some (some v)) (hq : Q v s) :
    wpAny (model prog w) A (eval (.Name f p) env) Q E s := by
  obtain ⟨mg, hg⟩ := B.g
  have hk : env.kindOf f = some .globalImplicit := by
    rcases F.kinds f with q | q
    · rw [q, hf]
    · rw [hf] at q; exact nomatch q.1
  refine Name_function_global F.kind hk (loadGlobal_global (mg := mg) ?_ (mg_of B.k hg hn) hq) (by simpa using hd)
  rw [F.globs]
  exact Base.ns T hg (by decide) (by decide)
theorem glob_blt {v : Value} {f : Str} {p : Pos} {Q E : Value → Shared → Prop} (B : Base w.params h₀) (F : FR W sc env s.heap m) (T : Tp h₀ s.heap) (hf : sc.lookup f = some .globalImplicit) (hd : f ≠ "__debug__") (hnn : f ≠ "__name__") (hn : nsIn (K w.params) mainGlobals f = some none) (hb : bootBuiltins f = some v) (hq : Q v s) :
    wpAny (model prog w) A (eval (.Name f p) env) Q E s := by
  obtain ⟨mg, hg⟩ := B.g
  obtain ⟨mb, hmb, hbt⟩ := B.b
  have hk : env.kindOf f = some .globalImplicit := by
    rcases F.kinds f with q | q
    · rw [q, hf]
    · rw [hf] at q; exact nomatch q.1
  refine Name_function_global F.kind hk (loadGlobal_builtin (mg := mg) (mb := mb) ?_ (mg_none_of B.k hg hn) ?_ ((hbt f hnn).trans hb) hq) (by simpa using hd)
  · rw [F.globs]; exact Base.ns T hg (by decide) (by decide)
  · rw [F.blts]; exact Base.ns T hmb (by decide) (by decide)

/-- f(..) for a def of the text -/
theorem call_fn {ev : Expr → Option D} (H : ES prog w A W sc env m h₀ ev) {k : Nat} {F : Str → List D → Option D} (B : Base w.params h₀) (R : Room A k) (FO : FnOk prog w h₀ k F) (Fr : FR W sc env s.heap m) (T : Tp h₀ s.heap)
    {f : Str} {p pos : Pos} {args : List Expr} {ds : List D} {d : D} {Q E : Value → Shared → Prop} (hf : sc.lookup f = some .globalImplicit) (hd : f ≠ "__debug__") (hs : args.all noStar = true) (ha : pevs ev args = some ds) (hF : F f ds = some d) (hq : Then W s d Q) :
    wpAny (model prog w) A (eval (.Call (.Name f p) args [] pos) env) Q E s := by
  obtain ⟨a, o, fd, hn, hl, hdat, hc⟩ := FO f ds d hF
  rw [arm_eval_Call_Name']
  refine wpAny_bind (glob_val B Fr T hf hd hn ?_)
  refine callWith_function (o := o) (fd := fd) (evalArgs_ok H hs ha Fr T fun vs s' k1 r1 => ⟨⟨B.kin (T.keep (kall k1)) a o hl, hdat⟩, ?_⟩)
  exact hc A W s' _ _ _ R (T.keep (kall k1)) (Live.keep Fr.live (kall k1)) (by simpa using r1) fun v s'' k2 r2 => hq v s'' (ktr k1 k2) r2

theorem sub_rule {value slice : Expr} {pos : Pos} {Q E : Value → Shared → Prop}
    (h : wpAny (model prog w) A (eval value env) (fun o s₁ => wpAny (model prog w) A (eval slice env) (fun i s₂ => ∃ T id, typeLookup (.type T) "__getitem__" = pure (some (.builtin id)) ∧ s₂.TypeIs o T ∧ wpAny (model prog w) A (getItem o i) Q E s₂) E s₁) E s) :
    wpAny (model prog w) A (eval (.Subscript value slice pos) env) Q E s := by
  rw [eval_Subscript]
  refine wpAny_bind (wpAny_mono h (fun o s₁ h₁ => wpAny_bind (wpAny_holding (wpAny_mono h₁ (fun i s₂ h₂ => wpAny_bind (wpAny_standAt ?_)) fun _ _ x => x))) fun _ _ x => x)
  obtain ⟨T, id, hl, hT, hg⟩ := h₂
  refine wpAny_bind ?_
  rw [getitemInPython_of_ne hT.not_modules]
  refine wpAny_bind (wpAny_specialOf hT hl ?_)
  have fin : ∀ vs, wpAny (model prog w) A (operate vs (getItem o i)) (fun r s₃ => wpAny (model prog w) A (letTemporaryGo value o r >>= fun _ => pure r) Q E s₃) E s₂ := fun vs =>
    wpAny_operating (wpAny_mono hg (fun r s₃ h₃ => wpAny_bind (wpAny_letTemporaryGo (wpAny_pure h₃))) fun _ _ x => x)
  refine wpAny_pure (wpAny_bind ?_)
  obtain ⟨vs, e⟩ := subscripted_false slice o i
  rw [e]
  exact fin _

theorem gi_list : typeLookup (.type "list") "__getitem__" = pure (some (.builtin "list.__getitem__")) := list_getitem_lookup
theorem idx_ok {a b d : D} {va vb : Value} {Q E : Value → Shared → Prop} (e : pidx a b = some d) (ha : Rep W s.heap a va) (hb : Rep W s.heap b vb) (hq : Then W s d Q) :
    ∃ T id, typeLookup (.type T) "__getitem__" = pure (some (.builtin id)) ∧ s.TypeIs va T ∧ wpAny (model prog w) A (getItem va vb) Q E s := by
  obtain ⟨i, hi, e1⟩ := obnd e
  cases D.gI_eq hi
  simp only [Rep] at hb
  obtain ⟨_, rfl⟩ := hb
  have hb2 : bound < 2 ^ 62 := by decide
  cases a with
  | lst ds =>
    obtain ⟨⟨hb1, hr1, hr2⟩, e2⟩ := ite1 e1
    simp only [Rep] at ha
    obtain ⟨l, its, rfl, _, hl, hrs⟩ := ha
    obtain ⟨v, hv, rv⟩ := hrs.get e2
    have len := hrs.length
    rw [Array.length_toList] at len
    rw [Array.getElem?_toList] at hv
    refine ⟨"list", _, gi_list, hl.typeIs, ?_⟩
    by_cases hi : i < 0
    · rw [if_pos hi] at hv
      exact wpAny_getItem_list_neg hl hi (by omega) (by omega) (by rw [len]; exact hv) (hq _ _ (Keeps.rfl' s) rv)
    · rw [if_neg hi] at hv
      exact wpAny_getItem_list hl (by omega) (by omega) hv (hq _ _ (Keeps.rfl' s) rv)
  | tup ds =>
    obtain ⟨⟨hb1, hr1, hr2⟩, e2⟩ := ite1 e1
    simp only [Rep] at ha
    obtain ⟨l, its, rfl, _, hl, hrs⟩ := ha
    obtain ⟨v, hv, rv⟩ := hrs.get e2
    have len := hrs.length
    rw [Array.length_toList] at len
    rw [Array.getElem?_toList] at hv
    refine ⟨"tuple", _, PySem.F.slot_tuple_getitem.lookup, (let ⟨o, ho, hc, _⟩ := hl; ⟨o, ho, hc⟩), ?_⟩
    refine PyProof.Rows.getItem_tuple hl (by omega) (by omega) (j := i.toNat) ?_ hv (hq _ _ (Keeps.rfl' s) rv)
    unfold seqIndex?
    have h1 : ¬ i < 0 := by omega
    have h2 : (decide (0 ≤ i) && decide (i < (its.size : Int))) = true := by simp; omega
    simp only [h1, if_false]
    rw [if_pos h2]
  | str x =>
    obtain ⟨⟨hb1, hr1, hr2⟩, e2⟩ := ite1 e1
    simp only [Rep] at ha
    obtain ⟨_, rfl⟩ := ha
    obtain ⟨c, hc, e3⟩ := omap e2
    cases e3
    refine ⟨"str", _, PySem.F.slot_str_getitem.lookup, typeIs_str s x _, ?_⟩
    refine PyProof.Rows.getItem_str (c := c) (by simp; omega) ?_ (hq _ _ (Keeps.tok ..) rep_str)
    unfold seqIndex?
    have h1 : ¬ i < 0 := by omega
    have h2 : (decide (0 ≤ i) && decide (i < (x.length : Int))) = true := by simp; omega
    simp only [h1, if_false]
    rw [if_pos h2]
    simpa using hc
  | _ => exact no e1
end
end Mine
end

-- EvOk2
section
open PySem PySem.W PyProof.Rows PySem.Calls PySem.SeqAt
set_option maxRecDepth 100000
namespace Mine

theorem lookIn_ns {h : Heap} {dx : Addr} {mA : Str → Option Value} {o : Obj} (hn : h.Ns dx mA) (ho : h.get? dx = some o) (name : Str) : lookIn name o = some (mA name) := by
  obtain ⟨o', es, ep, ho', hd, hk, hf⟩ := hn
  rw [ho] at ho'; cases ho'
  unfold lookIn
  rw [hd]
  dsimp only
  rw [← hf]
  unfold nsFind findBy
  rw [← Array.find?_toList]
  cases q : es.toList.find? (fun e => e.key.isStr name) with
  | some e => rfl
  | none =>
    dsimp only
    rw [if_neg]
    · rfl
    · intro hany
      obtain ⟨e, he, hr⟩ := List.any_eq_true.mp hany
      obtain ⟨n, t, hk'⟩ := hk e (by simpa using he)
      unfold DictEntry.refKey at hr
      rw [hk'] at hr
      cases hr

theorem hga (P : Params) : findIn (K P) (.ref 52) "__getattribute__" = some (some (.builtin "object.__getattribute__")) := by kernel_rfl
theorem hgk (P : Params) : findIn (K P) (.ref 52) "__getattr__" = some none := by kernel_rfl
theorem hgs (P : Params) : findIn (K P) (.ref 52) "__setattr__" = some (some (.builtin "object.__setattr__")) := by kernel_rfl
theorem hover (P : Params) : plainOver (K P) 52 = true := by kernel_rfl
theorem hdct (P : Params) : (clsIn (K P) 52).any (·.hasDict) = true := by kernel_rfl

theorem find_of {P : Params} {od : Obj} {name : Str} {v : Value} (hn : name ∈ (["useragents", "rulelines", "delay", "req_rate", "allowance"] : List Str)) (h : lookIn name od = some (some v)) : findObj (K P) 52 (some od) name = some (.value v) := by
  simp only [List.mem_cons, List.not_mem_nil, or_false] at hn
  have un : ∀ o, ownOf { name := "Entry", bases := [.type "object"], mro := [.ref 52, .type "object"], ns := 51, qualname := "Entry" } (some o) name = lookIn name o := fun _ => rfl
  rcases hn with rfl | rfl | rfl | rfl | rfl
  all_goals
    unfold findObj
    have c : clsIn (K P) 52 = some { name := "Entry", bases := [.type "object"], mro := [.ref 52, .type "object"], ns := 51, qualname := "Entry" } := by kernel_rfl
    rw [c, Option.bind_some]
  · rw [show findIn (K P) (.ref 52) "useragents" = some none by kernel_rfl]; simp only [Option.bind_some]; rw [un, h]; rfl
  · rw [show findIn (K P) (.ref 52) "rulelines" = some none by kernel_rfl]; simp only [Option.bind_some]; rw [un, h]; rfl
  · rw [show findIn (K P) (.ref 52) "delay" = some none by kernel_rfl]; simp only [Option.bind_some]; rw [un, h]; rfl
  · rw [show findIn (K P) (.ref 52) "req_rate" = some none by kernel_rfl]; simp only [Option.bind_some]; rw [un, h]; rfl
  · rw [show findIn (K P) (.ref 52) "allowance" = some (some (.ref 49)) by kernel_rfl]
    simp only [Option.bind_some]
    rw [show specialIn (K P) (.ref 49) "__get__" = some (some (.builtin "function.__get__")) by kernel_rfl]
    simp only [Option.bind_some]
    rw [show takesIn (K P) (.ref 49) = some false by kernel_rfl]
    simp only [Option.bind_some]
    rw [un, h]; rfl

section
variable {prog : Program} {w : World} {A : Around} {s : Shared} {W : List Addr} {sc : List (Str × NameKind)} {env : Env} {m : List (Str × D)} {h₀ : Heap}

theorem Reps.zip_lookup {h : Heap} {name : Str} {d : D} : ∀ {ns : List Str} {ds : List D} {us : List Value}, Reps W h ds us → (ns.zip ds).lookup name = some d → ∃ u, (ns.zip us).lookup name = some u ∧ Rep W h d u
  | [], _, _, _, e => by simp at e
  | _ :: _, [], _, _, e => by simp at e
  | n :: ns, d' :: ds, _, r, e => by
    simp only [Reps] at r
    obtain ⟨v, t, rfl, h1, h2⟩ := r
    rw [List.zip_cons_cons] at e ⊢
    by_cases q : name = n
    · subst q
      rw [lookup_cons_self] at e ⊢
      cases e; exact ⟨v, rfl, h1⟩
    · rw [lookup_cons_ne q] at e ⊢
      exact Reps.zip_lookup h2 e
theorem zip_none {α : Type} {name : Str} : ∀ {ns : List Str} {us : List α}, ns.contains name = false → (ns.zip us).lookup name = none
  | [], _, _ => by simp
  | _ :: _, [], _ => by simp
  | n :: ns, u :: us, h => by
    rw [List.contains_cons, Bool.or_eq_false_iff] at h
    rw [List.zip_cons_cons, lookup_cons_ne (by simpa using h.1)]
    exact zip_none h.2

theorem rep_handed {h : Heap} {d : D} {v : Value} (hr : Rep W h d v) (hn : d.isRaw = false) : handedIn v = true := by
  cases d <;> simp only [Rep] at hr
  · subst hr; rfl
  · subst hr; rfl
  · obtain ⟨_, rfl⟩ := hr; rfl
  · obtain ⟨_, rfl⟩ := hr; rfl
  · obtain ⟨_, _, rfl, _⟩ := hr; rfl
  · obtain ⟨_, _, rfl, _⟩ := hr; rfl
  · obtain ⟨rfl, _⟩ := hr; rfl
  · simp [D.isRaw] at hn

/-- an Entry of the text's own, as the library speaks of it -/
theorem ent_inst {h : Heap} {a : Addr} {ns : List Str} {ds : List D} {v : Value} (r : Rep W h (.ent a ns ds) v) : v = .ref a ∧ a ∉ W ∧ ∃ ox od dx us, InstAt h a ox 52 (some od) ∧ ox.dict = some dx ∧ dx ≠ a ∧ dx ∉ W ∧ h.get? dx = some od ∧ h.Ns1 dx (fun x => (ns.zip us).lookup x) ∧ Reps W h ds us := by
  simp only [Rep] at r
  obtain ⟨hv, ha, o, dx, us, ho, h1, h2, h3, h4, h5, h6, h7⟩ := r
  obtain ⟨od, es, ep, e, r⟩ := id h6
  refine ⟨hv, ha, o, od, dx, us, ⟨ho, h1, ?_, by rw [h3]; exact e⟩, h3, h4, h5, e, h6, h7⟩
  unfold notCls
  split
  · rename_i c q; exact absurd q (h2 c)
  · rfl

theorem attr_ok {a d : D} {va : Value} {name : Str} {Q E : Value → Shared → Prop} (B : Base w.params h₀) (T : Tp h₀ s.heap) (e : pattr a name = some d) (ha : Rep W s.heap a va) (hq : Then W s d Q) :
    wpAny (model prog w) A (getAttr va name true) Q E s := by
  unfold pattr at e
  split at e
  · split at e
    · rename_i hn
      split at e
      · rename_i d' hlk
        split at e
        · cases e
        rename_i hraw
        cases e
        rw [Bool.not_eq_true] at hraw
        obtain ⟨rfl, hW, ox, od, dx, us, I, hdx, hne, hdW, ho, hns, hrs⟩ := ent_inst ha
        obtain ⟨u, hu, ru⟩ := hrs.zip_lookup hlk
        have hl := lookIn_ns hns.ns ho name
        rw [hu] at hl
        exact get_value (B.kin T) I (hga _) (find_of hn hl) (rep_handed ru hraw) (hq _ _ (Keeps.tok ..) ru)
      · cases e
    · cases e
  · cases e

theorem Attribute_ok {o : Expr} {name : Str} {pos : Pos} {Q E : Value → Shared → Prop} (ho : notSuper o = true)
    (h : wpAny (model prog w) A (eval o env) (fun v s₁ => wpAny (model prog w) A (getAttr v name true) Q E s₁) E s) : wpAny (model prog w) A (eval (.Attribute o name pos) env) Q E s := by
  rw [arm_eval_Attribute, base_eq ho]
  exact wpAny_bind (wpAny_mono h (fun v s₁ h₁ => wpAny_bind (wpAny_standAt (wpAny_bind (wpAny_holding (wpAny_mono h₁ (fun r s₂ h₂ => wpAny_bind (wpAny_letTemporaryGo (wpAny_pure h₂))) fun _ _ x => x))))) fun _ _ x => x)

/-- o.name(args): the callee is sought first -/
theorem meth_rule {o : Expr} {name : Str} {apos pos : Pos} {args : List Expr} {Q E : Value → Shared → Prop} (ho : notSuper o = true) (hs : args.all noStar = true) (hn : args.length < 30) (hp : (apos.endLine == pos.line) = true)
    (h : wpAny (model prog w) A (eval o env) (fun ov s₁ => ∀ pl, wpAny (model prog w) A (getMethod ov name pl) (fun c s₂ => wpAny (model prog w) A (callWith pos c.1 c.2 (backTo pos (starEach args env)) []) Q E s₂) E s₁) E s) :
    wpAny (model prog w) A (eval (.Call (.Attribute o name apos) args [] pos) env) Q E s := by
  have hall : ∀ {es : List Expr}, es.all noStar = true → (backTo pos (starEach es env)).all (fun x => !x.1) = true := by
    intro es
    induction es with
    | nil => intro _; rfl
    | cons e r ih =>
      intro h
      rw [List.all_cons, Bool.and_eq_true] at h
      rw [starEach_cons h.1]
      show (((false, eval e env) :: backTo pos (starEach r env)).all fun x => !x.1) = true
      rw [List.all_cons, ih h.2]; rfl
  have few : methodCallForm (args.length + ([] : List Keyword).length) (backTo pos (starEach args env)) (backToKw pos (keywordEach [] env)) = true := by
    unfold methodCallForm
    rw [hall hs]
    show (true && true && decide (args.length + 0 + 0 < 30)) = true
    simp [hn]
  rw [arm_eval_Call, base_eq ho]
  refine wpAny_bind (wpAny_mono h (fun ov s₁ h₁ => wpAny_bind (wpAny_standAt ?_)) fun _ _ x => x)
  unfold methodCall
  rw [few]
  refine wpAny_bind (wpAny_holding ?_)
  unfold calleeOf
  rw [if_pos rfl]
  refine wpAny_mono (h₁ _) (fun c s₂ h₂ => ?_) fun _ _ x => x
  obtain ⟨f, first⟩ := c
  refine wpAny_bind ?_
  unfold methodCallPos
  rw [hp]
  exact wpAny_pure h₂
end
end Mine
end

-- EvOk3
section
open PySem PySem.W PyProof.Rows PySem.Calls PySem.SeqAt
set_option maxRecDepth 100000
namespace Mine
section
variable {prog : Program} {w : World} {A : Around} {s : Shared} {W : List Addr} {sc : List (Str × NameKind)} {env : Env} {m : List (Str × D)} {h₀ : Heap}

theorem Reps.pick {h : Heap} {ds : List D} {its : Array Value} (r : Reps W h ds its.toList) : ∀ (idx : List Nat), Reps W h (idx.filterMap (ds[·]?)) (idx.filterMap (its[·]?))
  | [] => by simpa using Reps.nil
  | i :: idx => by
    rw [List.filterMap_cons, List.filterMap_cons]
    cases hd : ds[i]? with
    | some d =>
      obtain ⟨v, hv, rv⟩ := r.get hd
      rw [Array.getElem?_toList] at hv
      rw [hv]
      exact Reps.cons rv (Reps.pick r idx)
    | none =>
      have : its[i]? = none := by
        cases hv : its[i]? with
        | none => rfl
        | some v =>
          rw [← Array.getElem?_toList] at hv
          obtain ⟨d, h1, _⟩ := r.getV hv
          rw [hd] at h1; cases h1
      rw [this]
      exact Reps.pick r idx

theorem part_ok {ev : Expr → Option D} (H : ES prog w A W sc env m h₀ ev) {x : Option Expr} {i : Option Int} {Q E : Value → Shared → Prop} (e : ppart ev x = some i) (F : FR W sc env s.heap m) (T : Tp h₀ s.heap)
    (hq : ∀ v s', Keeps s s' → IsPart v i → Q v s') : wpAny (model prog w) A (valueOrNone (evalOpt x env)) Q E s := by
  cases x with
  | none => cases (show some none = some i from e); exact wpAny_pure (hq _ _ (Keeps.rfl' s) .none)
  | some x =>
    obtain ⟨i', he, e1⟩ := bdI (show ((ev x).bind D.gI).bind (fun i => some (some i)) = some i from e)
    cases e1
    refine H he F T fun v s' k r => hq v s' k ?_
    simp only [Rep] at r
    obtain ⟨t, rfl⟩ := r
    exact .int _ _

theorem slice_ok {ev : Expr → Option D} (H : ES prog w A W sc env m h₀ ev) {v : Expr} {lo hi st : Option Expr} {p pos : Pos} {a d : D} {Q E : Value → Shared → Prop} (hv : ev v = some a) (e : pslice ev a lo hi st = some d) (F : FR W sc env s.heap m) (T : Tp h₀ s.heap) (hq : Then W s d Q) :
    wpAny (model prog w) A (eval (.Subscript v (.Slice lo hi st p) pos) env) Q E s := by
  obtain ⟨ds, h0, q0⟩ := obnd e
  obtain ⟨l, e1, q1⟩ := obnd q0
  obtain ⟨h, e2, q2⟩ := obnd q1
  obtain ⟨t, e3, q3⟩ := obnd q2
  obtain ⟨hb, q4⟩ := ite1 q3
  cases q4
  cases D.gL_eq h0
  refine sub_rule (H hv F T fun vo s₁ k1 r1 => ?_)
  rw [arm_eval_Slice]
  have F₁ := F.keep (kall k1)
  have T₁ := T.keep (kall k1)
  refine wpAny_bind (part_ok H e1 F₁ T₁ fun vl s₂ k2 p2 => wpAny_bind (wpAny_holding (part_ok H e2 (F₁.keep (kall k2)) (T₁.keep (kall k2)) fun vu s₃ k3 p3 => wpAny_bind (wpAny_holding
    (part_ok H e3 ((F₁.keep (kall k2)).keep (kall k3)) ((T₁.keep (kall k2)).keep (kall k3)) fun vs s₄ k4 p4 => ?_)))))
  refine wpAny_newObj_type ?_
  have k14 := ktr k2 (ktr k3 k4)
  have r4 : Rep W s₄.heap (.lst ds) vo := r1.mono (KX.of (kall k14))
  have F₄ := F₁.keep (kall k14)
  simp only [Rep] at r4
  obtain ⟨la, its, rfl, _, hl, hrs⟩ := r4
  have len := hrs.length
  rw [Array.length_toList] at len
  have hl' : (s₄.heap.push { cls := .type "slice", data := .fields #[vl, vu, vs] }).IsList la its := hl.push _
  refine ⟨"list", _, gi_list, Heap.IsList.typeIs (s := { s₄ with heap := s₄.heap.push { cls := .type "slice", data := .fields #[vl, vu, vs] } }) hl', ?_⟩
  refine wpAny_getItem_list_slice (s := { s₄ with heap := s₄.heap.push { cls := .type "slice", data := .fields #[vl, vu, vs] } }) hl' (Heap.IsSliceOf.new _ _ _ _) p2 p3 p4 hb.2 ?_ (by rw [len]; exact Nat.le_trans hb.1 bound_le)
  refine hq _ _ ?_ ?_
  · exact ktr k1 (ktr k14 (ktr (Keeps.push' s₄ _) (Keeps.push' _ _)))
  · have hrs' : Reps W (s₄.heap.push { cls := .type "slice", data := .fields #[vl, vu, vs] }) ds its.toList := hrs.mono (KX.of fun b o e => Heap.get?_push_of_some _ e)
    have lv : Live W (s₄.heap.push { cls := .type "slice", data := .fields #[vl, vu, vs] }) := Live.keep F₄.live fun b o e => Heap.get?_push_of_some _ e
    have := rep_newList lv (hrs'.pick (sliceRange (sliceBounds l h t its.size).1 (sliceBounds l h t its.size).2.1 (sliceBounds l h t its.size).2.2))
    unfold ppick
    rw [len] at this
    unfold slicePick
    rw [len]
    exact this

theorem strs_values {h : Heap} : ∀ {ds : List D} {xs : List Str} {vs : List Value}, strsOf ds = some xs → Reps W h ds vs → ∃ l : List (Str × Tok), vs = strValues l ∧ l.map (·.1) = xs
  | [], xs, vs, e, r => by simp only [strsOf] at e; cases e; simp only [Reps] at r; exact ⟨[], by simp [r, strValues], rfl⟩
  | d :: ds, xs, vs, e, r => by
    cases d <;> simp only [strsOf] at e <;> try cases e
    rename_i x
    cases hx : strsOf ds with
    | none => rw [hx] at e; cases e
    | some ys =>
      rw [hx] at e; cases e
      simp only [Reps] at r
      obtain ⟨v, t, rfl, h1, h2⟩ := r
      simp only [Rep] at h1
      obtain ⟨u, rfl⟩ := h1
      obtain ⟨l, e1, e2⟩ := strs_values hx h2
      exact ⟨(x, u) :: l, by simp [strValues, e1], by simp [e2]⟩

theorem short_ok {n : Nat} (h : n ≤ bound) : Builtin.Str.tooLong n = false := by
  unfold Builtin.Str.tooLong
  have : bound ≤ sizeLine := bound_le
  simp only [decide_eq_false_iff_not, gt_iff_lt, Nat.not_lt]
  omega

theorem meth_ok {ev : Expr → Option D} (H : ES prog w A W sc env m h₀ ev) {k : Nat} {M : Str → List D → Option D} (B : Base w.params h₀) (R : Room A k) (MO : MtOk prog w h₀ k M) (F : FR W sc env s.heap m) (T : Tp h₀ s.heap)
    {o : Expr} {name : Str} {apos pos : Pos} {args : List Expr} {b d : D} {ds : List D} {Q E : Value → Shared → Prop} (ho : notSuper o = true) (hs : args.all noStar = true) (hn : args.length < 30) (hp : (apos.endLine == pos.line) = true)
    (e1 : ev o = some b) (e2 : pevs ev args = some ds) (e3 : pmeth M b name ds = some d) (hq : Then W s d Q) :
    wpAny (model prog w) A (eval (.Call (.Attribute o name apos) args [] pos) env) Q E s := by
  refine meth_rule ho hs hn hp (H e1 F T fun ov s₁ k1 r1 pl => ?_)
  have F₁ := F.keep (kall k1)
  have T₁ := T.keep (kall k1)
  cases b with
  | str x =>
    change pStr x name ds = some d at e3
    unfold pStr at e3
    simp only [Rep] at r1
    obtain ⟨t, rfl⟩ := r1
    by_cases hj : name = "join"
    · rw [if_pos hj] at e3
      subst hj
      obtain ⟨a, ha, q1⟩ := obnd e3
      obtain ⟨l, hl, q2⟩ := obnd q1
      obtain ⟨xs, hxs, q3⟩ := obnd q2
      obtain ⟨hok, q4⟩ := ite1 q3
      cases q4
      have e2' : pevs ev args = some [.lst l] := by rw [e2, asOne_eq ha, D.gL_eq hl]
      refine GM.join (callWith_builtin (any_star hs) (evalArgs_ok H hs e2' F₁ T₁ fun vs s₂ k2 r2 => ?_))
      simp only [Reps] at r2
      obtain ⟨v, _, rfl, rv, rfl⟩ := r2
      simp only [Rep] at rv
      obtain ⟨l, its, rfl, _, hl, hrs⟩ := rv
      obtain ⟨l', e1', e2'⟩ := strs_values hxs hrs
      have : its = (strValues l').toArray := by rw [← e1']
      subst this
      exact SC.join hl e2' hok fun t' kk => hq _ _ (ktr k1 (ktr k2 (Keeps.tok ..))) rep_str
    · rw [if_neg hj] at e3
      by_cases hu : name = "upper" ∧ ds.isEmpty = true ∧ (Txt.upper x).length ≤ bound
      · rw [if_pos hu] at e3
        cases e3
        obtain ⟨rfl, hd, hb⟩ := hu
        rw [List.isEmpty_iff.mp hd] at e2
        refine GM.upper (callWith_builtin (any_star hs) (evalArgs_ok H hs e2 F₁ T₁ fun vs s₂ k2 r2 => ?_))
        simp only [Reps] at r2; subst r2
        exact SC.upper (short_ok hb) (hq _ _ (ktr k1 (ktr k2 (Keeps.tok ..))) rep_str)
      · rw [if_neg hu] at e3
        obtain ⟨⟨rfl, hd, hb⟩, q1⟩ := ite1 e3
        cases q1
        rw [List.isEmpty_iff.mp hd] at e2
        refine GM.lower (callWith_builtin (any_star hs) (evalArgs_ok H hs e2 F₁ T₁ fun vs s₂ k2 r2 => ?_))
        simp only [Reps] at r2; subst r2
        exact SC.lower (short_ok hb) (hq _ _ (ktr k1 (ktr k2 (Keeps.tok ..))) rep_str)
  | ent a ns fs =>
    obtain ⟨hc, e4⟩ := ite1 e3
    obtain ⟨f, fo, fd, hf, hlk, hdat, hty, call⟩ := MO _ _ _ e4
    have r1' := r1
    obtain ⟨rfl, hW, ox, od, dx, us, I, hdx, hne, hdW, hod, hns, hrs⟩ := ent_inst r1
    have hl := lookIn_ns hns.ns hod name
    rw [zip_none hc] at hl
    refine method_fn (B.kin T₁) I (hga _) (hgk _) hf hty (by unfold shadowIn; dsimp only; rw [hl]; rfl) ?_
    refine callWith_function (o := fo) (fd := fd) (evalArgs_ok H hs e2 F₁ T₁ fun vs s₂ k2 r2 => ⟨⟨B.kin (T₁.keep (kall k2)) f fo hlk, hdat⟩, ?_⟩)
    exact call A W s₂ _ _ _ R (T₁.keep (kall k2)) (Live.keep F₁.live (kall k2)) (Reps.cons (r1'.mono (KX.of (kall k2))) r2) fun v s₃ k3 r3 => hq v s₃ (ktr k1 (ktr k2 k3)) r3
  | _ => exact no e3
end
end Mine
end

-- EvOk4
section
open PySem PySem.W PyProof.Rows PySem.Calls PySem.SeqAt
set_option maxRecDepth 100000
namespace Mine
section
variable {prog : Program} {w : World} {A : Around} {s : Shared} {W : List Addr} {sc : List (Str × NameKind)} {env : Env} {m : List (Str × D)} {h₀ : Heap}

theorem src_list {s₁ : Shared} {ds : List D} {v : Value} {Q E : Value → Shared → Prop} (hh : A.handled = none) (lv : Live W s.heap) (k1 : Keeps s s₁) (r : Rep W s₁.heap (.lst ds) v) (hq : ∀ it s₂, Src prog w A W s it ds s₂ → Q it s₂) :
    wpAny (model prog w) A (pyIter v) Q E s₁ := by
  have r' := r
  simp only [Rep] at r
  obtain ⟨l, its, rfl, hlW, hl, hrs⟩ := r
  refine wpAny_pyIter_list hl (hq _ _ ?_)
  obtain ⟨h₁, tk, rfl, hk⟩ := k1
  dsimp only at hl hrs hk r' ⊢
  have hI : s.heap.get? h₁.objs.size = none := by
    cases e : s.heap.get? h₁.objs.size with
    | none => rfl
    | some o => exact absurd (Heap.lt_size (hk _ _ e)) (Nat.lt_irrefl _)
  have hI₁ : h₁.get? h₁.objs.size = none := by
    cases e : h₁.get? h₁.objs.size with
    | none => rfl
    | some o => exact absurd (Heap.lt_size e) (Nat.lt_irrefl _)
  have hne : l ≠ h₁.objs.size := by
    rintro rfl
    obtain ⟨o, e, _⟩ := hl
    rw [hI₁] at e; cases e
  have len := hrs.length
  rw [Array.length_toList] at len
  refine ⟨h₁.objs.size, [h₁.objs.size, l], [h₁.objs.size], its.size, _, _, rfl, Walks.list hh _ l hne its, ?_, len.symm, ⟨⟨_, Heap.get?_push_size _ rfl, rfl, rfl⟩, hl.push _⟩, ⟨_, _, rfl, fun b o e => Heap.get?_push_of_some _ (hk b o e)⟩, by simpa using hI, ?_, ?_⟩
  · intro i h st b hb
    simp at hb; subst hb
    obtain ⟨⟨o, e, _⟩, _⟩ := st
    exact ⟨o, e⟩
  · intro b hb
    simp at hb
    rcases hb with rfl | rfl
    · exact ⟨fun q => (by obtain ⟨o, e⟩ := lv _ q; rw [hI] at e; cases e), ⟨_, Heap.get?_push_size _ rfl⟩⟩
    · obtain ⟨o, e, _⟩ := hl
      exact ⟨hlW, ⟨o, Heap.get?_push_of_some _ e⟩⟩
  · intro i v _ hv
    rw [← Array.getElem?_toList] at hv
    obtain ⟨d, hd, rd⟩ := hrs.getV hv
    refine ⟨d, hd, (rd.off (W' := [h₁.objs.size] ++ W) fun b hb => ?_).mono (KX.of fun b o e => Heap.get?_push_of_some _ e)⟩
    simp at hb
    rcases hb with rfl | hb
    · exact .inr hI₁
    · exact .inl hb

theorem src_range {s₁ : Shared} {k : Int} {t : Tok} {Q E : Value → Shared → Prop} (hh : A.handled = none) (lv : Live W s.heap) (k1 : Keeps s s₁) (hb : 0 ≤ k ∧ k ≤ bound) (hq : ∀ it s₂, Src prog w A W s it ((List.range k.toNat).map fun (i : Nat) => .int (i : Int)) s₂ → Q it s₂) :
    wpAny (model prog w) A (call (.type "range") [.int k t]) (fun xv s₁ => wpAny (model prog w) A (pyIter xv) Q E s₁) E s₁ := by
  refine call_range_1 ?_
  have small : Builtin.Range.small 0 k 1 = true := by
    have : bound < 2 ^ 61 := by decide
    exact small_one (by decide) (by decide) (by omega) (by omega)
  refine wpAny_pyIter_range (s := { s₁ with heap := s₁.heap.push { cls := .type "range", data := .fields #[.int 0 s₁.toks, .int k t, .int 1 (s₁.toks + 1)] }, toks := s₁.toks + 1 + 1 }) (IsRange.new _ _ _ _ _ _ _) small (hq _ _ ?_)
  obtain ⟨h₁, tk, rfl, hk⟩ := k1
  dsimp only
  generalize hH : h₁.push { cls := .type "range", data := .fields #[.int 0 tk, .int k t, .int 1 (tk + 1)] } = H
  have kH : ∀ b o, s.heap.get? b = some o → H.get? b = some o := fun b o e => hH ▸ Heap.get?_push_of_some _ (hk b o e)
  have hI : s.heap.get? H.objs.size = none := by
    cases e : s.heap.get? H.objs.size with
    | none => rfl
    | some o => exact absurd (Heap.lt_size (kH _ _ e)) (Nat.lt_irrefl _)
  have hsz : Builtin.Range.rangeSize 0 k 1 = (k.toNat : Int) := by
    rw [rangeSize_one]; split <;> omega
  refine ⟨H.objs.size, [H.objs.size], [H.objs.size], k.toNat, _, _, rfl, Walks.range hh _ 0 1 k.toNat, ?_, by simp, ?_, ⟨_, _, rfl, fun b o e => Heap.get?_push_of_some _ (kH b o e)⟩, by simpa using hI, ?_, ?_⟩
  · intro i h st b hb
    simp at hb; subst hb
    exact ⟨_, st⟩
  · show IsRangeIter _ _ _ _ _
    unfold IsRangeIter
    rw [Heap.get?_push_size _ rfl, hsz]
    simp [rawInt]
  · intro b hb
    simp at hb; subst hb
    exact ⟨fun q => (by obtain ⟨o, e⟩ := lv _ q; rw [hI] at e; cases e), ⟨_, Heap.get?_push_size _ rfl⟩⟩
  · rintro i v hi ⟨t', rfl⟩
    refine ⟨.int (i : Int), by simp [hi], ?_⟩
    simp only [Rep]
    exact ⟨t', by simp⟩

theorem pevs_length {ev : Expr → Option D} : ∀ {es : List Expr} {ds : List D}, pevs ev es = some ds → ds.length = es.length
  | [], ds, h => by simp only [pevs] at h; cases h; rfl
  | e :: r, ds, h => by
    simp only [pevs] at h
    split at h
    · rename_i d ds' h1 h2
      cases h
      simp [pevs_length h2]
    · cases h

theorem pcomp_spec {t : D → Option Bool} {f : D → Option D} : ∀ {ds ys : List D}, pcomp t f ds = some ys → (∀ d ∈ ds, ∃ b, t d = some b ∧ (b = true → ∃ y, f d = some y)) ∧
    ∀ zs, Paired (fun d d' => f d = some d') (ds.filter fun d => (t d).getD false) zs → zs = ys
  | [], ys, e => by
    simp only [pcomp] at e; cases e
    refine ⟨fun d hd => (nomatch hd), fun zs h => ?_⟩
    simp at h; cases h; rfl
  | d :: r, ys, e => by
    simp only [pcomp] at e
    split at e
    · cases e
    · rename_i ht
      obtain ⟨i1, i2⟩ := pcomp_spec e
      refine ⟨fun x hx => ?_, fun zs h => i2 zs ?_⟩
      · rcases List.mem_cons.mp hx with rfl | hx
        · exact ⟨false, ht, fun q => by cases q⟩
        · exact i1 x hx
      · rw [List.filter_cons, if_neg (by rw [ht]; simp)] at h; exact h
    · rename_i ht
      split at e
      · rename_i y ys' hy hys
        cases e
        obtain ⟨i1, i2⟩ := pcomp_spec hys
        refine ⟨fun x hx => ?_, fun zs h => ?_⟩
        · rcases List.mem_cons.mp hx with rfl | hx
          · exact ⟨true, ht, fun _ => ⟨y, hy⟩⟩
          · exact i1 x hx
        · rw [List.filter_cons, if_pos (by rw [ht]; rfl)] at h
          cases h with
          | cons h1 h2 =>
            rw [hy] at h1; cases h1
            rw [i2 _ h2]
      · cases e

theorem src_ok {ev : Expr → Option D} (H : ES prog w A W sc env m h₀ ev) {iter : Expr} {ds : List D} {Q E : Value → Shared → Prop} (B : Base w.params h₀) (hh : A.handled = none) (F : FR W sc env s.heap m) (T : Tp h₀ s.heap) (e : psrc ev sc iter = some ds)
    (hq : ∀ it s₂, Src prog w A W s it ds s₂ → Q it s₂) : wpAny (model prog w) A (eval iter env) (fun xv s₁ => wpAny (model prog w) A (pyIter xv) Q E s₁) E s := by
  have gen : ∀ {ds}, ev iter = some (.lst ds) → (∀ it s₂, Src prog w A W s it ds s₂ → Q it s₂) → wpAny (model prog w) A (eval iter env) (fun xv s₁ => wpAny (model prog w) A (pyIter xv) Q E s₁) E s :=
    fun he hq => H he F T fun v s₁ k1 r1 => src_list hh F.live k1 r1 hq
  unfold psrc at e
  by_cases hr : (asRange iter).isSome = true
  · rw [if_pos hr] at e
    obtain ⟨c, h1, q1⟩ := obnd e
    obtain ⟨hc, q2⟩ := ite1 q1
    obtain ⟨k, hk, q3⟩ := bdI q2
    obtain ⟨hb, q4⟩ := ite1 q3
    cases q4
    obtain ⟨p, he⟩ := asRange_eq h1
    rw [he, arm_eval_Call_Name']
    refine wpAny_bind (glob_blt B F T hc.1 (by decide) (by decide) (by kernel_rfl) boot_range ?_)
    show wpAny _ A (callWith c.2.2 (.type "range") [] (backTo c.2.2 (starEach [c.1] env)) []) _ E s
    rw [starEach_cons hc.2]
    refine _root_.PySem.callWith_type1 (H hk F T fun v s₁ k1 r1 => ?_)
    simp only [Rep] at r1
    obtain ⟨t, rfl⟩ := r1
    exact src_range hh F.live k1 hb hq
  · rw [if_neg hr] at e
    obtain ⟨v, h1, h2⟩ := obnd e
    cases D.gL_eq h2
    exact gen h1 hq
end
end Mine
end

-- EvSound
section
open PySem PySem.W PyProof.Rows PySem.Calls PySem.SeqAt
set_option maxRecDepth 100000
namespace Mine
section
variable {prog : Program} {w : World} {h₀ : Heap} {k : Nat} {F M : Str → List D → Option D}

noncomputable def EvS (prog : Program) (w : World) (h₀ : Heap) (k : Nat) (F M : Str → List D → Option D) (n : Nat) : Prop :=
  ∀ {A W sc env m}, Room A k → ES prog w A W sc env m h₀ (pev F M n sc m)
noncomputable def TE (prog : Program) (w : World) (A : Around) (W : List Addr) (sc : List (Str × NameKind)) (env : Env) (m : List (Str × D)) (h₀ : Heap) (ts : Expr → Option Bool) : Prop :=
  ∀ {e b}, ts e = some b → ∀ {s : Shared} {Q : Bool → Shared → Prop} {E}, FR W sc env s.heap m → Tp h₀ s.heap → (∀ s', Keeps s s' → Q b s') → wpAny (model prog w) A (isTrue e env (eval e env)) Q E s
noncomputable def TsS (prog : Program) (w : World) (h₀ : Heap) (k : Nat) (F M : Str → List D → Option D) (n : Nat) : Prop :=
  ∀ {A W sc env m}, Room A k → TE prog w A W sc env m h₀ (ptest F M n sc m)

theorem Room.cmp {A : Around} {k : Nat} (R : Room A k) : A.units + 8 < cLine := by have := R.un; omega

theorem tests_ok {n : Nat} (TS : TsS prog w h₀ k F M n) {A : Around} {W sc env m} (R : Room A k) {ifs : List Expr} {b : Bool} (e : ptests (ptest F M n sc m) ifs = some b) {s : Shared} {Q : Bool → Shared → Prop} {E : Value → Shared → Prop} (Fr : FR W sc env s.heap m) (T : Tp h₀ s.heap)
    (hq : ∀ s', Keeps s s' → Q b s') : wpAny (model prog w) A (testsOf ifs env) Q E s := by
  cases ifs with
  | nil => simp only [ptests] at e; cases e; exact wpAny_tests_nil (hq s (Keeps.rfl' s))
  | cons c r =>
    cases r with
    | nil => simp only [ptests] at e; exact wpAny_tests_one (TS R e Fr T hq)
    | cons _ _ => simp only [ptests] at e; cases e

theorem comp_pure {n : Nat} (ES' : EvS prog w h₀ k F M n) (TS : TsS prog w h₀ k F M n) (B : Base w.params h₀) {A : Around} {W sc env m} (R : Room A k) {s : Shared} {elt iter : Expr} {x : Str} {px : Pos} {ifs : List Expr} {scope : Scope} {pos : Pos} {ds ys : List D} {Q E : Value → Shared → Prop}
    (Fr : FR W sc env s.heap m) (T : Tp h₀ s.heap) (hb : blockOk sc scope = true) (hx : scope.names.lookup x = some .local ∨ scope.names.lookup x = some .cell) (hset : notSet iter = true)
    (hsrc : psrc (pev F M n sc m) sc iter = some ds) (hsz : ds.length ≤ bound)
    (hc : pcomp (fun d => ptests (ptest F M n scope.names ((x, d) :: freeOf scope m)) ifs) (fun d => pev F M n scope.names ((x, d) :: freeOf scope m) elt) ds = some ys) (hq : Then W s (.lst ys) Q) :
    wpAny (model prog w) A (eval (.ListComp elt [⟨.Name x px, iter, ifs, 0⟩] scope pos) env) Q E s := by
  obtain ⟨i1, i2⟩ := pcomp_spec hc
  refine listcomp_ok (ds := ds) (fun d => (ptests (ptest F M n scope.names ((x, d) :: freeOf scope m)) ifs).getD false) (fun d d' => pev F M n scope.names ((x, d) :: freeOf scope m) elt = some d') Fr hb hx (Nat.le_trans hsz bound_le) hset
    (fun Q' hq' => src_ok (ES' R) B R.hd Fr T hsrc hq') ?_ ?_ (fun ds' v s' k1 r1 hp => by rw [i2 ds' hp] at r1; exact hq v s' k1 r1)
  · intro W' cenv d hd hW s₃ E' F₃ hs
    obtain ⟨h, tk, rfl, hk⟩ := hs
    obtain ⟨b, hb', _⟩ := i1 d hd
    exact tests_ok TS R hb' F₃ (T.keep hk) fun s' k' => ⟨by rw [hb']; rfl, k'⟩
  · intro W' cenv d hd hp hW s₃ E' F₃ hs
    obtain ⟨h, tk, rfl, hk⟩ := hs
    obtain ⟨b, hb', hy⟩ := i1 d hd
    have : b = true := by rw [hb'] at hp; exact hp
    obtain ⟨y, hy⟩ := hy this
    exact ES' R hy F₃ (T.keep hk) fun v s' k' r' => ⟨k', y, hy, r'⟩

section
variable {A : Around} {W : List Addr} {sc : List (Str × NameKind)} {env : Env} {m : List (Str × D)} {ev : Expr → Option D} {ts : Expr → Option Bool} {s : Shared} {d : D} {b : Bool} {Q E : Value → Shared → Prop} {p : Pos}

theorem ok_const {c : Const} {k : Nat} (h : pconst c = some d) (hq : Then W s d Q) : wpAny (model prog w) A (eval (.Constant c k p) env) Q E s := by
  cases c <;> first | exact no h | cases h
  · exact wpAny_Constant_none (hq _ _ (Keeps.rfl' s) rep_none)
  · exact wpAny_Constant_bool (hq _ _ (Keeps.rfl' s) rep_bool)
  · exact wpAny_Constant_int (hq _ _ (Keeps.tok ..) rep_int)
  · exact wpAny_Constant_str (hq _ _ (Keeps.tok ..) rep_str)
theorem ok_name {x : Str} (h : hName m x = some d) (Fr : FR W sc env s.heap m) (hq : Then W s d Q) : wpAny (model prog w) A (eval (.Name x p) env) Q E s := by
  obtain ⟨hn, h1⟩ := ite1 h
  exact wpAny_Name (Fr.load h1 (by simpa using hn.2) fun v r => hq v s (Keeps.rfl' s) r) (by simpa using hn.1)
theorem ok_bin {l r : Expr} {op : Operator} (H : ES prog w A W sc env m h₀ ev) (h : hBin ev l op r = some d) (Fr : FR W sc env s.heap m) (T : Tp h₀ s.heap) (hq : Then W s d Q) : wpAny (model prog w) A (eval (.BinOp l op r p) env) Q E s := by
  obtain ⟨x, y, h1, h2, h3⟩ := bd2 h
  refine wpAny_BinOp (H h1 Fr T fun va s₁ k1 r1 => H h2 (Fr.keep (kall k1)) (T.keep (kall k1)) fun vb s₂ k2 r2 => ?_)
  exact bin_ok (Live.keep Fr.live (kall (ktr k1 k2))) h3 (r1.mono (KX.of (kall k2))) r2 fun v s₃ k3 r3 => hq v s₃ (ktr (ktr k1 k2) k3) r3
theorem hCmp_eq {l : Expr} {ops : List CmpOp} {rs : List Expr} (h : hCmp ev l ops rs = some b) : ∃ op r x y, ops = [op] ∧ rs = [r] ∧ behindInMarks op r = false ∧ ev l = some x ∧ ev r = some y ∧ pcmp op x y = some b := by
  obtain ⟨op, h1, q1⟩ := obnd h
  obtain ⟨r, h2, q2⟩ := obnd q1
  obtain ⟨hm, q3⟩ := ite1 q2
  obtain ⟨x, y, h3, h4, h5⟩ := bd2 q3
  exact ⟨op, r, x, y, asOne_eq h1, asOne_eq h2, hm, h3, h4, h5⟩
theorem ok_cmp {l : Expr} {ops : List CmpOp} {rs : List Expr} (R : A.units + 8 < cLine) (H : ES prog w A W sc env m h₀ ev) (h : (hCmp ev l ops rs).map .bool = some d) (Fr : FR W sc env s.heap m) (T : Tp h₀ s.heap) (hq : Then W s d Q) : wpAny (model prog w) A (eval (.Compare l ops rs p) env) Q E s := by
  obtain ⟨b, hc, rfl⟩ := omap h
  obtain ⟨op, r, x, y, rfl, rfl, hm, h1, h2, h3⟩ := hCmp_eq hc
  refine wpAny_Compare1 (H h1 Fr T fun va s₁ k1 r1 => H h2 (Fr.keep (kall k1)) (T.keep (kall k1)) fun vb s₂ k2 r2 => ?_) hm
  exact cmp_ok R h3 (r1.mono (KX.of (kall k2))) r2 (hq _ _ (ktr k1 k2) rep_bool)
theorem ok_tcmp {l : Expr} {ops : List CmpOp} {rs : List Expr} {QB : Bool → Shared → Prop} (R : A.units + 8 < cLine) (H : ES prog w A W sc env m h₀ ev) (h : hCmp ev l ops rs = some b) (Fr : FR W sc env s.heap m) (T : Tp h₀ s.heap) (hq : ∀ s', Keeps s s' → QB b s') :
    wpAny (model prog w) A (isTrue (.Compare l ops rs p) env (eval (.Compare l ops rs p) env)) QB E s := by
  obtain ⟨op, r, x, y, rfl, rfl, hm, h1, h2, h3⟩ := hCmp_eq h
  refine wpAny_isTrue_Compare1 (H h1 Fr T fun va s₁ k1 r1 => H h2 (Fr.keep (kall k1)) (T.keep (kall k1)) fun vb s₂ k2 r2 => ?_) hm
  exact cmp_ok R h3 (r1.mono (KX.of (kall k2))) r2 (wpAny_truthy_bool (hq _ (ktr k1 k2)))
theorem ok_bool {op : BoolOp} {es : List Expr} (H : ES prog w A W sc env m h₀ ev) (h : hBool ev op es = some d) (Fr : FR W sc env s.heap m) (T : Tp h₀ s.heap) (hq : Then W s d Q) : wpAny (model prog w) A (eval (.BoolOp op es p) env) Q E s := by
  obtain ⟨t, h1, q1⟩ := obnd h
  obtain ⟨b, hx, q2⟩ := bdB q1
  rw [asTwo_eq h1]
  cases op with
  | And =>
    refine wpAny_And2 (H hx Fr T fun v s₁ k1 r1 => ?_)
    simp only [Rep] at r1; subst r1
    cases b with
    | false => cases q2; exact wpAny_truthy_bool (hq _ _ k1 rep_bool)
    | true => exact wpAny_truthy_bool (H q2 (Fr.keep (kall k1)) (T.keep (kall k1)) fun v s₂ k2 r2 => hq v s₂ (ktr k1 k2) r2)
  | Or =>
    refine wpAny_Or2 (H hx Fr T fun v s₁ k1 r1 => ?_)
    simp only [Rep] at r1; subst r1
    cases b with
    | false => exact wpAny_truthy_bool (H q2 (Fr.keep (kall k1)) (T.keep (kall k1)) fun v s₂ k2 r2 => hq v s₂ (ktr k1 k2) r2)
    | true => cases q2; exact wpAny_truthy_bool (hq _ _ k1 rep_bool)
theorem ok_un {op : UnaryOp} {x : Expr} (H : ES prog w A W sc env m h₀ ev) (h : hUn ev op x = some d) (Fr : FR W sc env s.heap m) (T : Tp h₀ s.heap) (hq : Then W s d Q) : wpAny (model prog w) A (eval (.UnaryOp op x p) env) Q E s := by
  cases op <;> first | exact no h | skip
  obtain ⟨i, hx, q⟩ := bdI h
  cases q
  refine wpAny_UnaryOp (H hx Fr T fun v s₁ k1 r1 => ?_)
  simp only [Rep] at r1; obtain ⟨t, rfl⟩ := r1
  exact neg_int (hq _ _ (ktr k1 (Keeps.tok ..)) rep_int)
theorem ok_if {t y o : Expr} (H : ES prog w A W sc env m h₀ ev) (HT : TE prog w A W sc env m h₀ ts) (h : hIf ev ts t y o = some d) (Fr : FR W sc env s.heap m) (T : Tp h₀ s.heap) (hq : Then W s d Q) : wpAny (model prog w) A (eval (.IfExp t y o p) env) Q E s := by
  obtain ⟨c, ht, q⟩ := obnd h
  refine wpAny_IfExp (HT ht Fr T fun s₁ k1 => ?_)
  cases c with
  | true => exact H q (Fr.keep (kall k1)) (T.keep (kall k1)) fun v s₂ k2 r2 => hq v s₂ (ktr k1 k2) r2
  | false => exact H q (Fr.keep (kall k1)) (T.keep (kall k1)) fun v s₂ k2 r2 => hq v s₂ (ktr k1 k2) r2
theorem short_items {es : List Expr} {ds : List D} {vs : List Value} {s' : Shared} (hc : es.length ≤ bound) (hp : pevs ev es = some ds) (r : Reps W s'.heap ds vs) : vs.length ≤ sizeLine := by
  have e1 := r.length
  have e2 : ds.length = _ := pevs_length hp
  have := bound_le
  omega
theorem ok_list {es : List Expr} (H : ES prog w A W sc env m h₀ ev) (h : (hItems ev es).map .lst = some d) (Fr : FR W sc env s.heap m) (T : Tp h₀ s.heap) (hq : Then W s d Q) : wpAny (model prog w) A (eval (.List es p) env) Q E s := by
  obtain ⟨ds, q, rfl⟩ := omap h
  obtain ⟨hc, hp⟩ := ite1 q
  exact wpAny_List (items_ok H hc.1 hp Fr T fun vs s₁ k1 r1 => ⟨short_items hc.2 hp r1, hq _ _ (ktr k1 (Keeps.push' ..)) (rep_newList (Live.keep Fr.live (kall k1)) r1)⟩)
theorem ok_tuple {es : List Expr} {k : Nat} (H : ES prog w A W sc env m h₀ ev) (h : (hItems ev es).map .tup = some d) (Fr : FR W sc env s.heap m) (T : Tp h₀ s.heap) (hq : Then W s d Q) : wpAny (model prog w) A (eval (.Tuple es k p) env) Q E s := by
  obtain ⟨ds, q, rfl⟩ := omap h
  obtain ⟨hc, hp⟩ := ite1 q
  exact wpAny_Tuple (items_ok H hc.1 hp Fr T fun vs s₁ k1 r1 => ⟨short_items hc.2 hp r1, hq _ _ (ktr k1 (Keeps.push' ..)) (rep_newTuple (Live.keep Fr.live (kall k1)) r1)⟩)
theorem ok_split {o a i : Expr} {apos cpos : Pos} (H : ES prog w A W sc env m h₀ ev) (h : hSplit ev o apos a cpos i = some d) (Fr : FR W sc env s.heap m) (T : Tp h₀ s.heap) (hq : Then W s d Q) :
    wpAny (model prog w) A (eval (.Subscript (.Call (.Attribute o "split" apos) [a] [] cpos) i p) env) Q E s := by
  obtain ⟨hc, q1⟩ := ite1 h
  obtain ⟨x, h1, q2⟩ := bdS q1
  obtain ⟨y, h2, q3⟩ := bdS q2
  obtain ⟨iz, h3, q4⟩ := bdI q3
  obtain ⟨⟨rfl, hb⟩, q5⟩ := ite1 q4
  obtain ⟨z, hsp, rfl⟩ := omap q5
  have hs : ([a] : List Expr).all noStar = true := by rw [List.all_cons, hc.2.1]; rfl
  refine sub_rule (meth_rule hc.1 hs (show 1 < 30 by decide) hc.2.2 (H h1 Fr T fun ov s₁ k1 r1 pl => ?_))
  simp only [Rep] at r1; obtain ⟨t, rfl⟩ := r1
  refine GM.split (callWith_builtin (any_star hs) (evalArgs_ok (ds := [.str y]) H hs (by simp only [pevs, h2]) (Fr.keep (kall k1)) (T.keep (kall k1)) fun vs s₂ k2 r2 => ?_))
  simp only [Reps] at r2
  obtain ⟨v, _, rfl, rv, rfl⟩ := r2
  simp only [Rep] at rv; obtain ⟨u, rfl⟩ := rv
  refine SCG.split1 (Fm := fun s' => Keeps s₂ s') (fun s' ob kk hs' => ktr hs' (Keeps.pushT ..)) (Keeps.rfl' s₂) (by simpa using hb.1) (fun Dx l s₃ hl k3 hD => ?_) (Nat.le_trans hb.2.1 bound_le) (Nat.le_trans hb.2.2 bound_le)
  have k13 := ktr k1 (ktr k2 k3)
  refine H h3 (Fr.keep (kall k13)) (T.keep (kall k13)) fun vi s₄ k4 r4 => ?_
  simp only [Rep] at r4; obtain ⟨ti, rfl⟩ := r4
  have hD' : s₄.heap.IsList Dx (strValues l).toArray := by obtain ⟨o, e, r⟩ := hD; exact ⟨o, kall k4 _ _ e, r⟩
  refine ⟨"list", _, gi_list, hD'.typeIs, ?_⟩
  cases l with
  | nil => rw [← hl] at hsp; cases hsp
  | cons p r =>
    have hz : p.1 = z := by rw [← hl] at hsp; simpa using hsp
    refine wpAny_getItem_list (x := .str p.1 p.2) hD' (by decide) (by decide) (by simp [strValues]) (hq _ _ (ktr k13 k4) ?_)
    rw [hz]; exact rep_str
theorem ok_sub {v i : Expr} (H : ES prog w A W sc env m h₀ ev) (h : hSub ev v i = some d) (Fr : FR W sc env s.heap m) (T : Tp h₀ s.heap) (hq : Then W s d Q) : wpAny (model prog w) A (eval (.Subscript v i p) env) Q E s := by
  unfold hSub at h
  by_cases h1 : (asSplit v).isSome = true
  · rw [if_pos h1] at h
    obtain ⟨c, hc, q⟩ := obnd h
    rw [asSplit_eq hc]
    exact ok_split H q Fr T hq
  · rw [if_neg h1] at h
    by_cases h2 : (asSlice i).isSome = true
    · rw [if_pos h2] at h
      obtain ⟨t, ht, q⟩ := obnd h
      obtain ⟨a, ha, q2⟩ := obnd q
      obtain ⟨pq, hi⟩ := asSlice_eq ht
      rw [hi]
      exact slice_ok H ha q2 Fr T hq
    · rw [if_neg h2] at h
      obtain ⟨x, y, h3, h4, h5⟩ := bd2 h
      refine sub_rule (H h3 Fr T fun va s₁ k1 r1 => H h4 (Fr.keep (kall k1)) (T.keep (kall k1)) fun vb s₂ k2 r2 => ?_)
      exact idx_ok h5 (r1.mono (KX.of (kall k2))) r2 fun v s₃ k3 r3 => hq v s₃ (ktr (ktr k1 k2) k3) r3
theorem ok_attr {o : Expr} {name : Str} (B : Base w.params h₀) (H : ES prog w A W sc env m h₀ ev) (h : hAttr ev o name = some d) (Fr : FR W sc env s.heap m) (T : Tp h₀ s.heap) (hq : Then W s d Q) : wpAny (model prog w) A (eval (.Attribute o name p) env) Q E s := by
  obtain ⟨ho, q⟩ := ite1 h
  obtain ⟨a, ha, q2⟩ := obnd q
  exact Attribute_ok ho (H ha Fr T fun va s₁ k1 r1 => attr_ok B (T.keep (kall k1)) q2 r1 fun v s₂ k2 r2 => hq v s₂ (ktr k1 k2) r2)
theorem ok_fn {f : Str} {q : Pos} {args : List Expr} (B : Base w.params h₀) (R : Room A k) (FO : FnOk prog w h₀ k F) (H : ES prog w A W sc env m h₀ ev) (h : hFn F ev sc f args = some d) (Fr : FR W sc env s.heap m) (T : Tp h₀ s.heap) (hq : Then W s d Q) :
    wpAny (model prog w) A (eval (.Call (.Name f q) args [] p) env) Q E s := by
  obtain ⟨hc, q1⟩ := ite1 h
  obtain ⟨ds, hds, q2⟩ := obnd q1
  unfold pcallG at q2
  by_cases hf : f = "len"
  · rw [if_pos hf] at q2
    subst hf
    obtain ⟨dl, h1, q3⟩ := obnd q2
    obtain ⟨l, h2, q4⟩ := obnd q3
    obtain ⟨hsz, q5⟩ := ite1 q4
    cases q5
    cases D.gL_eq h2
    rw [asOne_eq h1] at hds
    rw [arm_eval_Call_Name']
    refine wpAny_bind (glob_blt B Fr T hc.1 hc.2.1 (by decide) (by kernel_rfl) boot_len ?_)
    refine callWith_builtin (any_star hc.2.2) (evalArgs_ok H hc.2.2 hds Fr T fun vs s₁ k1 r1 => ?_)
    simp only [Reps] at r1
    obtain ⟨v, _, rfl, rv, rfl⟩ := r1
    simp only [Rep] at rv
    obtain ⟨a, its, rfl, _, hl, hrs⟩ := rv
    have len := hrs.length
    rw [Array.length_toList] at len
    have : bound < 2 ^ 62 := by decide
    refine call_len_list hl (by omega) (hq _ _ (ktr k1 (Keeps.tok ..)) ?_)
    rw [len]; exact rep_int
  · rw [if_neg hf] at q2
    exact call_fn H B R FO Fr T hc.1 hc.2.1 hc.2.2 hds q2 hq
theorem ok_call {fn : Expr} {args : List Expr} {kws : List Keyword} (B : Base w.params h₀) (R : Room A k) (FO : FnOk prog w h₀ k F) (MO : MtOk prog w h₀ k M) (H : ES prog w A W sc env m h₀ ev) (h : hCall F M ev sc fn args kws p = some d) (Fr : FR W sc env s.heap m) (T : Tp h₀ s.heap) (hq : Then W s d Q) :
    wpAny (model prog w) A (eval (.Call fn args kws p) env) Q E s := by
  obtain ⟨hk, q1⟩ := ite1 h
  rw [List.isEmpty_iff.mp hk]
  by_cases h1 : (asName fn).isSome = true
  · rw [if_pos h1] at q1
    obtain ⟨f, hf, q2⟩ := obnd q1
    obtain ⟨q, he⟩ := asName_eq hf
    rw [he]
    exact ok_fn B R FO H q2 Fr T hq
  · rw [if_neg h1] at q1
    obtain ⟨t, ht, q2⟩ := obnd q1
    obtain ⟨hc, q3⟩ := ite1 q2
    obtain ⟨b, h2, q4⟩ := obnd q3
    obtain ⟨ds, h3, h4⟩ := obnd q4
    rw [asAttr_eq ht]
    exact meth_ok H B R MO Fr T hc.1 hc.2.1 hc.2.2.1 hc.2.2.2 h2 h3 h4 hq
theorem hComp_eq {evs : List (Str × NameKind) → List (Str × D) → Expr → Option D} {tss : List (Str × NameKind) → List (Str × D) → Expr → Option Bool} {elt : Expr} {gens : List Comprehension} {scope : Scope} (h : hComp evs tss sc m elt gens scope = some d) :
    ∃ x q iter ifs ds ys, gens = [⟨.Name x q, iter, ifs, 0⟩] ∧ (blockOk sc scope = true ∧ (scope.names.lookup x = some .local ∨ scope.names.lookup x = some .cell) ∧ notSet iter = true) ∧ psrc (evs sc m) sc iter = some ds ∧ ds.length ≤ bound ∧
      pcomp (fun d => ptests (tss scope.names ((x, d) :: freeOf scope m)) ifs) (fun d => evs scope.names ((x, d) :: freeOf scope m) elt) ds = some ys ∧ d = .lst ys := by
  obtain ⟨g, h1, q1⟩ := obnd h
  obtain ⟨q, hg⟩ := oneGen_eq h1
  obtain ⟨hc, q2⟩ := ite1 q1
  obtain ⟨ds, h2, q3⟩ := obnd q2
  obtain ⟨h3, q4⟩ := ite1 q3
  obtain ⟨ys, h4, q5⟩ := obnd q4
  exact ⟨g.1, q, g.2.1, g.2.2, ds, ys, hg, hc, h2, h3, h4, (Option.some.inj q5).symm⟩
theorem ok_tval {e : Expr} {QB : Bool → Shared → Prop} (H : ES prog w A W sc env m h₀ ev) (h : tVal ev e = some b) (Fr : FR W sc env s.heap m) (T : Tp h₀ s.heap) (hq : ∀ s', Keeps s s' → QB b s')
    (ht : wpAny (model prog w) A (eval e env) (fun v s₁ => wpAny (model prog w) A (truthy v) QB E s₁) E s → wpAny (model prog w) A (isTrue e env (eval e env)) QB E s) : wpAny (model prog w) A (isTrue e env (eval e env)) QB E s := by
  obtain ⟨v, hx, q⟩ := obnd h
  cases D.gB_eq q
  refine ht (H hx Fr T fun v s₁ k1 r1 => ?_)
  simp only [Rep] at r1; subst r1
  exact wpAny_truthy_bool (hq _ k1)
theorem ok_tbool {op : BoolOp} {es : List Expr} {QB : Bool → Shared → Prop} (HT : TE prog w A W sc env m h₀ ts) (h : tBool ts op es = some b) (Fr : FR W sc env s.heap m) (T : Tp h₀ s.heap) (hq : ∀ s', Keeps s s' → QB b s') :
    wpAny (model prog w) A (isTrue (.BoolOp op es p) env (eval (.BoolOp op es p) env)) QB E s := by
  obtain ⟨t, h1, q1⟩ := obnd h
  obtain ⟨c, ht, q2⟩ := obnd q1
  rw [asTwo_eq h1]
  cases op with
  | And =>
    refine wpAny_isTrue_BoolOp (wpAny_allTrue_And_cons (HT ht Fr T fun s₁ k1 => ?_))
    cases c with
    | false => cases q2; exact hq s₁ k1
    | true =>
      refine wpAny_allTrue_And_cons (HT q2 (Fr.keep (kall k1)) (T.keep (kall k1)) fun s₂ k2 => ?_)
      cases b with
      | false => exact hq _ (ktr k1 k2)
      | true => exact wpAny_allTrue_And_nil (hq _ (ktr k1 k2))
  | Or =>
    refine wpAny_isTrue_BoolOp (wpAny_allTrue_Or_cons (HT ht Fr T fun s₁ k1 => ?_))
    cases c with
    | false =>
      refine wpAny_allTrue_Or_cons (HT q2 (Fr.keep (kall k1)) (T.keep (kall k1)) fun s₂ k2 => ?_)
      cases b with
      | false => exact wpAny_allTrue_Or_nil (hq _ (ktr k1 k2))
      | true => exact hq _ (ktr k1 k2)
    | true => cases q2; exact hq s₁ k1
end

theorem ev_sound (B : Base w.params h₀) (FO : FnOk prog w h₀ k F) (MO : MtOk prog w h₀ k M) : ∀ n, EvS prog w h₀ k F M n ∧ TsS prog w h₀ k F M n := by
  intro n
  induction n with
  | zero => exact ⟨fun R _ _ h => no h, fun R _ _ h => no h⟩
  | succ n ih =>
    obtain ⟨EV, TS⟩ := ih
    constructor
    · intro A W sc env m R e d h s Q E Fr T hq
      have H : ES prog w A W sc env m h₀ (pev F M n sc m) := EV R
      cases e with
      | Constant c k p => exact ok_const h hq
      | Name x p => exact ok_name h Fr hq
      | BinOp l op r p => exact ok_bin H h Fr T hq
      | Compare l ops rs p => exact ok_cmp R.cmp H h Fr T hq
      | BoolOp op es p => exact ok_bool H h Fr T hq
      | UnaryOp op x p => exact ok_un H h Fr T hq
      | IfExp t b o p => exact ok_if H (TS R) h Fr T hq
      | List es p => exact ok_list H h Fr T hq
      | Tuple es k p => exact ok_tuple H h Fr T hq
      | Subscript v i p => exact ok_sub H h Fr T hq
      | Attribute o name p => exact ok_attr B H h Fr T hq
      | ListComp elt gens scope p =>
        obtain ⟨x, q, iter, ifs, ds, ys, rfl, hc, h1, h2, h3, rfl⟩ := hComp_eq h
        exact comp_pure EV TS B R Fr T hc.1 hc.2.1 hc.2.2 h1 h2 h3 hq
      | Call fn args kws pos => exact ok_call B R FO MO H h Fr T hq
      | _ => exact no h
    · intro A W sc env m R e b h s Q E Fr T hq
      have H : ES prog w A W sc env m h₀ (pev F M n sc m) := EV R
      cases e with
      | Compare l ops rs p => exact ok_tcmp R.cmp H h Fr T hq
      | UnaryOp op x p =>
        cases op <;> first | exact no h | skip
        obtain ⟨c, ht, q⟩ := obnd h
        cases q
        exact wpAny_isTrue_Not (TS R ht Fr T fun s₁ k1 => hq s₁ k1)
      | BoolOp op es p => exact ok_tbool (TS R) h Fr T hq
      | Name x p => exact ok_tval H h Fr T hq wpAny_isTrue_value
      | Call f a k p => exact ok_tval H h Fr T hq wpAny_isTrue_value
      | _ => exact no h
end
end Mine
end

-- Exec
section
open PySem PySem.W PyProof.Rows PySem.Calls PySem.SeqAt
set_option maxRecDepth 100000
namespace Mine

noncomputable abbrev Mp := List (Str × D)
inductive PF where
  | next (m : Mp)
  | ret (d : D)

noncomputable def notComp (e : Expr) : Bool := (exTag e).2.2
theorem swap_no {v : Expr} (h : notComp v = true) (x : Str) (p : Pos) (l : Nat) (env : Env) : swapsWith v (some (.Name x p)) l env = pure false := by
  cases v <;> first | rfl | cases h

noncomputable def pfor (body : Mp → Option PF) (x : Str) : List D → Mp → Option PF
  | [], m => some (.next m)
  | d :: r, m => match body ((x, d) :: m) with
    | some (.next m') => pfor body x r m'
    | some (.ret v) => some (.ret v)
    | none => none

noncomputable def storable (sc : List (Str × NameKind)) (x : Str) : Bool := match sc.lookup x with | some .local => true | some .cell => true | _ => false

noncomputable def pexecs (ex : Mp → Stmt → Option PF) : Mp → List Stmt → Option PF
  | m, [] => some (.next m)
  | m, st :: r => match ex m st with
    | some (.next m') => pexecs ex m' r
    | some (.ret v) => some (.ret v)
    | none => none

noncomputable def xAsg (ev : Expr → Option D) (sc : List (Str × NameKind)) (m : Mp) (ts : List Expr) (value : Expr) : Option PF := (asOne ts).bind fun t => (asName t).bind fun x => if storable sc x = true then (ev value).bind fun d => some (.next ((x, d) :: m)) else none
noncomputable def xIf (ts : Expr → Option Bool) (run : List Stmt → Option PF) (test : Expr) (body orelse : List Stmt) : Option PF := (ts test).bind fun c => run (cond c body orelse)
noncomputable def xRet (ev : Expr → Option D) (v : Option Expr) : Option PF := (v.bind ev).bind fun d => some (.ret d)
noncomputable def xFor (src : Expr → Option (List D)) (run : List Stmt → Mp → Option PF) (sc : List (Str × NameKind)) (m : Mp) (tg iter : Expr) (body orelse : List Stmt) : Option PF :=
  if orelse.isEmpty = true then (asName tg).bind fun x => if storable sc x = true ∧ notSet iter = true then (src iter).bind fun ds => if ds.length ≤ bound then pfor (run body) x ds m else none else none else none
noncomputable def pexec (F M : Str → List D → Option D) : Nat → List (Str × NameKind) → Mp → Stmt → Option PF
  | 0, _, _, _ => none
  | n + 1, sc, m, st => match st with
    | .Assign ts value _ => xAsg (pev F M 40 sc m) sc m ts value
    | .If test body orelse _ => xIf (ptest F M 40 sc m) (fun b => pexecs (pexec F M n sc) m b) test body orelse
    | .Return v _ => xRet (pev F M 40 sc m) v
    | .For tg iter body orelse _ => xFor (psrc (pev F M 40 sc m) sc) (fun b m' => pexecs (pexec F M n sc) m' b) sc m tg iter body orelse
    | _ => none

section
variable {prog : Program} {w : World} {h₀ : Heap} {k : Nat} {F M : Str → List D → Option D} {A : Around}
variable {W Y : List Addr} {sc : List (Str × NameKind)} {env : Env}

/-- what the frame writes: Y, off all data, not of the base -/
structure Own (h₀ : Heap) (Y W : List Addr) (env : Env) : Prop where
  loc : env.locals ∈ Y
  cin : ∀ x c, env.cells.lookup x = some c → c ∈ Y
  sub : ∀ b ∈ Y, b ∈ W
  new : ∀ b ∈ Y, h₀.get? b = none

/-- what is wanted behind a statement -/
noncomputable def PostF (W Y : List Addr) (sc : List (Str × NameKind)) (env : Env) (s : Shared) (Q : Flow → Shared → Prop) : PF → Prop
  | .next m => ∀ h' tk, FR W sc env h' m → KX Y s.heap h' → Q .next { s with heap := h', toks := tk }
  | .ret d => ∀ v h' tk, KX Y s.heap h' → Rep W h' d v → Q (.ret v) { s with heap := h', toks := tk }

theorem PostF.later {s : Shared} {Q : Flow → Shared → Prop} {r : PF} (h : PostF W Y sc env s Q r) {h₁ : Heap} {tk : Nat} (kx : KX Y s.heap h₁) : PostF W Y sc env { s with heap := h₁, toks := tk } Q r := by
  cases r with
  | next m => exact fun h' tk' F' k' => h h' tk' F' (kx.trans k')
  | ret d => exact fun v h' tk' k' r' => h v h' tk' (kx.trans k') r'

theorem storable_or {x : Str} (h : storable sc x = true) : sc.lookup x = some .local ∨ sc.lookup x = some .cell := by
  unfold storable at h
  split at h
  · rename_i q; exact .inl q
  · rename_i q; exact .inr q
  · cases h

theorem own_store {O : Own h₀ Y W env} {x : Str} {h h' : Heap} (hb : ∃ a, (a = env.locals ∨ (sc.lookup x = some .cell ∧ env.cells.lookup x = some a)) ∧ ∀ b o, b ≠ a → h.get? b = some o → h'.get? b = some o) : KX Y h h' := by
  obtain ⟨a, ha, hb⟩ := hb
  refine fun b o nb e => hb b o (fun q => nb ?_) e
  rcases ha with rfl | ⟨_, ha⟩
  · exact q ▸ O.loc
  · exact q ▸ O.cin _ _ ha

theorem FR.shrink {W X : List Addr} {sc : List (Str × NameKind)} {env : Env} {h : Heap} {m : List (Str × D)} (F : FR (X ++ W) sc env h m) (hL : env.locals ∈ W) (hc : ∀ x c, env.cells.lookup x = some c → c ∈ W) : FR W sc env h m := by
  have rp : ∀ {d v}, Rep (X ++ W) h d v → Rep W h d v := fun r => r.off fun b hb => .inl (List.mem_append_right _ hb)
  refine ⟨F.kind, F.globs, F.blts, F.kinds, fun x hx => F.live x (List.mem_append_right _ hx), hL, hc, F.inj, F.cell, ?_⟩
  obtain ⟨μ, h1, h2⟩ := F.ns
  refine ⟨μ, h1, fun x d hx => ?_⟩
  rcases h2 x d hx with ⟨a, v, b, c⟩ | ⟨a, c, v, h3, h4, h5⟩
  · exact .inl ⟨a, v, b, rp c⟩
  · exact .inr ⟨a, c, v, h3, h4, rp h5⟩

end
end Mine
end

-- ForInv
section
open PySem PySem.W PyProof.Rows PySem.Calls PySem.SeqAt
set_option maxRecDepth 100000
namespace Mine

theorem FR.dropL {W X : List Addr} {sc : List (Str × NameKind)} {env : Env} {h h' : Heap} {m : List (Str × D)} (F : FR (X ++ W) sc env h m) (hL : env.locals ∈ W) (hc : ∀ x c, env.cells.lookup x = some c → c ∈ W) (hX : ∀ b ∈ W, b ∉ X)
    (hs : KX X h h') : FR W sc env h' m := by
  have rp : ∀ {d v}, Rep (X ++ W) h d v → Rep W h' d v := fun r => (r.mono (h' := h') fun b o nb e => hs b o (fun q => nb (List.mem_append_left _ q)) e).off fun b hb => .inl (List.mem_append_right _ hb)
  refine ⟨F.kind, F.globs, F.blts, F.kinds, fun x hx => let ⟨o, e⟩ := F.live x (List.mem_append_right _ hx); ⟨o, hs x o (hX x hx) e⟩, hL, hc, F.inj, fun x hx => ?_, ?_⟩
  · obtain ⟨c, v, h1, o, h2, h3⟩ := F.cell x hx
    exact ⟨c, v, h1, o, hs c o (hX c (hc x c h1)) h2, h3⟩
  · obtain ⟨μ, ⟨o, es, ep, e, r⟩, h2⟩ := F.ns
    refine ⟨μ, ⟨o, es, ep, hs _ _ (hX _ hL) e, r⟩, fun x d hx => ?_⟩
    rcases h2 x d hx with ⟨a, v, b, c⟩ | ⟨a, c, v, h3, ⟨o', h4, h4'⟩, h5⟩
    · exact .inl ⟨a, v, b, rp c⟩
    · exact .inr ⟨a, c, v, h3, ⟨o', hs c o' (hX c (hc x c h3)) h4, h4'⟩, rp h5⟩

section
variable {prog : Program} {w : World} {h₀ : Heap} {A : Around} {s : Shared}
variable {W Y : List Addr} {sc : List (Str × NameKind)} {env : Env} {m : Mp}

/-- a for over data, by an invariant J over the turn's number, the names and the heap. Z: what else the body may write. -/
theorem for_invX {x : Str} {px pos : Pos} {iter : Expr} {body : List Stmt} {ds : List D} {Q : Flow → Shared → Prop} {E : Value → Shared → Prop} (Z : List Addr) (J : List Addr → Nat → Mp → Heap → Prop) (Rt : Value → Heap → Prop)
    (O : Own h₀ Y W env) (F : FR W sc env s.heap m) (hx : storable sc x = true) (hset : notSet iter = true) (hZ : ∀ b ∈ Z, b ∈ W)
    (src : ∀ Q', (∀ it s₂, Src prog w A W s it ds s₂ → Q' it s₂) → wpAny (model prog w) A (eval iter env) (fun xv s₁ => wpAny (model prog w) A (pyIter xv) Q' E s₁) E s)
    (Jst : ∀ X j m h h', (∀ b ∈ X, s.heap.get? b = none) → J X j m h → KX (X ++ Y) h h' → J X j m h')
    (J0 : ∀ X h', (∀ b ∈ X, s.heap.get? b = none) → (∀ b o, s.heap.get? b = some o → h'.get? b = some o) → J X 0 m h')
    (step : ∀ X j d m' s₂ E', (∀ b ∈ X, s.heap.get? b = none) → ds[j]? = some d → J X j m' s₂.heap → FR (X ++ W) sc env s₂.heap ((x, d) :: m') → (∃ h tk, s₂ = { s with heap := h, toks := tk }) → KX (X ++ (Y ++ Z)) s.heap s₂.heap →
      wpAny (model prog w) A (execs body env) (fun f s₃ => ∃ h' tk, s₃ = { s₂ with heap := h', toks := tk } ∧ KX (Y ++ Z) s₂.heap h' ∧ match f with
        | .next => ∃ m'', FR (X ++ W) sc env h' m'' ∧ J X (j + 1) m'' h'
        | .ret v => Rt v h'
        | _ => False) E' s₂)
    (fin : ∀ X h' tk m', FR W sc env h' m' → J X ds.length m' h' → KX (Y ++ Z) s.heap h' → Q .next { s with heap := h', toks := tk })
    (retn : ∀ v h' tk, Rt v h' → KX (Y ++ Z) s.heap h' → Q (.ret v) { s with heap := h', toks := tk }) :
    wpAny (model prog w) A (exec (.For (.Name x px) iter body [] pos) env) Q E s := by
  refine wpAny_For (src _ fun it s₂ hsrc => ?_) (folded_eq hset env)
  obtain ⟨I, fp, wr, n, P, St, rfl, Wk, hlive, hn, hst, hk₂, hwr, hfp, items⟩ := hsrc
  obtain ⟨h₂, tk₂, rfl, hk₂⟩ := hk₂
  dsimp only at hst hfp items hk₂ ⊢
  have hWX : ∀ b ∈ W, b ∉ wr := fun b hb q => by obtain ⟨o, e⟩ := F.live b hb; rw [hwr b q] at e; cases e
  have hYW := O.sub
  have hYZW : ∀ b ∈ Y ++ Z, b ∈ W := fun b hb => by
    rcases List.mem_append.mp hb with hb | hb
    · exact hYW b hb
    · exact hZ b hb
  have hfpYZ : ∀ b ∈ fp, b ∉ Y ++ Z := fun b hb q => (hfp b hb).1 (hYZW b q)
  have F₂ : FR (wr ++ W) sc env h₂ m := F.grow hk₂ hwr (hlive 0 _ hst)
  refine codeAny_forLoop (fun k s' => ∃ j m' h' tk, s' = { s with heap := h', toks := tk } ∧ j ≤ n ∧ k = n + 1 - j ∧ St j h' ∧ FR (wr ++ W) sc env h' m' ∧ J wr j m' h' ∧ KX (wr ++ (Y ++ Z)) s.heap h' ∧ KX (wr ++ (Y ++ Z)) h₂ h') ?_ (n + 1)
    ⟨0, m, h₂, tk₂, rfl, Nat.zero_le _, rfl, hst, F₂, J0 wr h₂ hwr hk₂, KX.of hk₂, KX.refl _ _⟩
  rintro k s' ⟨j, m', h', tk, rfl, hj, rfl, hst', F', hJ, kx', kx₂'⟩
  have hLw : env.locals ∉ wr := hWX _ F.loc
  have hcw : ∀ y c, env.cells.lookup y = some c → c ∉ wr := fun y c e => hWX _ (F.cin y c e)
  by_cases hlt : j < n
  · refine Wk.item j _ _ _ hlt hst' fun v h₁ tk₁ hPv hst₁ hk₁ => ?_
    obtain ⟨d, hd, hr⟩ := items j v hlt hPv
    have kw₁ : KX wr h' h₁ := fun b o nb e => hk₁ b o nb e
    have F₁ : FR (wr ++ W) sc env h₁ m' := F'.but (X := wr) kw₁ (fun b hb => List.mem_append_left _ hb) hLw hcw (hlive _ _ hst₁)
    have hr₁ : Rep (wr ++ W) h₁ d v := (hr.mono (kx₂'.mono fun b hb => by
      rcases List.mem_append.mp hb with hb | hb
      · exact List.mem_append_left _ hb
      · exact List.mem_append_right _ (hYZW b hb))).mono (kw₁.mono fun b hb => List.mem_append_left _ hb)
    refine wpAny_assign_Name (FR.store (s := { s with heap := h₁, toks := tk₁ }) F₁ (storable_or hx) hr₁ fun h₃ tk₃ F₃ kx₃ hb₃ => ?_)
    have ky₃ : KX Y h₁ h₃ := own_store (O := O) hb₃
    have k13 : KX (wr ++ (Y ++ Z)) h' h₃ := (kw₁.mono fun b hb => List.mem_append_left _ hb).trans (ky₃.mono fun b hb => List.mem_append_right _ (List.mem_append_left _ hb))
    have hJ₃ : J wr j m' h₃ := Jst wr j m' h' h₃ hwr hJ ((kw₁.mono fun b hb => List.mem_append_left _ hb).trans (ky₃.mono fun b hb => List.mem_append_right _ hb))
    have hst₃ : St (j + 1) h₃ := Wk.frame _ _ _ hst₁ fun b hb o e => ky₃ b o (fun q => (hfp b hb).1 (hYW b q)) e
    refine wpAny_mono (step wr j d m' { s with heap := h₃, toks := tk₃ } _ hwr hd hJ₃ F₃ ⟨_, _, rfl⟩ (kx'.trans k13)) (fun f s₄ h₄ => ?_) fun _ _ e => e
    obtain ⟨h₄, tk₄, rfl, ky₄, hf⟩ := h₄
    dsimp only at ky₄
    have kall₄ : KX (wr ++ (Y ++ Z)) h' h₄ := k13.trans (ky₄.mono fun b hb => List.mem_append_right _ hb)
    cases f with
    | next =>
      obtain ⟨m'', F₄, hJ₄⟩ := hf
      exact ⟨n + 1 - (j + 1), by omega, j + 1, m'', h₄, tk₄, rfl, hlt, rfl, Wk.frame _ _ _ hst₃ fun b hb o e => ky₄ b o (hfpYZ b hb) e, F₄, hJ₄, kx'.trans kall₄, kx₂'.trans kall₄⟩
    | ret v =>
      refine retn v h₄ tk₄ hf fun b o nb e => ?_
      exact (kx'.trans kall₄) b o (fun q => by
        rcases List.mem_append.mp q with q | q
        · rw [hwr b q] at e; cases e
        · exact nb q) e
    | brk => exact hf.elim
    | cont => exact hf.elim
  · have hjn : j = n := by omega
    subst hjn
    refine Wk.done _ _ _ hst' fun h₁ tk₁ hk₁ => ?_
    have kw₁ : KX wr h' h₁ := fun b o nb e => hk₁ b o nb e
    refine wpAny_execs_nil (fin wr h₁ tk₁ m' (F'.dropL F.loc F.cin hWX kw₁) (hn ▸ Jst wr j m' h' h₁ hwr hJ (kw₁.mono fun b hb => List.mem_append_left _ hb)) fun b o nb e => ?_)
    have hbw : b ∉ wr := fun q => by rw [hwr b q] at e; cases e
    exact kw₁ b o hbw (kx' b o (fun q => by
      rcases List.mem_append.mp q with q | q
      · exact hbw q
      · exact nb q) e)
/-- a for over data, by an invariant J over the turn's number, the names and the heap. Z: what else the body may write. -/
theorem for_inv {x : Str} {px pos : Pos} {iter : Expr} {body : List Stmt} {ds : List D} {Q : Flow → Shared → Prop} {E : Value → Shared → Prop} (Z : List Addr) (J : Nat → Mp → Heap → Prop) (Rt : Value → Heap → Prop)
    (O : Own h₀ Y W env) (F : FR W sc env s.heap m) (hx : storable sc x = true) (hset : notSet iter = true) (hZ : ∀ b ∈ Z, b ∈ W)
    (src : ∀ Q', (∀ it s₂, Src prog w A W s it ds s₂ → Q' it s₂) → wpAny (model prog w) A (eval iter env) (fun xv s₁ => wpAny (model prog w) A (pyIter xv) Q' E s₁) E s)
    (Jst : ∀ X j m h h', (∀ b ∈ X, s.heap.get? b = none) → J j m h → KX (X ++ Y) h h' → J j m h')
    (J0 : J 0 m s.heap)
    (step : ∀ X j d m' s₂ E', (∀ b ∈ X, s.heap.get? b = none) → ds[j]? = some d → J j m' s₂.heap → FR (X ++ W) sc env s₂.heap ((x, d) :: m') → (∃ h tk, s₂ = { s with heap := h, toks := tk }) → KX (X ++ (Y ++ Z)) s.heap s₂.heap →
      wpAny (model prog w) A (execs body env) (fun f s₃ => ∃ h' tk, s₃ = { s₂ with heap := h', toks := tk } ∧ KX (Y ++ Z) s₂.heap h' ∧ match f with
        | .next => ∃ m'', FR (X ++ W) sc env h' m'' ∧ J (j + 1) m'' h'
        | .ret v => Rt v h'
        | _ => False) E' s₂)
    (fin : ∀ h' tk m', FR W sc env h' m' → J ds.length m' h' → KX (Y ++ Z) s.heap h' → Q .next { s with heap := h', toks := tk })
    (retn : ∀ v h' tk, Rt v h' → KX (Y ++ Z) s.heap h' → Q (.ret v) { s with heap := h', toks := tk }) :
    wpAny (model prog w) A (exec (.For (.Name x px) iter body [] pos) env) Q E s := by
  exact for_invX Z (fun _ => J) Rt O F hx hset hZ src Jst (fun _ h' _ hk => Jst [] 0 m s.heap h' (fun _ q => (nomatch q)) J0 (KX.of hk)) step (fun _ => fin) retn
end
end Mine
end

-- ExecOk
section
open PySem PySem.W PyProof.Rows PySem.Calls PySem.SeqAt
set_option maxRecDepth 100000
namespace Mine
section
variable {prog : Program} {w : World} {h₀ : Heap} {k : Nat} {F M : Str → List D → Option D}

theorem Own.grow {h₀ : Heap} {Y W X : List Addr} {env : Env} (O : Own h₀ Y W env) : Own h₀ Y (X ++ W) env := ⟨O.loc, O.cin, fun b hb => List.mem_append_right _ (O.sub b hb), O.new⟩

theorem pev_comp {n : Nat} {sc : List (Str × NameKind)} {m : Mp} {value : Expr} {d : D} (hc : notComp value = false) (e : pev F M (n + 1) sc m value = some d) :
    ∃ elt y py iter ifs scope cpos ds ys, value = .ListComp elt [⟨.Name y py, iter, ifs, 0⟩] scope cpos ∧ (blockOk sc scope = true ∧ (scope.names.lookup y = some .local ∨ scope.names.lookup y = some .cell) ∧ notSet iter = true) ∧ psrc (pev F M n sc m) sc iter = some ds ∧ ds.length ≤ bound ∧
      pcomp (fun d => ptests (ptest F M n scope.names ((y, d) :: freeOf scope m)) ifs) (fun d => pev F M n scope.names ((y, d) :: freeOf scope m) elt) ds = some ys ∧ d = .lst ys := by
  have hv : ∃ elt gens scope cpos, value = .ListComp elt gens scope cpos := by
    cases value <;> first | exact ⟨_, _, _, _, rfl⟩ | (cases hc; done) | exact no e
  obtain ⟨elt, gens, scope, cpos, rfl⟩ := hv
  obtain ⟨x, q, iter, ifs, ds, ys, rfl, h⟩ := hComp_eq e
  exact ⟨elt, x, q, iter, ifs, scope, cpos, ds, ys, rfl, h⟩

/-- NAME = value -/
theorem assign_ok (B : Base w.params h₀) (FO : FnOk prog w h₀ k F) (MO : MtOk prog w h₀ k M) {n : Nat} {A : Around} {W Y : List Addr} {sc : List (Str × NameKind)} {env : Env} {m : Mp} {s : Shared} {Q : Flow → Shared → Prop} {E : Value → Shared → Prop} {x : Str} {px pos : Pos} {value : Expr} {d : D}
    (R : Room A k) (O : Own h₀ Y W env) (Fr : FR W sc env s.heap m) (T : Tp h₀ s.heap) (hx : storable sc x = true) (e : pev F M n sc m value = some d) (hq : PostF W Y sc env s Q (.next ((x, d) :: m))) :
    wpAny (model prog w) A (exec (.Assign [.Name x px] value pos) env) Q E s := by
  cases hc : notComp value with
  | true =>
    refine asgN ((ev_sound B FO MO n).1 R e Fr T fun v => kfor fun h₁ tk₁ hk₁ r1 => ?_) (swap_no hc _ _ _ _)
    refine FR.store (s := { s with heap := h₁, toks := tk₁ }) (Fr.keep hk₁) (storable_or hx) r1 fun h₂ tk₂ F₂ kx₂ hb₂ => ?_
    exact hq h₂ tk₂ F₂ ((KX.of hk₁).trans (own_store (O := O) hb₂))
  | false =>
    cases n with
    | zero => exact no e
    | succ n =>
      obtain ⟨elt, y, py, iter, ifs, scope, cpos, ds, ys, rfl, hcond, hsrc, hsz, hp, rfl⟩ := pev_comp hc e
      obtain ⟨i1, i2⟩ := pcomp_spec hp
      obtain ⟨EV, TS⟩ := ev_sound B FO MO n
      refine assign_comp_ok (ds := ds) (fun d => (ptests (ptest F M n scope.names ((y, d) :: freeOf scope m)) ifs).getD false) (fun d d' => pev F M n scope.names ((y, d) :: freeOf scope m) elt = some d') Fr hcond.1 hcond.2.1 (storable_or hx) (Nat.le_trans hsz bound_le) hcond.2.2
        (fun Q' hq' => src_ok (EV R) B R.hd Fr T hsrc hq') ?_ ?_ ?_
      · intro W' cenv d hd hW s₃ E' F₃ hs
        obtain ⟨h, tk, rfl, hk⟩ := hs
        obtain ⟨b, hb', _⟩ := i1 d hd
        exact tests_ok TS R hb' F₃ (T.keep hk) fun s' k' => ⟨by rw [hb']; rfl, k'⟩
      · intro W' cenv d hd hp hW s₃ E' F₃ hs
        obtain ⟨h, tk, rfl, hk⟩ := hs
        obtain ⟨b, hb', hy⟩ := i1 d hd
        have : b = true := by rw [hb'] at hp; exact hp
        obtain ⟨y, hy⟩ := hy this
        exact EV R hy F₃ (T.keep hk) fun v s' k' r' => ⟨k', y, hy, r'⟩
      · intro ds' h' tk hpr F' kx' hb'
        rw [i2 ds' hpr] at F'
        exact hq h' tk F' (own_store (O := O) hb')

theorem execs_of {ex : Mp → Stmt → Option PF} {A : Around} {Y : List Addr} {sc : List (Str × NameKind)} {env : Env}
    (H : ∀ {W m st r s Q E}, Own h₀ Y W env → FR W sc env s.heap m → Tp h₀ s.heap → ex m st = some r → PostF W Y sc env s Q r → wpAny (model prog w) A (exec st env) Q E s) :
    ∀ {sts : List Stmt} {W m r s} {Q : Flow → Shared → Prop} {E}, Own h₀ Y W env → FR W sc env s.heap m → Tp h₀ s.heap → pexecs ex m sts = some r → PostF W Y sc env s Q r → wpAny (model prog w) A (execs sts env) Q E s
  | [], W, m, r, s, Q, E, O, Fr, T, e, hq => by
    simp only [pexecs] at e; cases e
    exact wpAny_execs_nil (hq s.heap s.toks Fr (KX.refl _ _))
  | st :: rest, W, m, r, s, Q, E, O, Fr, T, e, hq => by
    simp only [pexecs] at e
    split at e
    · rename_i m' he
      refine ec (H O Fr T he ?_)
      intro h' tk F' k'
      exact execs_of H O F' (T.kx k' O.new) e (hq.later k')
    · rename_i v he
      cases e
      refine ec (H O Fr T he ?_)
      intro v h' tk k' r'
      exact hq v h' tk k' r'
    · cases e

theorem pfor_drop {body : Mp → Option PF} {x : Str} {ds : List D} {j : Nat} {d : D} {m : Mp} {r : PF} (hd : ds[j]? = some d) (h : pfor body x (ds.drop j) m = some r) :
    (∃ m', body ((x, d) :: m) = some (.next m') ∧ pfor body x (ds.drop (j + 1)) m' = some r) ∨ (∃ v, body ((x, d) :: m) = some (.ret v) ∧ r = .ret v) := by
  obtain ⟨hj, hd'⟩ := List.getElem?_eq_some_iff.mp hd
  rw [List.drop_eq_getElem_cons hj, hd'] at h
  simp only [pfor] at h
  split at h
  · rename_i m' hb; exact .inl ⟨m', hb, h⟩
  · rename_i v hb; cases h; exact .inr ⟨v, hb, rfl⟩
  · cases h

theorem ex_sound (B : Base w.params h₀) (FO : FnOk prog w h₀ k F) (MO : MtOk prog w h₀ k M) : ∀ n {A : Around} {Y : List Addr} {sc : List (Str × NameKind)} {env : Env}, Room A k → ∀ {W m st r s} {Q : Flow → Shared → Prop} {E}, Own h₀ Y W env → FR W sc env s.heap m → Tp h₀ s.heap → pexec F M n sc m st = some r → PostF W Y sc env s Q r →
    wpAny (model prog w) A (exec st env) Q E s := by
  intro n
  induction n with
  | zero => intro A Y sc env R W m st r s Q E O Fr T e; exact no e
  | succ n ih =>
    intro A Y sc env R W m st r s Q E O Fr T e hq
    have IH : ∀ {sts : List Stmt} {W m r s} {Q : Flow → Shared → Prop} {E}, Own h₀ Y W env → FR W sc env s.heap m → Tp h₀ s.heap → pexecs (pexec F M n sc) m sts = some r → PostF W Y sc env s Q r → wpAny (model prog w) A (execs sts env) Q E s :=
      execs_of (ih R)
    obtain ⟨EV, TS⟩ := ev_sound (k := k) B FO MO 40
    cases st with
    | Assign ts value p =>
      obtain ⟨t, h1, q1⟩ := obnd e
      obtain ⟨x, h2, q2⟩ := obnd q1
      obtain ⟨hx, q3⟩ := ite1 q2
      obtain ⟨d, hd, q4⟩ := obnd q3
      cases q4
      obtain ⟨q, h3⟩ := asName_eq h2
      rw [asOne_eq h1, h3]
      exact assign_ok B FO MO R O Fr T hx hd hq
    | If test body orelse p =>
      obtain ⟨c, ht, q1⟩ := obnd e
      refine wpAny_If (TS R ht Fr T (kfor fun h₁ tk₁ hk₁ => ?_))
      cases c with
      | true => exact IH O (Fr.keep hk₁) (T.keep hk₁) q1 (hq.later (KX.of hk₁))
      | false => exact IH O (Fr.keep hk₁) (T.keep hk₁) q1 (hq.later (KX.of hk₁))
    | Return v p =>
      cases v with
      | none => exact no e
      | some v =>
        obtain ⟨d, hd, q1⟩ := obnd e
        cases q1
        exact wpAny_Return_some (EV R hd Fr T fun v => kfor fun h₁ tk₁ hk₁ r1 => hq v h₁ tk₁ (KX.of hk₁) r1)
    | For tg iter body orelse p =>
      obtain ⟨ho, q1⟩ := ite1 e
      obtain ⟨x, hx', q2⟩ := obnd q1
      obtain ⟨hc, q3⟩ := ite1 q2
      obtain ⟨ds, hsrc, q4⟩ := obnd q3
      obtain ⟨hsz, q5⟩ := ite1 q4
      obtain ⟨q, ht⟩ := asName_eq hx'
      rw [ht, List.isEmpty_iff.mp ho]
      refine for_inv (Y := Y) [] (fun j m' _ => pfor (fun m' => pexecs (pexec F M n sc) m' body) x (ds.drop j) m' = some r) (fun v h' => ∃ d, r = .ret d ∧ Rep W h' d v) O Fr hc.1 hc.2 (fun b q => (nomatch q))
        (fun Q' hq' => src_ok (EV R) B R.hd Fr T hsrc hq') (fun _ _ _ _ _ _ h _ => h) q5 ?_ ?_ ?_
      · intro X j d m' s₂ E' hX hd hJ F₂ hs kx
        obtain ⟨h₂, tk₂, rfl⟩ := hs
        have T₂ : Tp h₀ h₂ := T.kx kx fun b q => by
          rcases List.mem_append.mp q with q | q
          · exact T.gone (hX b q)
          · simp at q; exact O.new b q
        rcases pfor_drop hd hJ with ⟨m'', hb, hr⟩ | ⟨v, hb, hr⟩
        · refine IH (O.grow (X := X)) F₂ T₂ hb ?_
          intro h' tk F' k'
          exact ⟨h', tk, rfl, by simpa using k', m'', F', hr⟩
        · refine IH (O.grow (X := X)) F₂ T₂ hb ?_
          intro v' h' tk k' r'
          exact ⟨h', tk, rfl, by simpa using k', v, hr, r'.off fun b hb => .inl (List.mem_append_right _ hb)⟩
      · intro h' tk m' F' hJ kx
        rw [List.drop_of_length_le (Nat.le_refl _)] at hJ
        cases hJ
        exact hq h' tk F' (by simpa using kx)
      · intro v h' tk hrt kx
        obtain ⟨d, rfl, hr⟩ := hrt
        exact hq v h' tk (by simpa using kx) hr
    | _ => exact no e

theorem exs_sound (B : Base w.params h₀) (FO : FnOk prog w h₀ k F) (MO : MtOk prog w h₀ k M) {n : Nat} {A : Around} {Y : List Addr} {sc : List (Str × NameKind)} {env : Env} (R : Room A k) {sts : List Stmt} {W m r s} {Q : Flow → Shared → Prop} {E} (O : Own h₀ Y W env) (Fr : FR W sc env s.heap m) (T : Tp h₀ s.heap)
    (e : pexecs (pexec F M n sc) m sts = some r) (hq : PostF W Y sc env s Q r) : wpAny (model prog w) A (execs sts env) Q E s := execs_of (ex_sound B FO MO n R) O Fr T e hq
end
end Mine
end

-- FnCall
section
open PySem PySem.W PyProof.Rows PySem.Calls PySem.SeqAt
set_option maxRecDepth 100000
namespace Mine

theorem bindL_out {kd : Str → Option NameKind} {x : Str} : ∀ {binds : List (Str × Value)} {m : Str → Option Value}, (∀ p ∈ binds, p.1 ≠ x) → bindL kd binds m x = m x
  | [], _, _ => rfl
  | (n, v) :: r, m, h => by
    unfold bindL
    rw [bindL_out fun p hp => h p (List.mem_cons_of_mem _ hp)]
    split
    · have : x ≠ n := Ne.symm (h (n, v) List.mem_cons_self)
      simp [this]
    · rfl
theorem bindC_out {kd : Str → Option NameKind} {x : Str} : ∀ {binds : List (Str × Value)} {m : Str → Option Value}, (∀ p ∈ binds, p.1 ≠ x) → bindC kd binds m x = m x
  | [], _, _ => rfl
  | (n, v) :: r, m, h => by
    unfold bindC
    rw [bindC_out fun p hp => h p (List.mem_cons_of_mem _ hp)]
    split
    · rfl
    · have : x ≠ n := Ne.symm (h (n, v) List.mem_cons_self)
      simp [this]
theorem zip_names {ps : List Str} {vs : List Value} {x : Str} (h : x ∉ ps) : ∀ p ∈ ps.zip vs, p.1 ≠ x := fun _ hp e => h (e ▸ (List.of_mem_zip hp).1)
theorem bindL_in {kd : Str → Option NameKind} {x : Str} {v : Value} (hk : kd x = some .local) : ∀ {ps : List Str} {vs : List Value} {m : Str → Option Value}, ps.Nodup → (ps.zip vs).lookup x = some v → bindL kd (ps.zip vs) m x = some v
  | [], _, _, _, h => by simp at h
  | _ :: _, [], _, _, h => by simp at h
  | p :: ps, u :: vs, m, hn, h => by
    rw [List.zip_cons_cons] at h ⊢
    rw [List.nodup_cons] at hn
    unfold bindL
    by_cases e : x = p
    · subst e
      rw [lookup_cons_self] at h; cases h
      rw [bindL_out (zip_names hn.1), if_pos hk]
      simp
    · rw [lookup_cons_ne e] at h
      exact bindL_in hk hn.2 h
theorem bindC_in {kd : Str → Option NameKind} {x : Str} {v : Value} (hk : kd x = some .cell) : ∀ {ps : List Str} {vs : List Value} {m : Str → Option Value}, ps.Nodup → (ps.zip vs).lookup x = some v → bindC kd (ps.zip vs) m x = some v
  | [], _, _, _, h => by simp at h
  | _ :: _, [], _, _, h => by simp at h
  | p :: ps, u :: vs, m, hn, h => by
    rw [List.zip_cons_cons] at h ⊢
    rw [List.nodup_cons] at hn
    unfold bindC
    by_cases e : x = p
    · subst e
      rw [lookup_cons_self] at h; cases h
      rw [bindC_out (zip_names hn.1), if_neg (by rw [hk]; simp)]
      simp
    · rw [lookup_cons_ne e] at h
      exact bindC_in hk hn.2 h

noncomputable def fnOk (ps : List Str) (fd : FuncData) : Bool :=
  decide ps.Nodup && (ps.all fun x => storable fd.scope.names x) && (fd.scope.names.all fun y => y.2 != .free) && (fd.scope.names.all fun y => y.2 != .cell || fd.scope.names.lookup y.1 == some .cell) && fd.closure.isEmpty && fd.globals == mainGlobals && fd.builtins == builtinsNs &&
  (!fd.scope.isCoroutine) && (!fd.scope.isGenerator) && (match fd.scope.kind with | .function => true | _ => false)

noncomputable def ownOf' (fd : FuncData) (L : Addr) : List Addr := L :: (cellsFrom (L + 1) fd.scope.names []).filterMap fun p => (cellsFrom (L + 1) fd.scope.names []).lookup p.1

section
variable {prog : Program} {w : World} {h₀ : Heap} {k : Nat} {F M : Str → List D → Option D}

theorem Tp.fresh {h : Heap} (T : Tp h₀ h) {b : Addr} (hb : h.objs.size ≤ b) : h₀.get? b = none := T.gone (by
  cases e : h.get? b with
  | none => rfl
  | some o => exact absurd (Heap.lt_size e) (Nat.not_lt.mpr hb))

theorem fn_facts {fd : FuncData} {ps : List Str} (hf : fnOk ps fd = true) : fd.closure = [] ∧ fd.scope.isCoroutine = false ∧ fd.scope.isGenerator = false ∧ fd.scope.kind = .function ∧
    ∀ n (vs : List Value), ∀ x ∈ ps.zip vs, fd.scope.names.lookup x.1 = some .local ∨ (fd.scope.names.lookup x.1 = some .cell ∧ ((cellsFrom n fd.scope.names []).lookup x.1).isSome = true) := by
  unfold fnOk at hf
  simp only [Bool.and_eq_true] at hf
  obtain ⟨⟨⟨⟨⟨⟨⟨⟨⟨f1, f2⟩, f3⟩, f4⟩, f5⟩, f6⟩, f7⟩, f8⟩, f9⟩, f10⟩ := hf
  have f1 : ps.Nodup := of_decide_eq_true f1
  have f5 : fd.closure = [] := by simpa using f5
  have f6 : fd.globals = mainGlobals := by simpa using f6
  have f7 : fd.builtins = builtinsNs := by simpa using f7
  have f10 : fd.scope.kind = .function := by revert f10; cases fd.scope.kind <;> simp
  have cellk : ∀ n x, fd.scope.names.lookup x = some .cell → ∃ c, (cellsFrom n fd.scope.names []).lookup x = some c := fun n x hx => by
    obtain ⟨c, hc⟩ := cellsFrom_mem fd.scope.names n x (mem_of_lookup hx)
    exact lookup_of_mem hc
  refine ⟨f5, by simpa using f8, by simpa using f9, f10, ?_⟩
  intro n vs x hx
  have := List.all_eq_true.mp f2 x.1 (List.of_mem_zip hx).1
  rcases storable_or this with q | q
  · exact .inl q
  · obtain ⟨c, hc⟩ := cellk n x.1 q
    exact .inr ⟨q, by rw [hc]; rfl⟩

theorem in_frame {W : List Addr} {s s₁ : Shared} {a : Addr} {fd : FuncData} {ps : List Str} {ds : List D} {vs : List Value} (T : Tp h₀ s.heap) (lv : Live W s.heap) (hf : fnOk ps fd = true) (hr : Reps W s.heap ds vs)
    (C : InCallC s (callEnvC fd s.heap.objs.size a).locals (bindL (callEnvC fd s.heap.objs.size a).kindOf (ps.zip vs) fun _ => none) (callEnvC fd s.heap.objs.size a).cells (bindC (callEnvC fd s.heap.objs.size a).kindOf (ps.zip vs) fun _ => none) s₁) :
    Own h₀ (ownOf' fd s.heap.objs.size) (ownOf' fd s.heap.objs.size ++ W) (callEnvC fd s.heap.objs.size a) ∧ FR (ownOf' fd s.heap.objs.size ++ W) fd.scope.names (callEnvC fd s.heap.objs.size a) s₁.heap (ps.zip ds) ∧ Keeps s s₁ ∧ ∀ b ∈ ownOf' fd s.heap.objs.size, s.heap.get? b = none := by
  unfold fnOk at hf
  simp only [Bool.and_eq_true] at hf
  obtain ⟨⟨⟨⟨⟨⟨⟨⟨⟨f1, f2⟩, f3⟩, f4⟩, f5⟩, f6⟩, f7⟩, f8⟩, f9⟩, f10⟩ := hf
  have f1 : ps.Nodup := of_decide_eq_true f1
  have f5 : fd.closure = [] := by simpa using f5
  have f6 : fd.globals = mainGlobals := by simpa using f6
  have f7 : fd.builtins = builtinsNs := by simpa using f7
  have f10 : fd.scope.kind = .function := by revert f10; cases fd.scope.kind <;> simp
  have cellk : ∀ n x, fd.scope.names.lookup x = some .cell → ∃ c, (cellsFrom n fd.scope.names []).lookup x = some c := fun n x hx => by
    obtain ⟨c, hc⟩ := cellsFrom_mem fd.scope.names n x (mem_of_lookup hx)
    exact lookup_of_mem hc
  have look : ∀ x c, (cellsFrom (s.heap.objs.size + 1) fd.scope.names []).lookup x = some c → c ∈ ownOf' fd s.heap.objs.size := fun x c e => by
    unfold ownOf'
    exact List.mem_cons_of_mem _ (List.mem_filterMap.mpr ⟨(x, c), mem_of_lookup e, e⟩)
  have hY : ∀ b ∈ ownOf' fd s.heap.objs.size, s.heap.objs.size ≤ b := fun b hb => by
    unfold ownOf' at hb
    rcases List.mem_cons.mp hb with rfl | hb
    · exact Nat.le_refl _
    · obtain ⟨p, _, hp⟩ := List.mem_filterMap.mp hb
      exact Nat.le_of_lt (C.above p.1 b (mem_of_lookup hp))
  have hYn : ∀ b ∈ ownOf' fd s.heap.objs.size, s.heap.get? b = none := fun b hb => by
    cases e : s.heap.get? b with
    | none => rfl
    | some o => exact absurd (Heap.lt_size e) (Nat.not_lt.mpr (hY b hb))
  obtain ⟨h₁, tk₁, e₁⟩ := C.toInCall.same
  have ke := C.toInCall.keep
  have hks : Keeps s s₁ := ⟨h₁, tk₁, e₁, fun b o e => by have := ke b o e; rw [e₁] at this; exact this⟩
  have hrs : Reps (ownOf' fd s.heap.objs.size ++ W) s₁.heap ds vs := (hr.off (W' := ownOf' fd s.heap.objs.size ++ W) fun b hb => by
    rcases List.mem_append.mp hb with hb | hb
    · exact .inr (hYn b hb)
    · exact .inl hb).mono (KX.of ke)
  refine ⟨⟨?_, ?_, fun b hb => List.mem_append_left _ hb, fun b hb => T.fresh (hY b hb)⟩, ⟨f10, f6, f7, fun x => .inl rfl, ?_, ?_, ?_, ?_, ?_, ?_⟩, hks, hYn⟩
  · show s.heap.objs.size ∈ _
    unfold ownOf'; exact List.mem_cons_self
  · exact fun x c e => look x c e
  · intro x hx
    rcases List.mem_append.mp hx with hx | hx
    · unfold ownOf' at hx
      rcases List.mem_cons.mp hx with rfl | hx
      · obtain ⟨o, _, _, e, _⟩ := C.toInCall.ns; exact ⟨o, e⟩
      · obtain ⟨p, _, hp⟩ := List.mem_filterMap.mp hx
        obtain ⟨o, e, _⟩ := C.cell p.1 x hp
        exact ⟨o, e⟩
    · obtain ⟨o, e⟩ := lv x hx; exact ⟨o, ke x o e⟩
  · show s.heap.objs.size ∈ _
    unfold ownOf'; exact List.mem_append_left _ List.mem_cons_self
  · exact fun x c e => List.mem_append_left _ (look x c e)
  · exact fun x y c hx hy => name_of_addr C.apart (mem_of_lookup hx) (mem_of_lookup hy)
  · intro x hx
    rcases hx with hx | hx
    · obtain ⟨c, hc⟩ := cellk (s.heap.objs.size + 1) x hx
      exact ⟨c, _, hc, C.cell x c hc⟩
    · have := List.all_eq_true.mp f3 (x, .free) (mem_of_lookup hx)
      simp at this
  · refine ⟨_, C.toInCall.ns, fun x d hx => ?_⟩
    obtain ⟨u, hu, ru⟩ := hrs.zip_lookup hx
    have hst : storable fd.scope.names x = true := List.all_eq_true.mp f2 x (List.of_mem_zip (mem_of_lookup hx)).1
    rcases storable_or hst with q | q
    · exact .inl ⟨q, u, bindL_in q f1 hu, ru⟩
    · obtain ⟨c, hc⟩ := cellk (s.heap.objs.size + 1) x q
      have := C.cell x c hc
      rw [show bindC (callEnvC fd s.heap.objs.size a).kindOf (ps.zip vs) (fun _ => none) x = some u from bindC_in q f1 hu] at this
      exact .inr ⟨.inl q, c, u, hc, this, ru⟩

/-- a call of a def: the frame that its body is run in -/
theorem call_frame (B : Base w.params h₀) {A : Around} {W : List Addr} {s : Shared} {a : Addr} {o : Obj} {fd : FuncData} {body : List Stmt} {ps : List Str} {ds : List D} {vs : List Value} {Q E : Value → Shared → Prop}
    (R : Room A (k + 1)) (T : Tp h₀ s.heap) (lv : Live W s.heap) (hK : (K w.params).lookup a = some o) (hd : o.data = .func fd) (hcd : codeIn (K w.params) fd.code fd.qualname = true) (hbody : fd.body = .stmts body) (hf : fnOk ps fd = true)
    (hbind : bindArgs fd ⟨vs, []⟩ = pure (ps.zip vs)) (hr : Reps W s.heap ds vs)
    (h : ∀ Y env h₁ tk₁, Y = ownOf' fd s.heap.objs.size → env = callEnvC fd s.heap.objs.size a → Own h₀ Y (Y ++ W) env → FR (Y ++ W) fd.scope.names env h₁ (ps.zip ds) → (∀ b o, s.heap.get? b = some o → h₁.get? b = some o) → (∀ b ∈ Y, s.heap.get? b = none) →
      wpAny (model prog w) (A.deeper env) (execs body env) (Rq Q) (Le prog w A env E) { s with heap := h₁, toks := tk₁ }) :
    wpAny (model prog w) A (call (.ref a) vs) Q E s := by
  obtain ⟨f5, f8, f9, f10, fk⟩ := fn_facts hf
  have lim : s.heap.NoLimit := by
    obtain ⟨mc, hn, hl⟩ := B.lim
    exact ⟨mc, Base.ns T hn (by decide) (by decide), hl⟩
  exact wpAny_call (codeAny_call_cells (fd := fd) (body := body) (binds := ps.zip vs) (by have := R.dp; omega) ((B.kin T) a o hK) hd lim (codeRec_of (B.kin T) hcd) hbody hbind f5 (fk _ _) (fun s₁ C => let ⟨O, F, kk, n⟩ := in_frame T lv hf hr C; kopen (P := fun s₁ => FR _ fd.scope.names _ s₁.heap (ps.zip ds) → _) kk (fun h₁ tk₁ hk F => h _ _ h₁ tk₁ rfl rfl O F hk n) F) f8 f9 f10)

/-- the contract of a def whose body the evaluator runs -/
theorem fn_call (B : Base w.params h₀) (FO : FnOk prog w h₀ k F) (MO : MtOk prog w h₀ k M) {n : Nat} {a : Addr} {o : Obj} {fd : FuncData} {body : List Stmt} {ps : List Str} {ds : List D} {d : D}
    (hK : (K w.params).lookup a = some o) (hd : o.data = .func fd) (hcd : codeIn (K w.params) fd.code fd.qualname = true) (hbody : fd.body = .stmts body) (hf : fnOk ps fd = true)
    (hbind : ∀ vs : List Value, vs.length = ds.length → bindArgs fd ⟨vs, []⟩ = pure (ps.zip vs))
    (e : pexecs (pexec F M n fd.scope.names) (ps.zip ds) body = some (.ret d)) : CallOk prog w h₀ (k + 1) a ds d := by
  intro A W s vs Q E R T lv hr hq
  refine call_frame (ps := ps) B R T lv hK hd hcd hbody hf (hbind vs hr.length) hr fun Y env h₁ tk₁ hY henv O Fr hk₁ hYn => ?_
  refine exs_sound (s := { s with heap := h₁, toks := tk₁ }) B FO MO (R.deeper env) O Fr (T.keep hk₁) e ?_
  intro v h' tk kx r
  refine hq v _ ⟨h', tk, rfl, fun b o e => kx b o (fun q => by rw [hYn b q] at e; cases e) (hk₁ b o e)⟩ (r.off fun b hb => .inl (List.mem_append_right _ hb))
end
end Mine
end

-- Pur
section
open PySem PySem.W PyProof.Rows PySem.Calls PySem.SeqAt
set_option maxRecDepth 100000
namespace Mine
noncomputable def fdOf (P : Params) (a : Addr) : FuncData := match (K P).lookup a with | some ⟨_, _, .func fd, _⟩ => fd | _ => default
noncomputable def bodyOf (P : Params) (a : Addr) : List Stmt := match (fdOf P a).body with | .stmts b => b | _ => []


section
variable {F M : Str → List D → Option D} {n : Nat} {sc : List (Str × NameKind)} {m : Mp} {p : Pos}
theorem pexec_if {t : Expr} {b o : List Stmt} : pexec F M (n + 1) sc m (.If t b o p) = xIf (ptest F M 40 sc m) (fun b => pexecs (pexec F M n sc) m b) t b o := rfl
theorem pexec_ret {v : Option Expr} : pexec F M (n + 1) sc m (.Return v p) = xRet (pev F M 40 sc m) v := rfl
theorem pexec_asg {x : Str} {q : Pos} {v : Expr} : pexec F M (n + 1) sc m (.Assign [.Name x q] v p) = if storable sc x = true then (pev F M 40 sc m v).bind fun d => some (.next ((x, d) :: m)) else none := rfl
theorem pexec_for {x : Str} {q : Pos} {iter : Expr} {body : List Stmt} : pexec F M (n + 1) sc m (.For (.Name x q) iter body [] p) = if storable sc x = true ∧ notSet iter = true then (psrc (pev F M 40 sc m) sc iter).bind fun ds => if ds.length ≤ bound then pfor (fun m' => pexecs (pexec F M n sc) m' body) x ds m else none else none := rfl
end
section
variable {F M : Str → List D → Option D} {n : Nat} {sc : List (Str × NameKind)} {m : Mp} {r : PF} {rest : List Stmt} {p : Pos}
theorem st_if {t : Expr} {b o : List Stmt} (c : Bool) (ht : ptest F M 40 sc m t = some c) (h : (match pexecs (pexec F M n sc) m (cond c b o) with | some (.next m') => pexecs (pexec F M (n + 1) sc) m' rest | some (.ret v) => some (.ret v) | none => none) = some r) :
    pexecs (pexec F M (n + 1) sc) m (.If t b o p :: rest) = some r := by
  simp only [pexecs, pexec_if, xIf, Option.bind_some, ht]
  cases c <;> exact h
theorem st_ifT {t : Expr} {b o : List Stmt} {q : PF} (ht : ptest F M 40 sc m t = some true) (hb : pexecs (pexec F M n sc) m b = some q) (h : (match q with | .next m' => pexecs (pexec F M (n + 1) sc) m' rest | .ret v => some (.ret v)) = some r) :
    pexecs (pexec F M (n + 1) sc) m (.If t b o p :: rest) = some r := by
  simp only [pexecs, pexec_if, xIf, Option.bind_some, cond_true, ht, hb]
  cases q <;> exact h
theorem st_ifF {t : Expr} {b o : List Stmt} {q : PF} (ht : ptest F M 40 sc m t = some false) (hb : pexecs (pexec F M n sc) m o = some q) (h : (match q with | .next m' => pexecs (pexec F M (n + 1) sc) m' rest | .ret v => some (.ret v)) = some r) :
    pexecs (pexec F M (n + 1) sc) m (.If t b o p :: rest) = some r := by
  simp only [pexecs, pexec_if, xIf, Option.bind_some, cond_false, ht, hb]
  cases q <;> exact h
/-- the test fails, nothing is done -/
theorem st_skip {t : Expr} {b : List Stmt} (ht : ptest F M 40 sc m t = some false) (h : pexecs (pexec F M (n + 1) sc) m rest = some r) : pexecs (pexec F M (n + 1) sc) m (.If t b [] p :: rest) = some r := by
  simp only [pexecs, pexec_if, xIf, Option.bind_some, cond_false, ht]
  exact h
theorem st_asg {x : Str} {px : Pos} {v : Expr} {d : D} (he : pev F M 40 sc m v = some d) (hx : storable sc x = true) (h : pexecs (pexec F M (n + 1) sc) ((x, d) :: m) rest = some r) : pexecs (pexec F M (n + 1) sc) m (.Assign [.Name x px] v p :: rest) = some r := by
  simp only [pexecs, pexec_asg, Option.bind_some, he, hx, if_true]
  exact h
theorem st_ret {e : Expr} {d : D} (he : pev F M 40 sc m e = some d) : pexecs (pexec F M (n + 1) sc) m (.Return (some e) p :: rest) = some (.ret d) := by
  simp only [pexecs, pexec_ret, xRet, Option.bind_some, he]
theorem st_for {x : Str} {px : Pos} {iter : Expr} {body : List Stmt} {ds : List D} {q : PF} (hx : storable sc x = true) (hs : notSet iter = true) (hsrc : psrc (pev F M 40 sc m) sc iter = some ds) (hb : ds.length ≤ bound) (hf : pfor (fun m' => pexecs (pexec F M n sc) m' body) x ds m = some q)
    (h : (match q with | .next m' => pexecs (pexec F M (n + 1) sc) m' rest | .ret v => some (.ret v)) = some r) : pexecs (pexec F M (n + 1) sc) m (.For (.Name x px) iter body [] p :: rest) = some r := by
  simp only [pexecs, pexec_for, Option.bind_some, hx, hs, hsrc, hb, hf, if_true, and_self]
  cases q <;> exact h
end

-- lists of texts and of ints
noncomputable abbrev S (L : List Str) : D := .lst (L.map .str)
noncomputable abbrev Z (L : List Int) : D := .lst (L.map .int)
theorem strsOf_map : ∀ (L : List Str), strsOf (L.map .str) = some L
  | [] => rfl
  | x :: L => by simp [strsOf, strsOf_map L]
theorem strsOf_some : ∀ {ds : List D} {L : List Str}, strsOf ds = some L → ds = L.map .str
  | [], L, h => by simp [strsOf] at h; subst h; rfl
  | d :: ds, L, h => by
    cases d <;> simp only [strsOf] at h <;> try cases h
    rename_i x
    cases hx : strsOf ds with
    | none => rw [hx] at h; cases h
    | some ys => rw [hx] at h; cases h; simp [strsOf_some hx]

theorem all_str (L : List Str) : (L.map D.str).all D.isStr = true := by simp [D.isStr]
theorem all_int (L : List Int) : (L.map D.int).all D.isInt = true := by simp [D.isInt]
theorem in_S (x : Str) (L : List Str) : pcmp .In (.str x) (S L) = some (L.contains x) := by
  show (if (L.map D.str).all D.isStr = true then some ((L.map D.str).any (D.isThat x)) else none) = _
  rw [if_pos (all_str L), List.any_map]
  congr 1
  induction L with
  | nil => rfl
  | cons y L ih => simp only [List.any_cons, ih, Function.comp, D.isThat, List.contains_cons]; rw [BEq.comm]
theorem in_Z (x : Int) (L : List Int) : pcmp .In (.int x) (Z L) = some (L.contains x) := by
  show (if (L.map D.int).all D.isInt = true then some ((L.map D.int).any (D.isNum x)) else none) = _
  rw [if_pos (all_int L), List.any_map]
  congr 1
  induction L with
  | nil => rfl
  | cons y L ih => simp only [List.any_cons, ih, Function.comp, D.isNum, List.contains_cons]; rw [BEq.comm]
theorem notIn_S (x : Str) (L : List Str) : pcmp .NotIn (.str x) (S L) = some (!L.contains x) := by
  have h := in_S x L
  simp only [pcmp] at h ⊢
  rw [h]; rfl
theorem notIn_Z (x : Int) (L : List Int) : pcmp .NotIn (.int x) (Z L) = some (!L.contains x) := by
  have h := in_Z x L
  simp only [pcmp] at h ⊢
  rw [h]; rfl
theorem peqs_S (n : Nat) : ∀ (L M : List Str), L.length = M.length → peqs (peq (n + 1)) (L.map .str) (M.map .str) = some (L == M)
  | [], [], _ => rfl
  | [], _ :: _, h => by simp at h
  | _ :: _, [], h => by simp at h
  | x :: L, y :: M, h => by
    rw [List.map_cons, List.map_cons, peqs, peqs_S n L M (by simpa using h), show peq (n + 1) (.str x) (.str y) = some (x == y) from rfl]
    rfl
theorem peqs_Z (n : Nat) : ∀ (L M : List Int), L.length = M.length → peqs (peq (n + 1)) (L.map .int) (M.map .int) = some (L == M)
  | [], [], _ => rfl
  | [], _ :: _, h => by simp at h
  | _ :: _, [], h => by simp at h
  | x :: L, y :: M, h => by
    rw [List.map_cons, List.map_cons, peqs, peqs_Z n L M (by simpa using h), show peq (n + 1) (.int x) (.int y) = some (x == y) from rfl]
    rfl
theorem peq_S (n : Nat) (L M : List Str) : peq (n + 2) (S L) (S M) = some (L == M) := by
  rw [show peq (n + 2) (S L) (S M) = if (L.map D.str).length = (M.map D.str).length then peqs (peq (n + 1)) (L.map .str) (M.map .str) else some false from rfl, List.length_map, List.length_map]
  split
  · rename_i h; exact peqs_S n L M h
  · rename_i h
    congr 1
    symm
    rw [beq_eq_false_iff_ne]
    exact fun e => h (by rw [e])
theorem peq_Z (n : Nat) (L M : List Int) : peq (n + 2) (Z L) (Z M) = some (L == M) := by
  rw [show peq (n + 2) (Z L) (Z M) = if (L.map D.int).length = (M.map D.int).length then peqs (peq (n + 1)) (L.map .int) (M.map .int) else some false from rfl, List.length_map, List.length_map]
  split
  · rename_i h; exact peqs_Z n L M h
  · rename_i h
    congr 1
    symm
    rw [beq_eq_false_iff_ne]
    exact fun e => h (by rw [e])
theorem eq_S (L M : List Str) : pcmp .Eq (S L) (S M) = some (L == M) := peq_S 6 L M
theorem eq_Z (L M : List Int) : pcmp .Eq (Z L) (Z M) = some (L == M) := peq_Z 6 L M
theorem ne_S (L M : List Str) : pcmp .NotEq (S L) (S M) = some (L != M) := by
  simp only [pcmp]
  rw [peq_S 6]; rfl
theorem ne_Z (L M : List Int) : pcmp .NotEq (Z L) (Z M) = some (L != M) := by
  simp only [pcmp]
  rw [peq_Z 6]; rfl

/-- a comprehension over items that are made from a plain list -/
theorem pcomp_map {α : Type} (f : α → D) (t : D → Option Bool) (e : D → Option D) (q : α → Bool) (g : α → D) : ∀ (L : List α), (∀ x ∈ L, t (f x) = some (q x)) → (∀ x ∈ L, q x = true → e (f x) = some (g x)) → pcomp t e (L.map f) = some ((L.filter q).map g)
  | [], _, _ => rfl
  | x :: L, h1, h2 => by
    have ih := pcomp_map f t e q g L (fun y hy => h1 y (List.mem_cons_of_mem _ hy)) (fun y hy => h2 y (List.mem_cons_of_mem _ hy))
    simp only [List.map_cons, pcomp, h1 x List.mem_cons_self, ih]
    cases hq : q x with
    | true => simp [h2 x List.mem_cons_self hq, hq]
    | false => simp [hq]

-- _law_granted
noncomputable def grantedB (L S W : List Str) : Bool := if L.filter (W.contains ·) != [] then true else L.filter (S.contains ·) == []
theorem at113 (P : Params) : ∃ o, (K P).lookup 113 = some o ∧ o.data = .func (fdOf P 113) := ⟨_, rfl, rfl⟩
theorem bd113 (P : Params) : (fdOf P 113).body = .stmts (bodyOf P 113) := rfl
theorem ok113 (P : Params) : fnOk ["letters", "struck", "wanted"] (fdOf P 113) = true := by kernel_rfl
theorem cd113 (P : Params) : codeIn (K P) (fdOf P 113).code (fdOf P 113).qualname = true := by kernel_rfl
theorem bi113 (P : Params) (vs : List Value) (h : vs.length = 3) : bindArgs (fdOf P 113) ⟨vs, []⟩ = pure ((["letters", "struck", "wanted"] : List Str).zip vs) := by
  obtain ⟨a, b, c, rfl⟩ := len3 h
  kernel_rfl

section
variable {F M : Str → List D → Option D} {n : Nat} {sc : List (Str × NameKind)} {m : Mp} {p : Pos}
theorem t_cmp {l r : Expr} {op : CmpOp} {a b : D} {c : Bool} (hm : behindInMarks op r = false) (hl : pev F M n sc m l = some a) (hr : pev F M n sc m r = some b) (h : pcmp op a b = some c) : ptest F M (n + 1) sc m (.Compare l [op] [r] p) = some c := by
  show (if behindInMarks op r = false then (pev F M n sc m l).bind fun a => (pev F M n sc m r).bind fun b => pcmp op a b else none) = _
  rw [if_pos hm, hl, hr]; exact h
theorem v_cmp {l r : Expr} {op : CmpOp} {a b : D} {c : Bool} (hm : behindInMarks op r = false) (hl : pev F M n sc m l = some a) (hr : pev F M n sc m r = some b) (h : pcmp op a b = some c) : pev F M (n + 1) sc m (.Compare l [op] [r] p) = some (.bool c) := by
  show (if behindInMarks op r = false then (pev F M n sc m l).bind fun a => (pev F M n sc m r).bind fun b => pcmp op a b else none).map D.bool = _
  rw [if_pos hm, hl, hr]
  show (pcmp op a b).map D.bool = _
  rw [h]; rfl
theorem t_not {x : Expr} {c : Bool} (h : ptest F M n sc m x = some c) : ptest F M (n + 1) sc m (.UnaryOp .Not x p) = some (!c) := by
  show (ptest F M n sc m x).bind (fun c => some (!c)) = _
  rw [h]; rfl
theorem t_and {x y : Expr} {c d : Bool} (h : ptest F M n sc m x = some c) (h2 : c = true → ptest F M n sc m y = some d) : ptest F M (n + 1) sc m (.BoolOp .And [x, y] p) = some (c && d) := by
  cases c
  all_goals show (ptest F M n sc m x).bind (fun b => cond b (ptest F M n sc m y) (some false)) = _
  · rw [h]; rfl
  · rw [h]; exact h2 rfl
theorem t_or {x y : Expr} {c d : Bool} (h : ptest F M n sc m x = some c) (h2 : c = false → ptest F M n sc m y = some d) : ptest F M (n + 1) sc m (.BoolOp .Or [x, y] p) = some (c || d) := by
  cases c
  all_goals show (ptest F M n sc m x).bind (fun b => cond b (some true) (ptest F M n sc m y)) = _
  · rw [h]; exact h2 rfl
  · rw [h]; rfl
theorem t_call {f : Expr} {a : List Expr} {k : List Keyword} {c : Bool} (h : pev F M n sc m (.Call f a k p) = some (.bool c)) : ptest F M (n + 1) sc m (.Call f a k p) = some c := by
  show (pev F M n sc m (.Call f a k p)).bind D.gB = _
  rw [h]; rfl
theorem v_fn {f : Str} {q : Pos} {args : List Expr} {ds : List D} {d : D} (hf : sc.lookup f = some .globalImplicit) (hd : f ≠ "__debug__") (hl : f ≠ "len") (hs : args.all noStar = true) (ha : pevs (pev F M n sc m) args = some ds) (h : F f ds = some d) :
    pev F M (n + 1) sc m (.Call (.Name f q) args [] p) = some d := by
  show hFn F _ sc f args = _
  unfold hFn; rw [if_pos ⟨hf, hd, hs⟩, ha]
  show pcallG F f ds = _
  unfold pcallG; rw [if_neg hl]; exact h
theorem v_meth {o : Expr} {name : Str} {apos : Pos} {args : List Expr} {b d : D} {ds : List D} (ho : notSuper o = true) (hs : args.all noStar = true) (hn : args.length < 30) (hp : (apos.endLine == p.line) = true) (hb : pev F M n sc m o = some b) (ha : pevs (pev F M n sc m) args = some ds) (h : pmeth M b name ds = some d) :
    pev F M (n + 1) sc m (.Call (.Attribute o name apos) args [] p) = some d := by
  show hMeth M _ o name apos args p = _
  unfold hMeth; rw [if_pos ⟨ho, hs, hn, hp⟩, hb, ha]; exact h
theorem v_name {x : Str} {d : D} (h : m.lookup x = some d) (h1 : x ≠ "__debug__" ∧ x ≠ "__classdict__") : pev F M (n + 1) sc m (.Name x p) = some d := by
  show hName m x = _
  unfold hName
  rw [if_pos h1]
  exact h
theorem src_of {ev : Expr → Option D} {iter : Expr} {ds : List D} (hn : asRange iter = none) (h : ev iter = some (.lst ds)) : psrc ev sc iter = some ds := by
  unfold psrc; rw [hn, h]; rfl
theorem evs0 {ev : Expr → Option D} : pevs ev [] = some [] := rfl
theorem evs_cons {ev : Expr → Option D} {e : Expr} {r : List Expr} {d : D} {ds : List D} (h : ev e = some d) (h2 : pevs ev r = some ds) : pevs ev (e :: r) = some (d :: ds) := by simp only [pevs, h, h2]
theorem v_comp {α : Type} {elt iter : Expr} {x : Str} {px : Pos} {ifs : List Expr} {scope : Scope} {f : α → D} {L : List α} (q : α → Bool) (g : α → D)
    (hc : blockOk sc scope = true ∧ (scope.names.lookup x = some .local ∨ scope.names.lookup x = some .cell) ∧ notSet iter = true) (hsrc : psrc (pev F M n sc m) sc iter = some (L.map f)) (hL : L.length ≤ bound)
    (h1 : ∀ y ∈ L, ptests (ptest F M n scope.names ((x, f y) :: freeOf scope m)) ifs = some (q y)) (h2 : ∀ y ∈ L, q y = true → pev F M n scope.names ((x, f y) :: freeOf scope m) elt = some (g y)) :
    pev F M (n + 1) sc m (.ListComp elt [⟨.Name x px, iter, ifs, 0⟩] scope p) = some (.lst ((L.filter q).map g)) := by
  have hl : (L.map f).length ≤ bound := by simpa using hL
  show (if blockOk sc scope = true ∧ (scope.names.lookup x = some .local ∨ scope.names.lookup x = some .cell) ∧ notSet iter = true then
    (psrc (pev F M n sc m) sc iter).bind fun ds => if ds.length ≤ bound then (pcomp (fun d => ptests (ptest F M n scope.names ((x, d) :: freeOf scope m)) ifs) (fun d => pev F M n scope.names ((x, d) :: freeOf scope m) elt) ds).bind fun ys => some (D.lst ys) else none
    else none) = _
  rw [if_pos hc, hsrc]
  show (if (L.map f).length ≤ bound then _ else _) = _
  rw [if_pos hl]
  rw [pcomp_map f (fun d => ptests (ptest F M n scope.names ((x, d) :: freeOf scope m)) ifs) (fun d => pev F M n scope.names ((x, d) :: freeOf scope m) elt) q g L h1 h2]
  rfl
end

theorem ex113 (P : Params) (F M : Str → List D → Option D) (L T W : List Str) (hL : L.length ≤ bound) :
    pexecs (pexec F M 10 (fdOf P 113).scope.names) ((["letters", "struck", "wanted"] : List Str).zip [S L, S T, S W]) (bodyOf P 113) = some (.ret (.bool (grantedB L T W))) := by
  refine st_if (L.filter (W.contains ·) != []) (t_cmp rfl (v_comp (L := L) (f := .str) (W.contains ·) .str ⟨by kernel_rfl, .inl (by kernel_rfl), rfl⟩ (by kernel_rfl) hL (fun x _ => Eq.trans (b := pcmp .In (.str x) (S W)) (by kernel_rfl) (in_S x W)) (fun x _ _ => by kernel_rfl)) (by kernel_rfl) (ne_S _ [])) ?_
  unfold grantedB
  cases hb : L.filter (W.contains ·) != [] with
  | true => rfl
  | false =>
    exact st_ret (v_cmp rfl (v_comp (L := L) (f := .str) (T.contains ·) .str ⟨by kernel_rfl, .inl (by kernel_rfl), rfl⟩ (by kernel_rfl) hL (fun x _ => Eq.trans (b := pcmp .In (.str x) (S T)) (by kernel_rfl) (in_S x T)) (fun x _ _ => by kernel_rfl)) (by kernel_rfl) (eq_S _ []))
end Mine
end

-- Pur2
section
open PySem PySem.W PyProof.Rows PySem.Calls PySem.SeqAt
set_option maxRecDepth 100000
namespace Mine

/-- a wish: the struck letter, the wanted ones, the bits, the rest -/
structure Wish where
  struck : Str
  wanted : List Str
  bits : Int
  rest : Int
noncomputable def wishD (u : Wish) : D := .tup [.str u.struck, S u.wanted, .int u.bits, .int u.rest]

-- the first table: _law_granted
noncomputable def F1 (f : Str) (ds : List D) : Option D :=
  if f = "_law_granted" then (match ds with
    | [.lst a, .lst b, .lst c] => (match strsOf a, strsOf b, strsOf c with
      | some L, some T, some W => if L.length ≤ bound then some (.bool (grantedB L T W)) else none
      | _, _, _ => none)
    | _ => none)
  else none
noncomputable def M0 (_ : Str) (_ : List D) : Option D := none
theorem M0_ok {prog : Program} {w : World} {h₀ : Heap} {k : Nat} : MtOk prog w h₀ k M0 := fun _ _ _ h => by cases h
theorem F0_ok {prog : Program} {w : World} {h₀ : Heap} {k : Nat} : FnOk prog w h₀ k M0 := fun _ _ _ h => by cases h
theorem gl113 (P : Params) : nsIn (K P) mainGlobals "_law_granted" = some (some (.ref 113)) := by kernel_rfl
theorem F1_granted (L T W : List Str) (hL : L.length ≤ bound) : F1 "_law_granted" [S L, S T, S W] = some (.bool (grantedB L T W)) := by
  simp [F1, hL, strsOf_map]

theorem granted_call {prog : Program} {w : World} {h₀ : Heap} {k : Nat} (B : Base w.params h₀) {L T W : List Str} (hL : L.length ≤ bound) : CallOk prog w h₀ (k + 1) 113 [S L, S T, S W] (.bool (grantedB L T W)) := by
  obtain ⟨o, h1, h2⟩ := at113 w.params
  exact fn_call (F := M0) (M := M0) B F0_ok M0_ok h1 h2 (cd113 _) (bd113 _) (ok113 _) (fun vs h => bi113 _ vs h) (ex113 _ M0 M0 L T W hL)
theorem F1_ok {prog : Program} {w : World} {h₀ : Heap} {k : Nat} (B : Base w.params h₀) : FnOk prog w h₀ (k + 1) F1 := fun f ds d h => by
  unfold F1 at h
  split at h
  · rename_i hf
    subst hf
    split at h
    · split at h
      · rename_i a b c L T W e1 e2 e3
        split at h
        · rename_i hL
          cases h
          obtain ⟨o, h1, h2⟩ := at113 w.params
          rw [strsOf_some e1, strsOf_some e2, strsOf_some e3]
          exact ⟨113, o, _, gl113 _, h1, h2, granted_call B hL⟩
        · cases h
      · cases h
    · cases h
  · cases h

-- _law_lasting
noncomputable def failingL (ws : List Wish) (L : List Str) : List Str := (ws.filter fun u => !grantedB L [u.struck] u.wanted).map (·.struck)
noncomputable def strikeL (ws : List Wish) (L : List Str) : List Str := L.filter fun x => !(failingL ws L).contains x
noncomputable def lastingL (ws : List Wish) (L : List Str) : List Str := strikeL ws (strikeL ws (strikeL ws L))

theorem at118 (P : Params) : ∃ o, (K P).lookup 118 = some o ∧ o.data = .func (fdOf P 118) := ⟨_, rfl, rfl⟩
theorem bd118 (P : Params) : (fdOf P 118).body = .stmts (bodyOf P 118) := rfl
theorem ok118 (P : Params) : fnOk ["letters", "wishes"] (fdOf P 118) = true := by kernel_rfl
theorem cd118 (P : Params) : codeIn (K P) (fdOf P 118).code (fdOf P 118).qualname = true := by kernel_rfl
theorem bi118 (P : Params) (vs : List Value) (h : vs.length = 2) : bindArgs (fdOf P 118) ⟨vs, []⟩ = pure ((["letters", "wishes"] : List Str).zip vs) := by
  obtain ⟨a, b, rfl⟩ := len2 h
  kernel_rfl
theorem gl118 (P : Params) : nsIn (K P) mainGlobals "_law_lasting" = some (some (.ref 118)) := by kernel_rfl

theorem ts1 {t : Expr → Option Bool} {c : Expr} {b : Bool} (h : t c = some b) : ptests t [c] = some b := h
theorem pfor_next {body : Mp → Option PF} {x : Str} {d : D} {r : List D} {m m' : Mp} {q : PF} (h1 : body ((x, d) :: m) = some (.next m')) (h2 : pfor body x r m' = some q) : pfor body x (d :: r) m = some q := by
  simp only [pfor, h1, h2]
noncomputable def forBody (ss : List Stmt) : List Stmt := (stH ss).2.1
theorem turn118 (P : Params) (M : Str → List D → Option D) (ws : List Wish) (L : List Str) (t : D) (R : Mp) (hR : R.lookup ("wishes" : Str) = some (.lst (ws.map wishD))) (hws : ws.length ≤ bound) (hL : L.length ≤ bound) :
    pexecs (pexec F1 M 9 (fdOf P 118).scope.names) (("turn", t) :: ("left", S L) :: R) (forBody ((bodyOf P 118).drop 1)) = some (.next (("left", S (strikeL ws L)) :: ("failing", S (failingL ws L)) :: ("turn", t) :: ("left", S L) :: R)) := by
  refine st_asg (d := S (failingL ws L)) ?_ (by kernel_rfl) (st_asg (d := S (strikeL ws L)) ?_ (by kernel_rfl) rfl)
  · rw [show S (failingL ws L) = .lst ((ws.filter fun u => !grantedB L [u.struck] u.wanted).map fun u => .str u.struck) by simp [failingL, S, Function.comp]]
    refine v_comp (f := wishD) (L := ws) (fun u => !grantedB L [u.struck] u.wanted) (fun u => .str u.struck) ⟨by kernel_rfl, .inl (by kernel_rfl), rfl⟩ ?_ hws (fun u _ => ?_) (fun u _ _ => by kernel_rfl)
    · exact Eq.trans (b := (R.lookup ("wishes" : Str)).bind D.gL) (by kernel_rfl) (by rw [hR]; rfl)
    · exact ts1 (t_not (t_call (v_fn (ds := [S L, S [u.struck], S u.wanted]) (by kernel_rfl) (by decide) (by decide) rfl (by kernel_rfl) (F1_granted L [u.struck] u.wanted hL))))
  · exact v_comp (f := .str) (L := L) (fun x => !(failingL ws L).contains x) .str ⟨by kernel_rfl, .inl (by kernel_rfl), rfl⟩ (by kernel_rfl) hL
      (fun x _ => Eq.trans (b := pcmp .NotIn (.str x) (S (failingL ws L))) (by kernel_rfl) (notIn_S _ _)) (fun x _ _ => by kernel_rfl)

theorem strike_len (ws : List Wish) (L : List Str) (hL : L.length ≤ bound) : (strikeL ws L).length ≤ bound := Nat.le_trans (List.length_filter_le _ _) hL
theorem ex118 (P : Params) (M : Str → List D → Option D) (ws : List Wish) (L : List Str) (hws : ws.length ≤ bound) (hL : L.length ≤ bound) :
    pexecs (pexec F1 M 10 (fdOf P 118).scope.names) ((["letters", "wishes"] : List Str).zip [S L, .lst (ws.map wishD)]) (bodyOf P 118) = some (.ret (S (lastingL ws L))) := by
  have l1 := strike_len ws L hL
  have l2 := strike_len ws _ l1
  have hf : ∃ R, pfor (fun m' => pexecs (pexec F1 M 9 (fdOf P 118).scope.names) m' (forBody ((bodyOf P 118).drop 1))) "turn" [.int 0, .int 1, .int 2] [("left", S L), ("letters", S L), ("wishes", .lst (ws.map wishD))] = some (.next (("left", S (lastingL ws L)) :: R)) :=
    ⟨_, pfor_next (turn118 P M ws L (.int 0) [("letters", S L), ("wishes", .lst (ws.map wishD))] (by kernel_rfl) hws hL)
      (pfor_next (turn118 P M ws _ (.int 1) _ (by kernel_rfl) hws l1) (pfor_next (turn118 P M ws _ (.int 2) _ (by kernel_rfl) hws l2) rfl))⟩
  obtain ⟨R, hf⟩ := hf
  exact st_asg (d := S L) (by kernel_rfl) (by kernel_rfl) (st_for (ds := [.int 0, .int 1, .int 2]) (by kernel_rfl) rfl (by kernel_rfl) (by decide) hf (st_ret (by kernel_rfl)))

theorem lasting_call {prog : Program} {w : World} {h₀ : Heap} {k : Nat} (B : Base w.params h₀) {ws : List Wish} {L : List Str} (hws : ws.length ≤ bound) (hL : L.length ≤ bound) : CallOk prog w h₀ (k + 2) 118 [S L, .lst (ws.map wishD)] (S (lastingL ws L)) := by
  obtain ⟨o, h1, h2⟩ := at118 w.params
  exact fn_call (k := k + 1) (F := F1) (M := M0) B (F1_ok B) M0_ok h1 h2 (cd118 _) (bd118 _) (ok118 _) (fun vs h => bi118 _ vs h) (ex118 _ M0 ws L hws hL)

theorem v_if {F M : Str → List D → Option D} {n : Nat} {sc : List (Str × NameKind)} {m : Mp} {p : Pos} {t b o : Expr} {d : D} (c : Bool) (ht : ptest F M n sc m t = some c) (hb : c = true → pev F M n sc m b = some d) (ho : c = false → pev F M n sc m o = some d) : pev F M (n + 1) sc m (.IfExp t b o p) = some d := by
  cases c
  all_goals show hIf _ _ t b o = _; unfold hIf; rw [ht]
  · exact ho rfl
  · exact hb rfl
theorem idx_last {ds : List D} {d : D} (h : ds.getLast? = some d) (hb : ds.length ≤ bound) : pidx (.lst ds) (.int (-1)) = some d := by
  have hne : ds ≠ [] := by rintro rfl; simp at h
  have hl : 0 < ds.length := List.length_pos_iff.mpr hne
  show (if ds.length ≤ bound ∧ -(ds.length : Int) ≤ -1 ∧ (-1 : Int) < ds.length then ds[(if (-1 : Int) < 0 then -1 + (ds.length : Int) else -1).toNat]? else none) = some d
  rw [if_pos ⟨hb, by omega, by omega⟩, if_pos (by decide)]
  have : (-1 + (ds.length : Int)).toNat = ds.length - 1 := by omega
  rw [this, ← List.getLast?_eq_getElem?]
  exact h
-- _law_last_told: None or an int
noncomputable def optD : Option Int → D
  | none => .none
  | some i => .int i
noncomputable def lastTold (vs : List (Option Int)) : Option Int := (vs.filter Option.isSome).getLast?.join
theorem at123 (P : Params) : ∃ o, (K P).lookup 123 = some o ∧ o.data = .func (fdOf P 123) := ⟨_, rfl, rfl⟩
theorem bd123 (P : Params) : (fdOf P 123).body = .stmts (bodyOf P 123) := rfl
theorem ok123 (P : Params) : fnOk ["values"] (fdOf P 123) = true := by kernel_rfl
theorem cd123 (P : Params) : codeIn (K P) (fdOf P 123).code (fdOf P 123).qualname = true := by kernel_rfl
theorem bi123 (P : Params) (vs : List Value) (h : vs.length = 1) : bindArgs (fdOf P 123) ⟨vs, []⟩ = pure ((["values"] : List Str).zip vs) := by
  obtain ⟨a, rfl⟩ := len1 h
  kernel_rfl
theorem gl123 (P : Params) : nsIn (K P) mainGlobals "_law_last_told" = some (some (.ref 123)) := by kernel_rfl
theorem ex123 (P : Params) (F M : Str → List D → Option D) (vs : List (Option Int)) (hv : vs.length ≤ bound) :
    pexecs (pexec F M 10 (fdOf P 123).scope.names) ((["values"] : List Str).zip [.lst (vs.map optD)]) (bodyOf P 123) = some (.ret (optD (lastTold vs))) := by
  refine st_asg (d := .lst ((vs.filter Option.isSome).map optD)) ?_ (by kernel_rfl) ?_
  · refine v_comp (f := optD) (L := vs) Option.isSome optD ⟨by kernel_rfl, .inl (by kernel_rfl), rfl⟩ (by kernel_rfl) hv (fun v _ => ?_) (fun v _ _ => by kernel_rfl)
    cases v <;> kernel_rfl
  · cases hs : vs.filter Option.isSome with
    | nil =>
      refine st_ret ?_
      simp only [lastTold, hs]
      kernel_rfl
    | cons x r =>
      have hb : ((x :: r).map optD).length ≤ bound := by
        rw [← hs, List.length_map]; exact Nat.le_trans (List.length_filter_le _ _) hv
      have hl : ∃ i, lastTold vs = some i ∧ ((x :: r).map optD).getLast? = some (.int i) := by
        have hm : (x :: r).getLast (by simp) ∈ vs.filter Option.isSome := by rw [hs]; exact List.getLast_mem _
        obtain ⟨i, hi⟩ := Option.isSome_iff_exists.mp (List.mem_filter.mp hm).2
        refine ⟨i, ?_, ?_⟩
        · simp only [lastTold, hs, List.getLast?_eq_getLast (by simp : (x :: r) ≠ []), hi]; rfl
        · rw [List.getLast?_map, List.getLast?_eq_getLast (by simp : (x :: r) ≠ []), hi]; rfl
      obtain ⟨i, h1, h2⟩ := hl
      rw [h1]
      refine st_ret (v_if true (by kernel_rfl) (fun _ => ?_) (fun h => by cases h))
      exact Eq.trans (b := pidx (.lst ((x :: r).map optD)) (.int (-1))) (by kernel_rfl) (idx_last h2 hb)
theorem told_call {prog : Program} {w : World} {h₀ : Heap} {k : Nat} (B : Base w.params h₀) {vs : List (Option Int)} (hv : vs.length ≤ bound) : CallOk prog w h₀ (k + 1) 123 [.lst (vs.map optD)] (optD (lastTold vs)) := by
  obtain ⟨o, h1, h2⟩ := at123 w.params
  exact fn_call (F := M0) (M := M0) B F0_ok M0_ok h1 h2 (cd123 _) (bd123 _) (ok123 _) (fun vs h => bi123 _ vs h) (ex123 _ M0 M0 vs hv)
end Mine
end

-- Pur3
section
open PySem PySem.W PyProof.Rows PySem.Calls PySem.SeqAt
set_option maxRecDepth 100000
namespace Mine

noncomputable def thn (ss : List Stmt) : List Stmt := (stH ss).2.1
noncomputable def ifTest (ss : List Stmt) : Expr := (stH ss).1
/-- the name ahead of the first '/' -/
noncomputable def head0 (u : Str) : Option Str := if ("/" : Str).length ≠ 0 ∧ u.length ≤ bound ∧ (Builtin.Str.partsBetween u (Builtin.Str.occurrences u ("/" : Str) 0 u.length (u.length + 1)) ("/" : Str).length).length ≤ bound then (Txt.split u "/")[0]? else none
noncomputable def occIn (y x : Str) : Bool := !(Builtin.Str.occurrences x y 0 x.length 1).isEmpty
noncomputable def hitS (x ag : Str) : Bool := !(ag == "*") && occIn (Txt.lower ag) x
/-- does a rule with these agents speak of the name (lower, ahead of '/'; none: None)? -/
noncomputable def appliesB (ags : List Str) : Option Str → Bool
  | none => ags.contains "*"
  | some x => ags.any (hitS x)
noncomputable def fnD : Option Str → D
  | none => .none
  | some u => .str u
/-- what is looked for when u is asked -/
noncomputable def askB : Option Str → Option (Option Str)
  | none => some none
  | some u => match head0 u with | some v => if (Txt.lower v).length ≤ bound then some (some (Txt.lower v)) else none | none => none

theorem at42 (P : Params) : ∃ o, (K P).lookup 42 = some o ∧ o.data = .func (fdOf P 42) := ⟨_, rfl, rfl⟩
theorem bd42 (P : Params) : (fdOf P 42).body = .stmts (bodyOf P 42) := rfl
theorem ok42 (P : Params) : fnOk ["self", "useragent"] (fdOf P 42) = true := by kernel_rfl
theorem cd42 (P : Params) : codeIn (K P) (fdOf P 42).code (fdOf P 42).qualname = true := by kernel_rfl
theorem bi42 (P : Params) (vs : List Value) (h : vs.length = 2) : bindArgs (fdOf P 42) ⟨vs, []⟩ = pure ((["self", "useragent"] : List Str).zip vs) := by
  obtain ⟨a, b, rfl⟩ := len2 h
  kernel_rfl
theorem mt42 (P : Params) : findIn (K P) (.ref 52) "applies_to" = some (some (.ref 42)) := by kernel_rfl
theorem ty42 (P : Params) : typeIn (K P) (.ref 42) = some (.type "function") := by kernel_rfl

theorem lower_ev {F M : Str → List D → Option D} {n : Nat} {sc : List (Str × NameKind)} {m : Mp} {o : Expr} {ap p : Pos} {x : Str} (hs : notSuper o = true) (hp : (ap.endLine == p.line) = true) (h : pev F M n sc m o = some (.str x)) (hl : (Txt.lower x).length ≤ bound) :
    pev F M (n + 1) sc m (.Call (.Attribute o "lower" ap) [] [] p) = some (.str (Txt.lower x)) :=
  v_meth hs rfl (by decide) hp h rfl (by show pStr x "lower" [] = _; unfold pStr; rw [if_neg (by decide), if_neg (fun q => absurd q.1 (by decide)), if_pos ⟨rfl, rfl, hl⟩])
theorem upper_ev {F M : Str → List D → Option D} {n : Nat} {sc : List (Str × NameKind)} {m : Mp} {o : Expr} {ap p : Pos} {x : Str} (hs : notSuper o = true) (hp : (ap.endLine == p.line) = true) (h : pev F M n sc m o = some (.str x)) (hl : (Txt.upper x).length ≤ bound) :
    pev F M (n + 1) sc m (.Call (.Attribute o "upper" ap) [] [] p) = some (.str (Txt.upper x)) :=
  v_meth hs rfl (by decide) hp h rfl (by show pStr x "upper" [] = _; unfold pStr; rw [if_neg (by decide), if_pos ⟨rfl, rfl, hl⟩])

theorem ne_str' (a b : Str) : pcmp .NotEq (.str a) (.str b) = some (!(a == b)) := rfl
theorem turn42 (P : Params) (F M : Str → List D → Option D) (x ag : Str) (m : Mp) (hm : m.lookup ("useragent" : Str) = some (.str x)) (hl : (Txt.lower ag).length ≤ bound) :
    (hitS x ag = true → pexecs (pexec F M 9 (fdOf P 42).scope.names) (("agent", .str ag) :: m) (forBody ((bodyOf P 42).drop 2)) = some (.ret (.bool true))) ∧
    (hitS x ag = false → ∃ m', pexecs (pexec F M 9 (fdOf P 42).scope.names) (("agent", .str ag) :: m) (forBody ((bodyOf P 42).drop 2)) = some (.next m') ∧ m'.lookup ("useragent" : Str) = some (.str x)) := by
  have nu : ∀ d, (("agent", d) :: m : Mp).lookup ("useragent" : Str) = some (.str x) := fun d => by rw [lookup_cons_ne (by decide)]; exact hm
  have nu2 : ∀ d d', (("agent", d) :: ("agent", d') :: m : Mp).lookup ("useragent" : Str) = some (.str x) := fun d d' => by rw [lookup_cons_ne (by decide)]; exact nu d'
  unfold hitS
  cases hs : ag == "*" with
  | true =>
    refine ⟨fun h => by simp at h, fun _ => ⟨_, st_skip (t_cmp rfl (by kernel_rfl) (by kernel_rfl) ((ne_str' ag "*").trans (by rw [hs]; rfl))) rfl, nu _⟩⟩
  | false =>
    have inner : ∀ c, occIn (Txt.lower ag) x = c → ptest F M 40 (fdOf P 42).scope.names (("agent", .str (Txt.lower ag)) :: ("agent", .str ag) :: m) (ifTest ((thn (forBody ((bodyOf P 42).drop 2))).drop 1)) = some c := fun c hc =>
      t_cmp (a := .str (Txt.lower ag)) (b := .str x) rfl (by kernel_rfl) (Eq.trans (b := (("agent", .str (Txt.lower ag)) :: ("agent", .str ag) :: m : Mp).lookup ("useragent" : Str)) (by kernel_rfl) (nu2 _ _)) (by rw [← hc]; rfl)
    constructor
    · intro h
      refine st_ifT (q := .ret (.bool true)) (t_cmp rfl (by kernel_rfl) (by kernel_rfl) ((ne_str' ag "*").trans (by rw [hs]; rfl))) ?_ rfl
      exact st_asg (lower_ev rfl (by kernel_rfl) (by kernel_rfl) hl) (by kernel_rfl) (st_ifT (q := .ret (.bool true)) (inner true (by simpa using h)) (st_ret (by kernel_rfl)) rfl)
    · intro h
      refine ⟨_, st_ifT (q := .next _) (t_cmp rfl (by kernel_rfl) (by kernel_rfl) ((ne_str' ag "*").trans (by rw [hs]; rfl))) ?_ rfl, nu2 (.str (Txt.lower ag)) (.str ag)⟩
      exact st_asg (lower_ev rfl (by kernel_rfl) (by kernel_rfl) hl) (by kernel_rfl) (st_skip (inner false (by simpa using h)) rfl)
theorem loop42 (P : Params) (F M : Str → List D → Option D) (x : Str) : ∀ (ags : List Str) (m : Mp), m.lookup ("useragent" : Str) = some (.str x) → (∀ ag ∈ ags, (Txt.lower ag).length ≤ bound) →
    (ags.any (hitS x) = true → pfor (fun m' => pexecs (pexec F M 9 (fdOf P 42).scope.names) m' (forBody ((bodyOf P 42).drop 2))) "agent" (ags.map .str) m = some (.ret (.bool true))) ∧
    (ags.any (hitS x) = false → ∃ m', pfor (fun m' => pexecs (pexec F M 9 (fdOf P 42).scope.names) m' (forBody ((bodyOf P 42).drop 2))) "agent" (ags.map .str) m = some (.next m'))
  | [], m, _, _ => ⟨fun h => by simp at h, fun _ => ⟨m, rfl⟩⟩
  | ag :: ags, m, hm, hl => by
    obtain ⟨t1, t2⟩ := turn42 P F M x ag m hm (hl ag List.mem_cons_self)
    rw [List.any_cons, List.map_cons]
    cases hh : hitS x ag with
    | true =>
      refine ⟨fun _ => ?_, fun h => by simp at h⟩
      simp only [pfor, t1 hh]
    | false =>
      obtain ⟨m', e, hm'⟩ := t2 hh
      obtain ⟨i1, i2⟩ := loop42 P F M x ags m' hm' fun a ha => hl a (List.mem_cons_of_mem _ ha)
      refine ⟨fun h => pfor_next e (i1 (by simpa using h)), fun h => ?_⟩
      obtain ⟨m'', e'⟩ := i2 (by simpa using h)
      exact ⟨m'', pfor_next e e'⟩
theorem ex42 (P : Params) (F M : Str → List D → Option D) {a : Addr} {ns : List Str} {fs : List D} {ags : List Str} {u q : Option Str} (hu : (ns.zip fs).lookup ("useragents" : Str) = some (S ags)) (hq : askB u = some q) (hn : ags.length ≤ bound) (hl : ∀ ag ∈ ags, (Txt.lower ag).length ≤ bound) :
    pexecs (pexec F M 10 (fdOf P 42).scope.names) ((["self", "useragent"] : List Str).zip [.ent a ns fs, fnD u]) (bodyOf P 42) = some (.ret (.bool (appliesB ags q))) := by
  have hself : pattr (.ent a ns fs) "useragents" = some (S ags) := by simp only [pattr]; rw [if_pos (by decide), hu]; rfl
  cases u with
  | none =>
    simp only [askB] at hq
    cases hq
    refine st_ifT (q := .ret (.bool (ags.contains "*"))) (t_cmp (a := .none) (b := .none) rfl (by kernel_rfl) (by kernel_rfl) (by kernel_rfl)) ?_ rfl
    exact st_ret (v_cmp rfl (by kernel_rfl) (Eq.trans (b := pattr (.ent a ns fs) "useragents") (by kernel_rfl) hself) (in_S "*" ags))
  | some u =>
    simp only [askB] at hq
    split at hq
    · rename_i v hv
      split at hq
      · rename_i hlv
        cases hq
        refine st_skip (t_cmp (a := .str u) (b := .none) rfl (by kernel_rfl) (by kernel_rfl) (by kernel_rfl)) (st_asg (d := .str (Txt.lower v)) ?_ (by kernel_rfl) ?_)
        · refine lower_ev rfl (by kernel_rfl) ?_ hlv
          unfold head0 at hv
          split at hv
          · rename_i hc
            exact Eq.trans (b := if (0 : Int) = 0 ∧ ("/" : Str).length ≠ 0 ∧ u.length ≤ bound ∧ (Builtin.Str.partsBetween u (Builtin.Str.occurrences u ("/" : Str) 0 u.length (u.length + 1)) ("/" : Str).length).length ≤ bound then (Txt.split u "/")[0]?.map .str else none) (by kernel_rfl) (by rw [if_pos ⟨rfl, hc⟩, hv]; rfl)
          · cases hv
        · have hsrc : ∀ m : Mp, (pattr (.ent a ns fs) "useragents").bind D.gL = some (ags.map D.str) := fun _ => by rw [hself]; rfl
          obtain ⟨l1, l2⟩ := loop42 P F M (Txt.lower v) ags [("useragent", .str (Txt.lower v)), ("self", .ent a ns fs), ("useragent", .str u)] rfl hl
          show _ = some (PF.ret (.bool (ags.any (hitS (Txt.lower v)))))
          cases hany : ags.any (hitS (Txt.lower v)) with
          | true => exact st_for (ds := ags.map .str) (by kernel_rfl) rfl (Eq.trans (by kernel_rfl) (hsrc [])) (by simpa using hn) (l1 hany) rfl
          | false =>
            obtain ⟨m', e⟩ := l2 hany
            exact st_for (ds := ags.map .str) (by kernel_rfl) rfl (Eq.trans (by kernel_rfl) (hsrc [])) (by simpa using hn) e (st_ret (by kernel_rfl))
      · cases hq
    · cases hq
end Mine
end

-- Pur4
section
open PySem PySem.W PyProof.Rows PySem.Calls PySem.SeqAt
set_option maxRecDepth 100000
namespace Mine

noncomputable def agsOk (ags : List Str) : Prop := ags.length ≤ bound ∧ ∀ ag ∈ ags, (Txt.lower ag).length ≤ bound
noncomputable def agsOkB (ags : List Str) : Bool := decide (ags.length ≤ bound) && ags.all fun ag => decide ((Txt.lower ag).length ≤ bound)
theorem agsOkB_iff {ags : List Str} : agsOkB ags = true ↔ agsOk ags := by simp [agsOkB, agsOk]
noncomputable def M1 (f : Str) (ds : List D) : Option D :=
  if f = "applies_to" then (match ds with
    | [.ent _ ns fs, x] => (match (ns.zip fs).lookup ("useragents" : Str) with
      | some (.lst l) => (match strsOf l with
        | some ags => if agsOkB ags = true then (match x with
            | .none => some (.bool (appliesB ags none))
            | .str u => (match askB (some u) with | some q => some (.bool (appliesB ags q)) | none => none)
            | _ => none) else none
        | none => none)
      | _ => none)
    | _ => none)
  else none
theorem M1_ok {prog : Program} {w : World} {h₀ : Heap} {k : Nat} (B : Base w.params h₀) : MtOk prog w h₀ (k + 1) M1 := fun f ds d h => by
  unfold M1 at h
  split at h
  · rename_i hf
    subst hf
    obtain ⟨o, h1, h2⟩ := at42 w.params
    split at h
    · rename_i a ns fs x
      split at h
      · rename_i l hl
        split at h
        · rename_i ags hs
          split at h
          · rename_i hok
            rw [agsOkB_iff] at hok
            rw [strsOf_some hs] at hl
            split at h
            · cases h
              exact ⟨42, o, _, mt42 _, h1, h2, ty42 _, fn_call (F := M0) (M := M0) B F0_ok M0_ok h1 h2 (cd42 _) (bd42 _) (ok42 _) (fun vs h => bi42 _ vs h) (ex42 _ M0 M0 (u := none) hl rfl hok.1 hok.2)⟩
            · rename_i u
              split at h
              · rename_i q hq
                cases h
                exact ⟨42, o, _, mt42 _, h1, h2, ty42 _, fn_call (F := M0) (M := M0) B F0_ok M0_ok h1 h2 (cd42 _) (bd42 _) (ok42 _) (fun vs h => bi42 _ vs h) (ex42 _ M0 M0 (u := some u) hl hq hok.1 hok.2)⟩
              · cases h
            · cases h
          · cases h
        · cases h
      · cases h
    · cases h
  · cases h

/-- a rule: an Entry with agents and a verdict -/
structure Rule where
  a : Addr
  agents : List Str
  verdict : Bool
noncomputable def ruleNs : List Str := ["useragents", "rulelines", "delay", "req_rate", "allowance"]
noncomputable def ruleD (r : Rule) : D := .ent r.a ruleNs [S r.agents, .lst [], .none, .none, .bool r.verdict]
theorem M1_rule {r : Rule} {u q : Option Str} (hr : agsOk r.agents) (hq : askB u = some q) : M1 "applies_to" [ruleD r, fnD u] = some (.bool (appliesB r.agents q)) := by
  have e : (ruleNs.zip [S r.agents, .lst [], .none, .none, .bool r.verdict]).lookup ("useragents" : Str) = some (S r.agents) := rfl
  rw [← agsOkB_iff] at hr
  cases u with
  | none =>
    simp only [askB] at hq; cases hq
    simp only [M1, ruleD, fnD, e, strsOf_map, hr, if_true]
  | some u =>
    simp only [M1, ruleD, fnD, e, strsOf_map, hr, if_true, hq]

noncomputable def allowB (rs : List Rule) (q : Option Str) : Bool := (rs.filter fun r => appliesB r.agents q).isEmpty || (rs.filter fun r => appliesB r.agents q).any (·.verdict)
/-- the loop's state: has a rule spoken, and what is the word so far -/
noncomputable def stepA (q : Option Str) (st : Bool × Bool) (r : Rule) : Bool × Bool := if appliesB r.agents q then (true, if st.1 then st.2 || r.verdict else r.verdict) else st
theorem fold_allow (q : Option Str) : ∀ (rs : List Rule) (seen al : Bool), (rs.foldl (stepA q) (seen, al)).2 = if seen then al || (rs.filter fun r => appliesB r.agents q).any (·.verdict) else if (rs.filter fun r => appliesB r.agents q).isEmpty then al else (rs.filter fun r => appliesB r.agents q).any (·.verdict)
  | [], seen, al => by cases seen <;> simp
  | r :: rs, seen, al => by
    rw [List.foldl_cons]
    unfold stepA
    cases ha : appliesB r.agents q with
    | false =>
      simp only [Bool.false_eq_true, if_false, List.filter_cons, ha]
      exact fold_allow q rs seen al
    | true =>
      simp only [if_true, List.filter_cons, ha, List.any_cons, List.isEmpty_cons, Bool.false_eq_true, if_false]
      rw [show (rs.foldl (fun st r => if appliesB r.agents q = true then (true, if st.1 = true then st.2 || r.verdict else r.verdict) else st) (true, if seen = true then al || r.verdict else r.verdict)) = rs.foldl (stepA q) (true, if seen = true then al || r.verdict else r.verdict) from rfl, fold_allow q rs true]
      cases seen <;> simp [Bool.or_assoc]
theorem allow_fold (q : Option Str) (rs : List Rule) : (rs.foldl (stepA q) (false, true)).2 = allowB rs q := by
  rw [fold_allow]
  unfold allowB
  cases (rs.filter fun r => appliesB r.agents q).isEmpty <;> simp

theorem at49 (P : Params) : ∃ o, (K P).lookup 49 = some o ∧ o.data = .func (fdOf P 49) := ⟨_, rfl, rfl⟩
theorem bd49 (P : Params) : (fdOf P 49).body = .stmts (bodyOf P 49) := rfl
theorem ok49 (P : Params) : fnOk ["self", "filename"] (fdOf P 49) = true := by kernel_rfl
theorem cd49 (P : Params) : codeIn (K P) (fdOf P 49).code (fdOf P 49).qualname = true := by kernel_rfl
theorem bi49 (P : Params) (vs : List Value) (h : vs.length = 2) : bindArgs (fdOf P 49) ⟨vs, []⟩ = pure ((["self", "filename"] : List Str).zip vs) := by
  obtain ⟨a, b, rfl⟩ := len2 h
  kernel_rfl
theorem mt49 (P : Params) : findIn (K P) (.ref 52) "allowance" = some (some (.ref 49)) := by kernel_rfl
theorem ty49 (P : Params) : typeIn (K P) (.ref 49) = some (.type "function") := by kernel_rfl

noncomputable def asgVal (ss : List Stmt) : Expr := (stH ss).1
noncomputable def els (ss : List Stmt) : List Stmt := (stH ss).2.2.1
noncomputable def bstD (seen : Bool) : D := if seen then .bool true else .int (-1)
structure St49 (m : Mp) (u : Option Str) (st : Bool × Bool) : Prop where
  f : m.lookup ("filename" : Str) = some (fnD u)
  b : m.lookup ("best_match" : Str) = some (bstD st.1)
  a : m.lookup ("allowance" : Str) = some (.bool st.2)
theorem ptest_name {F M : Str → List D → Option D} {n : Nat} {sc : List (Str × NameKind)} {m : Mp} {x : Str} {p : Pos} {c : Bool} (h : pev F M n sc m (.Name x p) = some (.bool c)) : ptest F M (n + 1) sc m (.Name x p) = some c := by
  show (pev F M n sc m (.Name x p)).bind D.gB = _
  rw [h]; rfl
theorem turn49 (P : Params) (F : Str → List D → Option D) {r : Rule} {u q : Option Str} {m : Mp} {st : Bool × Bool} (hr : agsOk r.agents) (hq : askB u = some q) (s : St49 m u st) :
    ∃ m', pexecs (pexec F M1 9 (fdOf P 49).scope.names) (("line", ruleD r) :: m) (forBody ((bodyOf P 49).drop 2)) = some (.next m') ∧ St49 m' u (stepA q st r) := by
  obtain ⟨seen, al⟩ := st
  have nf : (("line", ruleD r) :: m : Mp).lookup ("filename" : Str) = some (fnD u) := by rw [lookup_cons_ne (by decide)]; exact s.f
  have hm : pev F M1 40 (fdOf P 49).scope.names (("line", ruleD r) :: m) (asgVal (forBody ((bodyOf P 49).drop 2))) = some (.bool (appliesB r.agents q)) :=
    v_meth rfl rfl (by decide) (by kernel_rfl) (b := ruleD r) (ds := [fnD u]) (by kernel_rfl) (evs_cons (v_name nf (by decide)) evs0) (by
      simp only [pmeth, ruleD]
      rw [if_pos (by decide)]
      exact M1_rule hr hq)
  unfold stepA
  cases ha : appliesB r.agents q with
  | false =>
    rw [ha] at hm
    refine ⟨("m", .bool false) :: ("line", ruleD r) :: m, st_asg hm (by kernel_rfl) (st_skip (ptest_name (by kernel_rfl)) rfl), ⟨?_, ?_, ?_⟩⟩
    · rw [lookup_cons_ne (by decide)]; exact nf
    · rw [lookup_cons_ne (by decide), lookup_cons_ne (by decide)]; exact s.b
    · rw [lookup_cons_ne (by decide), lookup_cons_ne (by decide)]; exact s.a
  | true =>
    rw [ha] at hm
    have nb : (("m", .bool true) :: ("line", ruleD r) :: m : Mp).lookup ("best_match" : Str) = some (bstD seen) := by rw [lookup_cons_ne (by decide), lookup_cons_ne (by decide)]; exact s.b
    have na : (("m", .bool true) :: ("line", ruleD r) :: m : Mp).lookup ("allowance" : Str) = some (.bool al) := by rw [lookup_cons_ne (by decide), lookup_cons_ne (by decide)]; exact s.a
    have nf' : (("m", .bool true) :: ("line", ruleD r) :: m : Mp).lookup ("filename" : Str) = some (fnD u) := by rw [lookup_cons_ne (by decide)]; exact nf
    cases seen with
    | false =>
      refine ⟨("allowance", .bool r.verdict) :: ("best_match", .bool true) :: ("m", .bool true) :: ("line", ruleD r) :: m, st_asg hm (by kernel_rfl) (st_ifT (q := .next (("allowance", .bool r.verdict) :: ("best_match", .bool true) :: ("m", .bool true) :: ("line", ruleD r) :: m)) (ptest_name (by kernel_rfl)) (st_ifT (q := .next (("allowance", .bool r.verdict) :: ("best_match", .bool true) :: ("m", .bool true) :: ("line", ruleD r) :: m)) (t_cmp (a := .bool true) (b := bstD false) rfl (by kernel_rfl) (v_name nb (by decide)) (by kernel_rfl))
        (st_asg (d := .bool true) (by kernel_rfl) (by kernel_rfl) (st_asg (d := .bool r.verdict) (by kernel_rfl) (by kernel_rfl) rfl)) rfl) rfl), ⟨?_, ?_, ?_⟩⟩
      · rw [lookup_cons_ne (by decide), lookup_cons_ne (by decide)]; exact nf'
      · rw [lookup_cons_ne (by decide), lookup_cons_self]; rfl
      · rw [lookup_cons_self]; rfl
    | true =>
      have tgt : ptest F M1 40 (fdOf P 49).scope.names (("m", .bool true) :: ("line", ruleD r) :: m) (ifTest (thn ((forBody ((bodyOf P 49).drop 2)).drop 1))) = some false :=
        t_cmp (a := .bool true) (b := bstD true) rfl (by kernel_rfl) (v_name nb (by decide)) (by kernel_rfl)
      have tand : ptest F M1 40 (fdOf P 49).scope.names (("m", .bool true) :: ("line", ruleD r) :: m) (ifTest (els (thn ((forBody ((bodyOf P 49).drop 2)).drop 1)))) = some (true && !al) :=
        t_and (t_cmp (a := .bool true) (b := bstD true) rfl (by kernel_rfl) (v_name nb (by decide)) (by kernel_rfl)) (fun _ => t_not (ptest_name (v_name na (by decide))))
      cases al with
      | true =>
        refine ⟨("m", .bool true) :: ("line", ruleD r) :: m, st_asg hm (by kernel_rfl) (st_ifT (q := .next (("m", .bool true) :: ("line", ruleD r) :: m)) (ptest_name (by kernel_rfl)) (st_ifF (q := .next (("m", .bool true) :: ("line", ruleD r) :: m)) tgt (st_skip tand rfl) rfl) rfl), ⟨nf', nb, na⟩⟩
      | false =>
        refine ⟨("allowance", .bool r.verdict) :: ("m", .bool true) :: ("line", ruleD r) :: m, st_asg hm (by kernel_rfl) (st_ifT (q := .next (("allowance", .bool r.verdict) :: ("m", .bool true) :: ("line", ruleD r) :: m)) (ptest_name (by kernel_rfl))
          (st_ifF (q := .next (("allowance", .bool r.verdict) :: ("m", .bool true) :: ("line", ruleD r) :: m)) tgt (st_ifT (q := .next (("allowance", .bool r.verdict) :: ("m", .bool true) :: ("line", ruleD r) :: m)) tand (st_asg (d := .bool r.verdict) (by kernel_rfl) (by kernel_rfl) rfl) rfl) rfl) rfl), ⟨?_, ?_, ?_⟩⟩
        · rw [lookup_cons_ne (by decide)]; exact nf'
        · rw [lookup_cons_ne (by decide)]; exact nb
        · rw [lookup_cons_self]; simp

theorem loop49 (P : Params) (F : Str → List D → Option D) {u q : Option Str} (hq : askB u = some q) : ∀ (rs : List Rule) (m : Mp) (st : Bool × Bool), (∀ r ∈ rs, agsOk r.agents) → St49 m u st →
    ∃ m', pfor (fun m' => pexecs (pexec F M1 9 (fdOf P 49).scope.names) m' (forBody ((bodyOf P 49).drop 2))) "line" (rs.map ruleD) m = some (.next m') ∧ St49 m' u (rs.foldl (stepA q) st)
  | [], m, st, _, s => ⟨m, rfl, s⟩
  | r :: rs, m, st, hr, s => by
    obtain ⟨m', e, s'⟩ := turn49 P F (hr r List.mem_cons_self) hq s
    obtain ⟨m'', e', s''⟩ := loop49 P F hq rs m' _ (fun x hx => hr x (List.mem_cons_of_mem _ hx)) s'
    exact ⟨m'', pfor_next e e', s''⟩
theorem ex49 (P : Params) (F : Str → List D → Option D) {a : Addr} {ns : List Str} {fs : List D} {rs : List Rule} {u q : Option Str} (hu : (ns.zip fs).lookup ("rulelines" : Str) = some (.lst (rs.map ruleD))) (hq : askB u = some q) (hn : rs.length ≤ bound) (hl : ∀ r ∈ rs, agsOk r.agents) :
    pexecs (pexec F M1 10 (fdOf P 49).scope.names) ((["self", "filename"] : List Str).zip [.ent a ns fs, fnD u]) (bodyOf P 49) = some (.ret (.bool (allowB rs q))) := by
  have hself : pattr (.ent a ns fs) "rulelines" = some (.lst (rs.map ruleD)) := by simp only [pattr]; rw [if_pos (by decide), hu]; rfl
  obtain ⟨m', e, s'⟩ := loop49 P F hq rs [("allowance", .bool true), ("best_match", .int (-1)), ("self", .ent a ns fs), ("filename", fnD u)] (false, true) hl ⟨rfl, rfl, rfl⟩
  refine st_asg (d := .int (-1)) (by kernel_rfl) (by kernel_rfl) (st_asg (d := .bool true) (by kernel_rfl) (by kernel_rfl) (st_for (ds := rs.map ruleD) (by kernel_rfl) rfl (Eq.trans (b := (pattr (.ent a ns fs) "rulelines").bind D.gL) (by kernel_rfl) (by rw [hself]; rfl)) (by simpa using hn) e ?_))
  refine st_ret (v_name ?_ (by decide))
  rw [s'.a, allow_fold]

/-- the methods: applies_to of a rule, allowance of a record -/
noncomputable def ruleOf (d : D) : Option Rule := match d with
  | .ent a ns fs => (match fs with
    | [f1, f2, f3, f4, f5] => (match f1 with
      | .lst l => (match f2 with
        | .lst e => (match f3 with
          | .none => (match f4 with
            | .none => (match f5 with
              | .bool v => if ns = ruleNs ∧ e.isEmpty = true then (match strsOf l with | some ags => some ⟨a, ags, v⟩ | none => none) else none
              | _ => none)
            | _ => none)
          | _ => none)
        | _ => none)
      | _ => none)
    | _ => none)
  | _ => none
noncomputable def rulesOf : List D → Option (List Rule)
  | [] => some []
  | d :: r => match ruleOf d, rulesOf r with | some x, some xs => some (x :: xs) | _, _ => none
theorem ruleOf_D (r : Rule) : ruleOf (ruleD r) = some r := by simp [ruleOf, ruleD, strsOf_map]
theorem rulesOf_D : ∀ (rs : List Rule), rulesOf (rs.map ruleD) = some rs
  | [] => rfl
  | r :: rs => by simp [rulesOf, ruleOf_D, rulesOf_D rs]
theorem ruleOf_some {d : D} {r : Rule} (h : ruleOf d = some r) : d = ruleD r := by
  unfold ruleOf at h
  repeat' (split at h)
  all_goals try (cases h)
  rename_i e _ _ hn _ ags hs
  rw [hn.1, strsOf_some hs, List.isEmpty_iff.mp hn.2]; rfl
theorem rulesOf_some : ∀ {ds : List D} {rs : List Rule}, rulesOf ds = some rs → ds = rs.map ruleD
  | [], rs, h => by simp [rulesOf] at h; subst h; rfl
  | d :: ds, rs, h => by
    simp only [rulesOf] at h
    split at h
    · rename_i x xs h1 h2
      cases h
      rw [ruleOf_some h1, rulesOf_some h2]; rfl
    · cases h
noncomputable def rsOk (rs : List Rule) : Prop := rs.length ≤ bound ∧ ∀ r ∈ rs, agsOk r.agents
noncomputable def rsOkB (rs : List Rule) : Bool := decide (rs.length ≤ bound) && rs.all fun r => agsOkB r.agents
theorem rsOkB_iff {rs : List Rule} : rsOkB rs = true ↔ rsOk rs := by simp [rsOkB, rsOk, agsOkB_iff]
noncomputable def M2 (f : Str) (ds : List D) : Option D :=
  if f = "allowance" then (match ds with
    | [.ent _ ns fs, x] => (match (ns.zip fs).lookup ("rulelines" : Str) with
      | some (.lst l) => (match rulesOf l with
        | some rs => if rsOkB rs = true then (match x with
            | .none => some (.bool (allowB rs none))
            | .str u => (match askB (some u) with | some q => some (.bool (allowB rs q)) | none => none)
            | _ => none) else none
        | none => none)
      | _ => none)
    | _ => none)
  else none
theorem M2_ok {prog : Program} {w : World} {h₀ : Heap} {k : Nat} (B : Base w.params h₀) : MtOk prog w h₀ (k + 2) M2 := fun f ds d h => by
  unfold M2 at h
  split at h
  · rename_i hf
    subst hf
    obtain ⟨o, h1, h2⟩ := at49 w.params
    split at h
    · rename_i a ns fs x
      split at h
      · rename_i l hl
        split at h
        · rename_i ags hs
          split at h
          · rename_i hok
            rw [rsOkB_iff] at hok
            rw [rulesOf_some hs] at hl
            split at h
            · cases h
              exact ⟨49, o, _, mt49 _, h1, h2, ty49 _, fn_call (k := k + 1) (F := M0) (M := M1) B F0_ok (M1_ok B) h1 h2 (cd49 _) (bd49 _) (ok49 _) (fun vs h => bi49 _ vs h) (ex49 _ M0 (u := none) hl rfl hok.1 hok.2)⟩
            · rename_i u
              split at h
              · rename_i q hq
                cases h
                exact ⟨49, o, _, mt49 _, h1, h2, ty49 _, fn_call (k := k + 1) (F := M0) (M := M1) B F0_ok (M1_ok B) h1 h2 (cd49 _) (bd49 _) (ok49 _) (fun vs h => bi49 _ vs h) (ex49 _ M0 (u := some u) hl hq hok.1 hok.2)⟩
              · cases h
            · cases h
          · cases h
        · cases h
      · cases h
    · cases h
  · cases h
end Mine
end

-- Ent
section
open PySem PySem.W PyProof.Rows PySem.Calls PySem.SeqAt
set_option maxRecDepth 100000
namespace Mine

/-- an Entry under construction -/
structure EntAt (h : Heap) (a dx : Addr) (ns : List Str) (us : List Value) : Prop where
  inst : ∃ o, h.get? a = some o ∧ o.cls = .ref 52 ∧ (∀ c, o.data ≠ .cls c) ∧ o.dict = some dx
  ne : dx ≠ a
  dict : h.Ns1 dx (fun x => (ns.zip us).lookup x)
theorem EntAt.mono {h h' : Heap} {a dx : Addr} {ns : List Str} {us : List Value} {X : List Addr} (e : EntAt h a dx ns us) (kx : KX X h h') (ha : a ∉ X) (hd : dx ∉ X) : EntAt h' a dx ns us := by
  obtain ⟨o, h1, h2⟩ := e.inst
  exact ⟨⟨o, kx a o ha h1, h2⟩, e.ne, e.dict.at fun o e => kx dx o hd e⟩
theorem EntAt.cast {h : Heap} {a dx : Addr} {ns ns' : List Str} {us us' : List Value} (e : EntAt h a dx ns us) (hl : ∀ x, (ns.zip us).lookup x = (ns'.zip us').lookup x) : EntAt h a dx ns' us' := by
  refine ⟨e.inst, e.ne, ?_⟩
  have : (fun x => (ns'.zip us').lookup x) = fun x => (ns.zip us).lookup x := funext fun x => (hl x).symm
  rw [this]; exact e.dict
/-- it is done: a datum -/
theorem EntAt.rep {h : Heap} {a dx : Addr} {ns : List Str} {us : List Value} {W : List Addr} {ds : List D} (e : EntAt h a dx ns us) (ha : a ∉ W) (hd : dx ∉ W) (r : Reps W h ds us) : Rep W h (.ent a ns ds) (.ref a) := by
  simp only [Rep]
  obtain ⟨o, h1, h2, h3, h4⟩ := e.inst
  exact ⟨trivial, ha, o, dx, us, h1, h2, h3, h4, e.ne, hd, e.dict, r⟩

section
variable {prog : Program} {w : World} {A : Around} {s : Shared} {h₀ : Heap}
theorem taker_none (P : Params) (name : Str) (hn : name ∈ (["useragents", "rulelines", "delay", "req_rate", "allowance"] : List Str)) : takerIn (K P) 52 name = some none := by
  simp only [List.mem_cons, List.not_mem_nil, or_false] at hn
  rcases hn with rfl | rfl | rfl | rfl | rfl <;> kernel_rfl

theorem set_ok {a dx : Addr} {ns : List Str} {us : List Value} {name : Str} {v : Value} {Q : Unit → Shared → Prop} {E : Value → Shared → Prop} (B : Base w.params h₀) (T : Tp h₀ s.heap) (e : EntAt s.heap a dx ns us) (hn : name ∈ (["useragents", "rulelines", "delay", "req_rate", "allowance"] : List Str)) (hlen : ns.length ≤ 1000)
    (hq : ∀ h' tk, EntAt h' a dx (name :: ns) (v :: us) → (∀ b o, b ≠ dx → s.heap.get? b = some o → h'.get? b = some o) → Q () { s with heap := h', toks := tk }) :
    wpAny (model prog w) A (setAttr (.ref a) name v) Q E s := by
  have X := B.kin T
  obtain ⟨o, h1, h2, h3, h4⟩ := e.inst
  obtain ⟨od, es, ep, hod, hdd, r⟩ := id e.dict
  have hno : notCls o = true := by
    unfold notCls
    split
    · rename_i c q; exact absurd q (h3 c)
    · rfl
  have I : InstAt s.heap a o 52 (some od) := ⟨h1, h2, hno, by rw [h4]; exact hod⟩
  refine set_plain X I (hgs _) (osa_open (s := { s with toks := s.toks + 1 }) X I (hover _) (taker_none _ name hn) fun b => ?_)
  obtain ⟨cd, hc, hd'⟩ := any_some (hdct w.params)
  obtain ⟨oc, odi, oda, osl⟩ := o
  dsimp only at h2 h4
  subst h2 h4
  refine wpAny_bind (wpAny_pure (wpAny_bind (wpAny_bind (wpAny_loadPart h1 (wpAny_bind ((looks_clsIn X hc).here (s := { s with toks := s.toks + 1 }) ?_))))))
  rw [hd']
  refine wpAny_pure (a := some dx) (wpAny_bind (wpAny_pure (wpAny_bind (wpAny_nsSet1 (s := { s with toks := s.toks + 1 }) e.dict fun h' hn' hs => ?_))))
  have wi : Within (fun x => (ns.zip us).lookup x) ns := fun y hy => by
    cases q : (ns.zip us).lookup y with
    | none => exact absurd q hy
    | some u => exact (List.of_mem_zip (mem_of_lookup q)).1
  obtain ⟨oD, esD, epD, hoD, hdD, hcD⟩ := hn'.count (Within.cons name v wi)
  refine wpAny_bind (wpAny_lookBehind hoD (by rw [hdD]; exact pastItsLine_dict (Nat.le_trans hcD (by rw [List.length_cons, sizeLine_eq]; omega))) ?_)
  refine wpAny_pure (hq h' _ ⟨⟨_, (hs.2 a e.ne.symm).trans h1, rfl, h3, rfl⟩, e.ne, ?_⟩ fun b o nb eb => (hs.2 b nb).trans eb)
  have : (fun x => ((name :: ns).zip (v :: us)).lookup x) = fun y => if y = name then some v else (ns.zip us).lookup y := by
    funext y
    rw [List.zip_cons_cons]
    by_cases q : y = name
    · subst q; rw [lookup_cons_self, if_pos rfl]
    · rw [lookup_cons_ne q, if_neg q]
  rw [this]
  exact hn'
end
end Mine
end

-- Ent2
section
open PySem PySem.W PyProof.Rows PySem.Calls PySem.SeqAt
set_option maxRecDepth 100000
namespace Mine
theorem swap_no' {v : Expr} (h : notComp v = true) (t : Option Expr) (l : Nat) (env : Env) : swapsWith v t l env = pure false := by
  cases v <;> first | rfl | cases h

section
variable {prog : Program} {w : World} {h₀ : Heap} {k : Nat} {F M : Str → List D → Option D}

/-- x.name = value, for an Entry under construction -/
theorem asg_attr (B : Base w.params h₀) (FO : FnOk prog w h₀ k F) (MO : MtOk prog w h₀ k M) {n : Nat} {A : Around} {W Y : List Addr} {sc : List (Str × NameKind)} {env : Env} {m : Mp} {s : Shared} {Q : Flow → Shared → Prop} {E : Value → Shared → Prop} {x name : Str} {px ap pos : Pos} {value : Expr} {d : D} {a dx : Addr} {ns : List Str} {us : List Value}
    (R : Room A k) (O : Own h₀ Y W env) (Fr : FR W sc env s.heap m) (T : Tp h₀ s.heap) (hx : m.lookup x = some (.raw (.ref a))) (hxd : x ≠ "__debug__" ∧ x ≠ "__classdict__") (ea : EntAt s.heap a dx ns us) (hdW : dx ∈ W) (hdY : dx ∉ Y) (hlen : ns.length ≤ 1000)
    (hn : name ∈ (["useragents", "rulelines", "delay", "req_rate", "allowance"] : List Str)) (hc : notComp value = true) (hv : pev F M n sc m value = some d)
    (hq : ∀ v h' tk, FR W sc env h' m → EntAt h' a dx (name :: ns) (v :: us) → Rep W h' d v → KX [dx] s.heap h' → Q .next { s with heap := h', toks := tk }) :
    wpAny (model prog w) A (exec (.Assign [.Attribute (.Name x px) name ap] value pos) env) Q E s := by
  refine plainObj_wpAny_Assign_Attribute ((ev_sound B FO MO n).1 R hv Fr T fun v => kfor fun h₁ tk₁ hk₁ r1 => ?_) (swap_no' hc _ _ _)
  have F₁ := Fr.keep hk₁
  refine wpAny_Name (FR.load (s := { s with heap := h₁, toks := tk₁ }) F₁ hx (by simpa using hxd.2) fun ov ro => ?_) (by simpa using hxd.1)
  simp only [Rep] at ro
  subst ro
  have e₁ : EntAt h₁ a dx ns us := ea.mono (X := []) (KX.of hk₁) (by simp) (by simp)
  refine set_ok (s := { s with heap := h₁, toks := tk₁ }) B (T.keep hk₁) e₁ hn hlen fun h₂ tk₂ e₂ kb₂ => ?_
  have kx₂ : KX [dx] h₁ h₂ := fun b o nb e => kb₂ b o (by simpa using nb) e
  have hdx : ∃ o, h₂.get? dx = some o := by obtain ⟨o, _, _, e, _⟩ := e₂.dict; exact ⟨o, e⟩
  refine hq v h₂ tk₂ (F₁.but (X := [dx]) kx₂ (by simpa using hdW) (fun q => hdY (by simp at q; exact q ▸ O.loc)) (fun y c hc q => hdY (by simp at q; exact q ▸ O.cin y c hc)) (by simpa using hdx)) e₂ (r1.mono (kx₂.mono (by simpa using hdW))) ((KX.of hk₁).trans kx₂)

theorem at28 (P : Params) : ∃ o, (K P).lookup 28 = some o ∧ o.data = .func (fdOf P 28) ∧ o.cls = .type "function" := ⟨_, rfl, rfl, rfl⟩
theorem bd28 (P : Params) : (fdOf P 28).body = .stmts (bodyOf P 28) := rfl
theorem ok28 (P : Params) : fnOk ["self"] (fdOf P 28) = true := by kernel_rfl
theorem cd28 (P : Params) : codeIn (K P) (fdOf P 28).code (fdOf P 28).qualname = true := by kernel_rfl
theorem bi28 (P : Params) (v : Value) : bindArgs (fdOf P 28) ⟨[v], []⟩ = pure ((["self"] : List Str).zip [v]) := by kernel_rfl

theorem zip4 {α : Type} (a b c d : α) (x : Str) : (([("req_rate" : Str), "delay", "rulelines", "useragents"] : List Str).zip [d, c, b, a]).lookup x = (([("useragents" : Str), "rulelines", "delay", "req_rate"] : List Str).zip [a, b, c, d]).lookup x := by
  simp only [List.zip_cons_cons, List.zip_nil_right, List.lookup_cons, List.lookup_nil]
  by_cases h1 : x = "req_rate"
  · subst h1; rfl
  by_cases h2 : x = "delay"
  · subst h2; rfl
  by_cases h3 : x = "rulelines"
  · subst h3; rfl
  by_cases h4 : x = "useragents"
  · subst h4; rfl
  have e1 : (x == ("req_rate" : Str)) = false := by simpa using h1
  have e2 : (x == ("delay" : Str)) = false := by simpa using h2
  have e3 : (x == ("rulelines" : Str)) = false := by simpa using h3
  have e4 : (x == ("useragents" : Str)) = false := by simpa using h4
  simp only [e1, e2, e3, e4]

/-- the call of __init__ -/
theorem init_call (B : Base w.params h₀) {A : Around} {W : List Addr} {s : Shared} {a dx : Addr} {Q E : Value → Shared → Prop} (R : Room A (k + 1)) (T : Tp h₀ s.heap) (lv : Live W s.heap) (hdW : dx ∈ W) (ea : EntAt s.heap a dx [] []) (hd0 : h₀.get? dx = none)
    (hq : ∀ s' us, (∃ h' tk, s' = { s with heap := h', toks := tk } ∧ KX [dx] s.heap h') → EntAt s'.heap a dx ["useragents", "rulelines", "delay", "req_rate"] us → Reps W s'.heap [.lst [], .lst [], .none, .none] us → Q .none s') :
    wpAny (model prog w) A (call (.ref 28) [.ref a]) Q E s := by
  obtain ⟨o, h1, h2, h3⟩ := at28 w.params
  have ha : ∃ o, s.heap.get? a = some o := by obtain ⟨o, e, _⟩ := ea.inst; exact ⟨o, e⟩
  refine call_frame (ps := ["self"]) (ds := [.raw (.ref a)]) B R T lv h1 h2 (cd28 _) (bd28 _) (ok28 _) (bi28 _ _) (Reps.one (by simp only [Rep])) fun Y env h₁ tk₁ hY henv O Fr hk₁ hYn => ?_
  have hdY : dx ∉ Y := fun q => by
    obtain ⟨o, _, _, e, _⟩ := ea.dict
    rw [hYn dx q] at e; cases e
  have R' := R.deeper env
  have e₁ : EntAt h₁ a dx [] [] := ea.mono (X := []) (KX.of hk₁) (by simp) (by simp)
  have hdW' : dx ∈ Y ++ W := List.mem_append_right _ hdW
  have T₁ := T.keep hk₁
  have hd1 : ∀ b ∈ [dx], h₀.get? b = none := by simpa using hd0
  have dsub : ∀ b ∈ [dx], b ∈ Y ++ W := by simpa using hdW'
  have dec : (("self" : Str) ≠ "__debug__" ∧ ("self" : Str) ≠ "__classdict__") := by decide
  refine ec (asg_attr (F := M0) (M := M0) (n := 5) (d := .lst []) B F0_ok M0_ok R' O Fr T₁ rfl dec e₁ hdW' hdY (by decide) (by decide) rfl (by kernel_rfl) fun v1 h₂ tk₂ F₂ e₂ r₂ k₂ => ?_)
  have T₂ := T₁.kx k₂ hd1
  refine ec (asg_attr (F := M0) (M := M0) (n := 5) (d := .lst []) (s := { s with heap := h₂, toks := tk₂ }) B F0_ok M0_ok R' O F₂ T₂ rfl dec e₂ hdW' hdY (by decide) (by decide) rfl (by kernel_rfl) fun v2 h₃ tk₃ F₃ e₃ r₃ k₃ => ?_)
  have T₃ := T₂.kx k₃ hd1
  refine ec (asg_attr (F := M0) (M := M0) (n := 5) (d := .none) (s := { s with heap := h₃, toks := tk₃ }) B F0_ok M0_ok R' O F₃ T₃ rfl dec e₃ hdW' hdY (by decide) (by decide) rfl (by kernel_rfl) fun v3 h₄ tk₄ F₄ e₄ r₄ k₄ => ?_)
  have T₄ := T₃.kx k₄ hd1
  refine ec (asg_attr (F := M0) (M := M0) (n := 5) (d := .none) (s := { s with heap := h₄, toks := tk₄ }) B F0_ok M0_ok R' O F₄ T₄ rfl dec e₄ hdW' hdY (by decide) (by decide) rfl (by kernel_rfl) fun v4 h₅ tk₅ F₅ e₅ r₅ k₅ => ?_)
  refine wpAny_execs_nil (hq _ [v1, v2, v3, v4] ⟨h₅, tk₅, rfl, (KX.of hk₁).trans (((k₂.trans k₃).trans k₄).trans k₅)⟩ (e₅.cast fun x => zip4 v1 v2 v3 v4 x) ?_)
  have off : ∀ {d v}, Rep (Y ++ W) h₅ d v → Rep W h₅ d v := fun r => r.off fun b hb => .inl (List.mem_append_right _ hb)
  have u3 := k₃.mono dsub
  have u4 := k₄.mono dsub
  have u5 := k₅.mono dsub
  exact Reps.cons (off (((r₂.mono u3).mono u4).mono u5)) (Reps.cons (off ((r₃.mono u4).mono u5)) (Reps.cons (off (r₄.mono u5)) (Reps.one (off r₅))))

noncomputable def mN51 (P : Params) (x : Str) : Option Value := match (K P).lookup 51 with | some ⟨_, _, .dict es _, _⟩ => nsFind es x | _ => none
theorem ns51 (P : Params) {h : Heap} (X : (K P).In h) : h.Ns 51 (mN51 P) := by
  have : ∃ o es ep, (K P).lookup 51 = some o ∧ o.data = .dict es ep ∧ StrKeys es ∧ ∀ name, nsFind es name = mN51 P name := by
    refine ⟨_, _, _, rfl, rfl, fun e he => ?_, fun _ => rfl⟩
    simp at he
    rcases he with rfl | rfl | rfl | rfl | rfl | rfl | rfl | rfl | rfl | rfl <;> exact ⟨_, _, rfl⟩
  obtain ⟨o, es, ep, h1, h2⟩ := this
  exact ⟨o, es, ep, X 51 o h1, h2⟩

/-- Entry() -/
theorem entry_new (B : Base w.params h₀) {A : Around} {W : List Addr} {s : Shared} {Q E : Value → Shared → Prop} (R : Room A (k + 2)) (T : Tp h₀ s.heap) (lv : Live W s.heap)
    (hq : ∀ a dx us s', Keeps s s' → s.heap.get? a = none → s.heap.get? dx = none → EntAt s'.heap a dx ["useragents", "rulelines", "delay", "req_rate"] us → Reps (a :: dx :: W) s'.heap [.lst [], .lst [], .none, .none] us → Q (.ref a) s') :
    wpAny (model prog w) A (call (.ref 52) []) Q E s := by
  have X := B.kin T
  obtain ⟨h, g, d, t, os⟩ := s
  obtain ⟨o28, k1, k2, k3⟩ := at28 w.params
  have hC : ∃ nm q bs sn sub col dd k0 k1 k2 k3 k5, h.get? 52 = some (excClassObj nm q 52 51 bs [.type "object"] true sn sub false col dd k0 k1 k2 k3 k5 "object.__new__") := ⟨_, _, _, _, _, _, _, _, _, _, _, _, X 52 _ rfl⟩
  obtain ⟨nm, q, bs, sn, sub, col, dd, k0, k1', k2', k3', k5', hC⟩ := hC
  refine wpAny_call_obj_init PySem.F.objNew hC (ns51 _ X) (fI := 28) (by kernel_rfl) (X 28 o28 k1) k3 fun h' a dx hm => ?_
  have Ru : Room (A.under (.builtin "type.__call__" ⟨[.ref 52], []⟩)) (k + 1) := by
    refine ⟨R.hd, ?_, ?_⟩
    · rw [depth_under_make]; have := R.dp; omega
    · rw [units_under_make]; have := R.un; omega
  have T' : Tp h₀ h' := T.keep hm.keeps
  have ne := hm.inst
  obtain ⟨o, ho, hc, hnc, hd⟩ := ne
  have hodx := hm.dict o ho
  have ea : EntAt h' a dx [] [] := by
    rcases hd with ⟨hd, _⟩ | ⟨dx', hd, hne, hns⟩
    · rw [hd] at hodx; cases hodx
    · rw [hd] at hodx; cases hodx
      refine ⟨⟨o, ho, hc, hnc, hd⟩, hne, ?_⟩
      have : (fun x => (([] : List Str).zip ([] : List Value)).lookup x) = fun _ => none := by funext x; rfl
      rw [this]; exact hns
  have lv' : Live (a :: dx :: W) h' := fun x hx => by
    rcases List.mem_cons.mp hx with rfl | hx
    · exact ⟨o, ho⟩
    · rcases List.mem_cons.mp hx with rfl | hx
      · obtain ⟨o, _, _, e, _⟩ := ea.dict; exact ⟨o, e⟩
      · obtain ⟨o, e⟩ := lv x hx; exact ⟨o, hm.keeps x o e⟩
  have hd0 : h₀.get? dx = none := T.gone hm.newD
  refine init_call (k := k) B Ru T' lv' (List.mem_cons_of_mem _ List.mem_cons_self) ea hd0 fun s' us hs' e' r' => ⟨rfl, ?_⟩
  obtain ⟨h'', tk, rfl, kx⟩ := hs'
  refine hq a dx us _ ⟨h'', tk, rfl, fun b o e => ?_⟩ hm.newX hm.newD e' r'
  exact kx b o (fun q => by simp at q; subst q; have := hm.newD; rw [show h.get? b = some o from e] at this; cases this) (hm.keeps b o e)
end
end Mine
end

-- Feed
section
open PySem PySem.W PyProof.Rows PySem.Calls PySem.SeqAt
set_option maxRecDepth 100000
namespace Mine

/-- what a loop draws from an iterator and binds, turn by turn -/
structure Feed (prog : Program) (w : World) (A : Around) (tgt : Expr) (sc : List (Str × NameKind)) (env : Env) (it : Value) (W YL fp wr : List Addr) (h₂ : Heap) (n : Nat) (bs : Nat → Mp) (St : Nat → Heap → Prop) : Prop where
  sub : ∀ b ∈ wr, b ∈ fp
  subW : ∀ b ∈ wr, b ∈ W
  frame : ∀ i h h', St i h → (∀ b ∈ fp, ∀ o, h.get? b = some o → h'.get? b = some o) → St i h'
  turn : ∀ i (s : Shared) m (Q : Shared → Prop) (E : Value → Shared → Prop), i < n → St i s.heap → KX W h₂ s.heap → FR W sc env s.heap m →
    (∀ h' tk, St (i + 1) h' → FR W sc env h' (bs i ++ m) → KX (wr ++ YL) s.heap h' → Q { s with heap := h', toks := tk }) →
    wpAny (model prog w) A (pyNext it) (fun r s₁ => ∃ v, r = some v ∧ wpAny (model prog w) A (letOwnedTupleGo tgt it v) (fun _ s₁' => wpAny (model prog w) A (assign tgt env v) (fun _ s₂ => Q s₂) E s₁') E s₁) E s
  done : ∀ (s : Shared) (Q : Option Value → Shared → Prop) (E : Value → Shared → Prop), St n s.heap → (∀ h' tk, KX wr s.heap h' → Q none { s with heap := h', toks := tk }) → wpAny (model prog w) A (pyNext it) Q E s
  self : ∀ i (s : Shared) (Q : Value → Shared → Prop) (E : Value → Shared → Prop), St i s.heap → Q it s → wpAny (model prog w) A (pyIter it) Q E s

section
variable {prog : Program} {w : World} {A : Around}
variable {W YL : List Addr} {sc : List (Str × NameKind)} {env : Env}

theorem store_kx {x : Str} {h h' : Heap} (hLY : env.locals ∈ YL) (hxY : sc.lookup x = some .cell → ∀ c, env.cells.lookup x = some c → c ∈ YL)
    (hb : ∃ a, (a = env.locals ∨ (sc.lookup x = some .cell ∧ env.cells.lookup x = some a)) ∧ ∀ b o, b ≠ a → h.get? b = some o → h'.get? b = some o) : KX YL h h' := by
  obtain ⟨a, ha, hb⟩ := hb
  refine fun b o nb e => hb b o (fun q => nb ?_) e
  rcases ha with rfl | ⟨q1, q2⟩
  · exact q ▸ hLY
  · exact q ▸ hxY q1 _ q2

theorem Feed.name {I : Addr} {fp wr : List Addr} {h₂ : Heap} {n : Nat} {P : Nat → Value → Prop} {St : Nat → Heap → Prop} {x : Str} {px : Pos} (Wk : Walks prog w A I fp wr n P St) (hlive : ∀ i h, St i h → ∀ b ∈ wr, ∃ o, h.get? b = some o) (hwW : ∀ b ∈ wr, b ∈ W) (bs : Nat → D)
    (hx : sc.lookup x = some .local ∨ sc.lookup x = some .cell) (hLY : env.locals ∈ YL) (hxY : sc.lookup x = some .cell → ∀ c, env.cells.lookup x = some c → c ∈ YL) (hYf : ∀ b ∈ YL, b ∉ fp) (hcw : ∀ y c, env.cells.lookup y = some c → c ∉ wr)
    (items : ∀ i v, i < n → P i v → Rep W h₂ (bs i) v) : Feed prog w A (.Name x px) sc env (.ref I) W YL fp wr h₂ n (fun i => [(x, bs i)]) St where
  sub := Wk.sub
  subW := hwW
  frame := Wk.frame
  turn := fun i s m Q E hi hst kx F hq => by
    have hLw : env.locals ∉ wr := fun q => hYf _ hLY (Wk.sub _ q)
    refine Wk.item i _ _ _ hi hst fun v h₁ tk₁ hPv hst₁ hk₁ => ⟨v, rfl, ?_⟩
    have kw : KX wr s.heap h₁ := fun b o nb e => hk₁ b o nb e
    have F₁ : FR W sc env h₁ m := F.but (X := wr) kw hwW hLw hcw (hlive _ _ hst₁)
    refine wpAny_of_eq (a := ()) rfl ?_
    refine wpAny_assign_Name (FR.store (s := { s with heap := h₁, toks := tk₁ }) F₁ hx (((items i v hi hPv).mono kx).mono (kw.mono hwW)) fun h₃ tk₃ F₃ kx₃ hb₃ => ?_)
    have ky := store_kx hLY hxY hb₃
    exact hq h₃ tk₃ (Wk.frame _ _ _ hst₁ fun b hb o e => ky b o (fun q => hYf b q hb) e) F₃ ((kw.mono fun b hb => List.mem_append_left _ hb).trans (ky.mono fun b hb => List.mem_append_right _ hb))
  done := fun s Q E hst hq => Wk.done _ _ _ hst fun h₁ tk₁ hk₁ => hq h₁ tk₁ fun b o nb e => hk₁ b o nb e
  self := fun i s Q E hst h => Wk.self i s Q E hst h


theorem Feed.pair {I : Addr} {fp wr : List Addr} {h₂ : Heap} {n : Nat} {Pt : Nat → Array Value → Prop} {St : Nat → Heap → Prop} {Mid : Nat → Addr → Heap → Prop} {x y : Str} {px py tp : Pos} {tk : Nat} (hh : A.handled = none) (Wk : WalksU prog w A I fp wr n Pt St Mid) (hlive : ∀ i h, St i h → ∀ b ∈ wr, ∃ o, h.get? b = some o) (hwW : ∀ b ∈ wr, b ∈ W) (b1 b2 : Nat → D)
    (hx : sc.lookup x = some .local ∨ sc.lookup x = some .cell) (hy : sc.lookup y = some .local ∨ sc.lookup y = some .cell) (hLY : env.locals ∈ YL) (hxY : ∀ z, sc.lookup z = some .cell → ∀ c, env.cells.lookup z = some c → c ∈ YL) (hYf : ∀ b ∈ YL, b ∉ fp) (hcw : ∀ y c, env.cells.lookup y = some c → c ∉ wr)
    (items : ∀ i vals, i < n → Pt i vals → ∃ u v, vals = #[u, v] ∧ Rep W h₂ (b1 i) u ∧ Rep W h₂ (b2 i) v) : Feed prog w A (.Tuple [.Name x px, .Name y py] tk tp) sc env (.ref I) W YL fp wr h₂ n (fun i => [(y, b2 i), (x, b1 i)]) St where
  sub := Wk.sub
  subW := hwW
  frame := Wk.frame
  turn := fun i s m Q E hi hst kx F hq => by
    have hLw : env.locals ∉ wr := fun q => hYf _ hLY (Wk.sub _ q)
    refine Wk.item i _ _ _ hi hst fun T vals h₁ tk₁ hP hT hm hk₁ => ⟨_, rfl, ?_⟩
    have hTw := Wk.apart _ _ _ hm
    refine Wk.go _ _ _ i T _ _ _ hm fun h₂' hst₂ hk₂ => ?_
    have kw : KX wr s.heap h₂' := fun b o nb e => hk₂ b o nb (hk₁ b o nb e)
    have hT₂ : h₂'.IsTuple T vals := by obtain ⟨o, e, r⟩ := hT; exact ⟨o, hk₂ T o hTw e, r⟩
    obtain ⟨u, v, rfl, ru, rv⟩ := items i vals hi hP
    refine wpAny_assign_Tuple (s := { s with heap := h₂', toks := tk₁ }) hh hT₂ rfl rfl fun h₃ hx₃ => ?_
    have k₃ : ∀ b o, h₂'.get? b = some o → h₃.get? b = some o := fun b o e => hx₃ b o (Nat.ne_of_lt (Heap.lt_size e)) e
    have F₃ : FR W sc env h₃ m := (F.but (X := wr) kw hwW hLw hcw (hlive _ _ hst₂)).keep k₃
    have kx₃ : KX W h₂ h₃ := (kx.trans (kw.mono hwW)).trans (KX.of k₃)
    show wpAny _ _ (assignInOrder [assign (.Name x px) env, assign (.Name y py) env] [u, v]) _ _ _
    refine assignInOrder_cons ?_
    refine wpAny_assign_Name (FR.store (s := { s with heap := h₃, toks := tk₁ }) F₃ hx (ru.mono kx₃) fun h₄ tk₄ F₄ kx₄ hb₄ => ?_)
    refine assignInOrder_cons ?_
    refine wpAny_assign_Name (FR.store (s := { s with heap := h₄, toks := tk₄ }) F₄ hy ((rv.mono kx₃).mono kx₄) fun h₅ tk₅ F₅ kx₅ hb₅ => ?_)
    refine assignInOrder_nil ?_
    have ky₄ := store_kx hLY (hxY x) hb₄
    have ky₅ := store_kx hLY (hxY y) hb₅
    have ky := ky₄.trans ky₅
    refine hq h₅ tk₅ (Wk.frame _ _ _ hst₂ fun b hb o e => ky b o (fun q => hYf b q hb) (k₃ b o e)) F₅ ?_
    exact (kw.mono fun b hb => List.mem_append_left _ hb).trans ((KX.of k₃).trans (ky.mono fun b hb => List.mem_append_right _ hb))
  done := fun s Q E hst hq => Wk.done _ _ _ hst fun h₁ tk₁ hk₁ => hq h₁ tk₁ fun b o nb e => hk₁ b o nb e
  self := fun i s Q E hst h => Wk.self i s Q E hst h

noncomputable abbrev turnForm (p : Pos) (tgt : Expr) (it : Value) (env : Env) (ifs : List Expr) (emit : Sem Unit) (nxt : Sem Fin) : Sem Fin :=
  standAt p >>= fun _ => pyNext it >>= fun r => match r with
    | none => pure (.done .next)
    | some v => letOwnedTupleGo tgt it v >>= fun _ => assign tgt env v >>= fun _ => testsOf ifs env >>= fun ok => if ok = true then emit >>= fun _ => nxt else nxt

noncomputable def CPost (W YL : List Addr) (sc : List (Str × NameKind)) (env : Env) (m : Mp) (Dx : Addr) (Acc : List D → Prop) (s₂ s₄ : Shared) : Prop :=
  ∃ h' tk, s₄ = { s₂ with heap := h', toks := tk } ∧ KX (Dx :: YL) s₂.heap h' ∧ FR W sc env h' m ∧ ∃ ys ds, h'.PlainList Dx ys ∧ Reps W h' ds ys.toList ∧ Acc ds

/-- a comprehension's loop at one of its clauses -/
theorem comp_feed {elt tgt : Expr} {gens : List Comprehension} {scope : Scope} {cpos : Pos} {dep : Nat} {it : Value} {Dx : Addr} {ifs : List Expr} {emit : Sem Unit} {p : Pos} {n : Nat} {bs : Nat → Mp} {St : Nat → Heap → Prop} {fp wr : List Addr} {m : Mp} {s : Shared} {R : Result → Shared → Prop} (Acc : Nat → List D → Prop) {ys₀ : Array Value} {ds₀ : List D}
    (Fd : Feed prog w A tgt sc env it W YL fp wr s.heap n bs St) (heq : compTurn (.ListComp elt gens scope cpos) dep it (.ref Dx) env = turnForm p tgt it env ifs emit (again (.compLoop (.ListComp elt gens scope cpos) dep it (.ref Dx) env))) (hDY : Dx ∉ YL)
    (hYW : ∀ b ∈ YL, b ∈ W) (hYf : ∀ b ∈ YL, b ∉ fp) (hDW : Dx ∈ W) (hDf : Dx ∉ fp) (hst : St 0 s.heap) (F : FR W sc env s.heap m) (hacc : s.heap.PlainList Dx ys₀) (hr0 : Reps W s.heap ds₀ ys₀.toList) (hA0 : Acc 0 ds₀)
    (step : ∀ i, i < n → ∀ s₂ ys ds E', (∃ h tk, s₂ = { s with heap := h, toks := tk }) → FR W sc env s₂.heap (bs i ++ m) → KX (wr ++ (Dx :: YL)) s.heap s₂.heap → s₂.heap.PlainList Dx ys → Reps W s₂.heap ds ys.toList → Acc i ds →
      wpAny (model prog w) A (testsOf ifs env) (fun ok s₃ => if ok = true then wpAny (model prog w) A emit (fun _ s₄ => CPost W YL sc env m Dx (Acc (i + 1)) s₂ s₄) E' s₃ else CPost W YL sc env m Dx (Acc (i + 1)) s₂ s₃) E' s₂)
    (fin : ∀ h h' tk ys ds, FR W sc env h m → KX wr h h' → KX (wr ++ (Dx :: YL)) s.heap h' → h'.PlainList Dx ys → Reps W h' ds ys.toList → Acc n ds → R (.ok .next) { s with heap := h', toks := tk }) :
    codeAny (model prog w) A (.compLoop (.ListComp elt gens scope cpos) dep it (.ref Dx) env) R s := by
  have hDwr : Dx ∉ wr := fun q => hDf (Fd.sub _ q)
  have hall : ∀ b ∈ wr ++ (Dx :: YL), b ∈ W := fun b hb => by
    rcases List.mem_append.mp hb with hb | hb
    · exact Fd.subW b hb
    · rcases List.mem_cons.mp hb with rfl | hb
      · exact hDW
      · exact hYW b hb
  refine codeAny_loop rfl (fun k s' => ∃ j h tk ys ds, s' = { s with heap := h, toks := tk } ∧ j ≤ n ∧ k = n + 1 - j ∧ St j h ∧ FR W sc env h m ∧ KX (wr ++ (Dx :: YL)) s.heap h ∧ h.PlainList Dx ys ∧ Reps W h ds ys.toList ∧ Acc j ds) (fun k s' hI => ?_) (n + 1)
    ⟨0, s.heap, s.toks, ys₀, ds₀, rfl, Nat.zero_le _, rfl, hst, F, KX.refl _ _, hacc, hr0, hA0⟩
  obtain ⟨j, h, tk, ys, ds, rfl, hj, rfl, hst', F', kx', hys, hrs, hA⟩ := hI
  show wpAny _ A ((compTurn (.ListComp elt gens scope cpos) dep it (.ref Dx) env).onRaise (fun x => do noteFrame x env; theTreesLotGoes x)) _ _ _
  refine wpAny_noted ?_
  rw [heq]
  refine wpAny_bind (wpAny_standAt (wpAny_bind ?_))
  by_cases hlt : j < n
  · refine wpAny_mono (Fd.turn j _ m (fun s₂ => wpAny (model prog w) A (testsOf ifs env) (fun ok s₃ => if ok = true then wpAny (model prog w) A emit (fun _ s₄ => CPost W YL sc env m Dx (Acc (j + 1)) s₂ s₄ ∧ St (j + 1) s₂.heap ∧ KX (wr ++ (Dx :: YL)) s.heap s₂.heap ∧ (∃ h tk, s₂ = { s with heap := h, toks := tk })) (notedBy (model prog w) A env fun e s' => R (.error e) s') s₃ else CPost W YL sc env m Dx (Acc (j + 1)) s₂ s₃ ∧ St (j + 1) s₂.heap ∧ KX (wr ++ (Dx :: YL)) s.heap s₂.heap ∧ (∃ h tk, s₂ = { s with heap := h, toks := tk })) (notedBy (model prog w) A env fun e s' => R (.error e) s') s₂) _ hlt hst' (kx'.mono hall) F' fun h₁ tk₁ hst₁ F₁ k₁ => ?_) (fun r s₁ h₁ => ?_) fun _ _ e => e
    · have k₁' : KX (wr ++ (Dx :: YL)) h h₁ := k₁.mono fun b hb => by
        rcases List.mem_append.mp hb with hb | hb
        · exact List.mem_append_left _ hb
        · exact List.mem_append_right _ (List.mem_cons_of_mem _ hb)
      have kk := kx'.trans k₁'
      have hDk : ∀ o, h.get? Dx = some o → h₁.get? Dx = some o := fun o e => by
        refine k₁ Dx o (fun q => ?_) e
        rcases List.mem_append.mp q with q | q
        · exact hDwr q
        · exact hDY q
      refine wpAny_mono (step j hlt { s with heap := h₁, toks := tk₁ } ys ds _ ⟨_, _, rfl⟩ F₁ kk (hys.at hDk) (hrs.mono (k₁'.mono hall)) hA) (fun ok s₃ h₃ => ?_) fun _ _ e => e
      cases ok with
      | true =>
        simp only [if_true] at h₃ ⊢
        exact wpAny_mono h₃ (fun _ s₄ h₄ => ⟨h₄, hst₁, kk, _, _, rfl⟩) fun _ _ e => e
      | false =>
        simp only [Bool.false_eq_true, if_false] at h₃ ⊢
        exact ⟨h₃, hst₁, kk, _, _, rfl⟩
    · obtain ⟨v, rfl, h₁⟩ := h₁
      have close : ∀ s₂ s₄, CPost W YL sc env m Dx (Acc (j + 1)) s₂ s₄ ∧ St (j + 1) s₂.heap ∧ KX (wr ++ (Dx :: YL)) s.heap s₂.heap ∧ (∃ h tk, s₂ = { s with heap := h, toks := tk }) →
          ∃ k', k' < n + 1 - j ∧ ∃ j h tk ys ds, s₄ = { s with heap := h, toks := tk } ∧ j ≤ n ∧ k' = n + 1 - j ∧ St j h ∧ FR W sc env h m ∧ KX (wr ++ (Dx :: YL)) s.heap h ∧ h.PlainList Dx ys ∧ Reps W h ds ys.toList ∧ Acc j ds := by
        rintro s₂ s₄ ⟨⟨h', tk', rfl, k', F'', ys', ds', a1, a2, a3⟩, hst₂, kk, h2, tk2, rfl⟩
        refine ⟨n + 1 - (j + 1), by omega, j + 1, h', tk', ys', ds', rfl, hlt, rfl, Fd.frame _ _ _ hst₂ fun b hb o e => ?_, F'', kk.trans (k'.mono fun b hb => List.mem_append_right _ hb), a1, a2, a3⟩
        refine k' b o (fun q => ?_) e
        rcases List.mem_cons.mp q with q | q
        · exact hDf (q ▸ hb)
        · exact hYf b q hb
      refine wpAny_bind (wpAny_mono h₁ (fun _ s₁' h₁' => ?_) fun _ _ h' => h')
      refine wpAny_bind (wpAny_mono h₁' (fun _ s₂ h₂ => wpAny_bind (wpAny_mono h₂ (fun ok s₃ h₃ => ?_) fun _ _ h' => h')) fun _ _ h' => h')
      cases ok with
      | true =>
        simp only [if_true] at h₃ ⊢
        exact wpAny_bind (wpAny_mono h₃ (fun _ s₄ h₄ => wpAny_pure ⟨rfl, close _ _ h₄⟩) fun _ _ h' => h')
      | false =>
        simp only [Bool.false_eq_true, if_false] at h₃ ⊢
        exact wpAny_pure ⟨rfl, close _ _ h₃⟩
  · have hjn : j = n := by omega
    subst hjn
    refine Fd.done _ _ _ hst' fun h₁ tk₁ kw => wpAny_pure ?_
    have kw' : KX (wr ++ (Dx :: YL)) h h₁ := kw.mono fun b hb => List.mem_append_left _ hb
    exact fin h h₁ tk₁ ys ds F' kw (kx'.trans kw') (hys.at fun o e => kw Dx o hDwr e) (hrs.mono (kw.mono Fd.subW)) hA
end
end Mine
end

-- GComp
section
open PySem PySem.W PyProof.Rows PySem.Calls PySem.SeqAt
set_option maxRecDepth 100000
namespace Mine
section
variable {prog : Program} {w : World} {A : Around}
variable {W : List Addr} {sc : List (Str × NameKind)} {env : Env} {m : Mp}

/-- what a comprehension's block is entered with -/
structure Enter (sc : List (Str × NameKind)) (env : Env) (scope : Scope) (m : Mp) (W wr : List Addr) (h₂ : Heap) (Dx : Addr) (YL : List Addr) (cenv : Env) (h₄ : Heap) : Prop where
  fr : FR (YL ++ ((Dx :: wr) ++ W)) scope.names cenv h₄ (freeOf scope m)
  kp : ∀ b o, h₂.get? b = some o → h₄.get? b = some o
  dn : h₂.get? Dx = none
  dl : h₄.PlainList Dx #[]
  yn : ∀ b ∈ YL, h₂.get? b = none
  dy : Dx ∉ YL
  loc : cenv.locals ∈ YL
  cel : ∀ y c, cenv.cells.lookup y = some c → c ∈ YL ∨ env.cells.lookup y = some c
  own : ∀ y, scope.names.lookup y = some .cell → ∀ c, cenv.cells.lookup y = some c → c ∈ YL

theorem comp_enter {scope : Scope} {s s₂ : Shared} {wr : List Addr} {E : Value → Shared → Prop} {Q : Value → Env → Shared → Prop} (F : FR W sc env s.heap m) (hb : blockOk sc scope = true) (hk : Keeps s s₂) (hwr : ∀ b ∈ wr, s.heap.get? b = none) (hl : ∀ b ∈ wr, ∃ o, s₂.heap.get? b = some o)
    (hq : ∀ Dx YL cenv h₄, Enter sc env scope m W wr s₂.heap Dx YL cenv h₄ → Q (.ref Dx) cenv { s₂ with heap := h₄ }) :
    wpAny (model prog w) A (newList []) (fun acc s₃ => wpAny (model prog w) A (newFunctionEnv scope env.globals (clos env scope.names []) [] env.qual none .none (some env)) (fun cenv s₄ => Q acc { cenv with scope := relabel scope env } s₄) E s₃) E s₂ := by
  obtain ⟨h₂, tk₂, rfl, hk₂⟩ := hk
  dsimp only at hl hq hk₂ ⊢
  refine wpAny_newList ?_ (by simp)
  dsimp only
  generalize hH3 : h₂.push { cls := .type "list", data := .seq ([] : List Value).toArray } = H3
  have hk₃ : ∀ b o, h₂.get? b = some o → H3.get? b = some o := fun b o e => hH3 ▸ Heap.get?_push_of_some _ e
  have hD : H3.PlainList h₂.objs.size #[] := ⟨0, hH3 ▸ Heap.get?_push_size _ rfl⟩
  have hDnone : h₂.get? h₂.objs.size = none := by
    cases e : h₂.get? h₂.objs.size with
    | none => rfl
    | some o => exact absurd (Heap.lt_size e) (Nat.lt_irrefl _)
  have hDs : s.heap.get? h₂.objs.size = none := by
    cases e : s.heap.get? h₂.objs.size with
    | none => rfl
    | some o => rw [hk₂ _ _ e] at hDnone; cases hDnone
  have F₃ : FR ((h₂.objs.size :: wr) ++ W) sc env H3 m := F.grow (fun b o e => hk₃ b o (hk₂ b o e)) (fun b hb => by
      rcases List.mem_cons.mp hb with rfl | hb
      · exact hDs
      · exact hwr b hb) (fun b hb => by
      rcases List.mem_cons.mp hb with rfl | hb
      · obtain ⟨q, e⟩ := hD; exact ⟨_, e⟩
      · obtain ⟨o, e⟩ := hl b hb; exact ⟨o, hk₃ b o e⟩)
  refine comp_env (s := { s with heap := H3, toks := tk₂ }) F₃ hb fun h₄ F₄ hk₄ hnone hcl hxc e' he' => ?_
  subst he'
  dsimp only at F₄ hk₄ hnone hcl hxc
  refine hq _ (freshOf scope H3.objs.size) (cEnv scope env H3.objs.size) h₄ ⟨F₄, fun b o e => hk₄ b o (hk₃ b o e), hDnone, hD.at fun o e => hk₄ _ o e, fun b hb => ?_, fun q => ?_, ?_, hcl, hxc⟩
  · cases e : h₂.get? b with
    | none => rfl
    | some o => have := hnone b hb; rw [hk₃ b o e] at this; cases this
  · obtain ⟨k, e⟩ := hD
    have := hnone _ q
    rw [e] at this; cases this
  · show H3.objs.size ∈ _
    unfold freshOf; exact List.mem_cons_self

/-- what is known of the iterator that a comprehension draws from -/
structure SrcG (A : Around) (prog : Program) (w : World) (W : List Addr) (s : Shared) (it : Value) (s₂ : Shared) (wr : List Addr) : Prop where
  kp : Keeps s s₂
  wn : ∀ b ∈ wr, s.heap.get? b = none
  wl : ∀ b ∈ wr, ∃ o, s₂.heap.get? b = some o

theorem gcomp_core {elt tgt iter : Expr} {ifs : List Expr} {rest : List Comprehension} {scope : Scope} {cpos : Pos} {s s₂ : Shared} {it : Value} {wr : List Addr} {E : Value → Shared → Prop} {RR : Value → Addr → Result → Shared → Prop} (res : List D → Prop)
    (F : FR W sc env s.heap m) (hb : blockOk sc scope = true) (S : SrcG A prog w W s it s₂ wr)
    (loop : ∀ Dx YL cenv h₄, Enter sc env scope m W wr s₂.heap Dx YL cenv h₄ → ∀ R : Result → Shared → Prop,
      (∀ h' tk ys ds, KX (wr ++ (Dx :: YL)) h₄ h' → (∃ μ, h'.Ns cenv.locals μ) → h'.PlainList Dx ys → Reps (YL ++ ((Dx :: wr) ++ W)) h' ds ys.toList → res ds → R (.ok .next) { s₂ with heap := h', toks := tk }) →
      codeAny (model prog w) A (.compLoop (.ListComp elt (⟨tgt, iter, ifs, 0⟩ :: rest) scope cpos) 0 it (.ref Dx) cenv) R { s₂ with heap := h₄ } ∧
      ∀ Q E', Q it { s₂ with heap := h₄ } → wpAny (model prog w) A (pyIter it) Q E' { s₂ with heap := h₄ })
    (fin : ∀ Dx C h' tk ds, (∃ μ, h'.Ns C μ) → s.heap.get? C = none → Keeps s { s with heap := h', toks := tk } → Rep (C :: W) h' (.lst ds) (.ref Dx) → res ds → RR (.ref Dx) C (.ok .next) { s with heap := h', toks := tk }) :
    wpAny (model prog w) A (newList []) (fun acc s₃ => wpAny (model prog w) A (newFunctionEnv scope env.globals (clos env scope.names []) [] env.qual none .none (some env)) (fun cenv s₄ =>
      codeAny (model prog w) A (.compStart (.ListComp elt (⟨tgt, iter, ifs, 0⟩ :: rest) scope cpos) 0 it acc { cenv with scope := relabel scope env }) (RR acc cenv.locals) s₄) E s₃) E s₂ := by
  refine comp_enter (Q := fun acc cenv s₄ => codeAny (model prog w) A (.compStart (.ListComp elt (⟨tgt, iter, ifs, 0⟩ :: rest) scope cpos) 0 it acc cenv) (RR acc cenv.locals) s₄) F hb S.kp S.wn S.wl fun Dx YL cenv h₄ En => ?_
  obtain ⟨h₂, tk₂, rfl, hk₂⟩ := id S.kp
  obtain ⟨L, again⟩ := loop Dx YL cenv h₄ En (RR (.ref Dx) cenv.locals) fun h' tk ys ds kx hns hys hrs hres => by
    have none_of : ∀ {b}, h₂.get? b = none → s.heap.get? b = none := fun {b} hb => by
      cases e : s.heap.get? b with
      | none => rfl
      | some o => rw [hk₂ b o e] at hb; cases hb
    have hYn : ∀ b ∈ wr ++ (Dx :: YL), s.heap.get? b = none := fun b hb => by
      rcases List.mem_append.mp hb with hb | hb
      · exact S.wn b hb
      · rcases List.mem_cons.mp hb with rfl | hb
        · exact none_of En.dn
        · exact none_of (En.yn b hb)
    refine fin Dx cenv.locals h' tk ds hns (none_of (En.yn _ En.loc)) ⟨h', tk, rfl, fun b o e => kx b o (fun q => by rw [hYn b q] at e; cases e) (En.kp b o (hk₂ b o e))⟩ ?_ hres
    simp only [Rep]
    refine ⟨_, ys, rfl, ?_, hys.isList, hrs.off fun b hb => ?_⟩
    · intro q
      rcases List.mem_cons.mp q with q | q
      · exact En.dy (q ▸ En.loc)
      · obtain ⟨o, e⟩ := F.live _ q; rw [none_of En.dn] at e; cases e
    · rcases List.mem_cons.mp hb with rfl | hb
      · exact .inl (List.mem_append_left _ En.loc)
      · exact .inl (List.mem_append_right _ (List.mem_append_right _ hb))
  exact codeAny_compStart_list L (again _ _ L)

theorem gcomp_ok {elt tgt iter : Expr} {ifs : List Expr} {rest : List Comprehension} {scope : Scope} {cpos : Pos} {s : Shared} {Q E : Value → Shared → Prop} (res : List D → Prop)
    (F : FR W sc env s.heap m) (hb : blockOk sc scope = true) (hset : notSet iter = true) (SG : Value → Shared → List Addr → Prop) (hSG : ∀ it s₂ wr, SG it s₂ wr → SrcG A prog w W s it s₂ wr)
    (src : ∀ Q', (∀ it s₂ wr, SG it s₂ wr → Q' it s₂) → wpAny (model prog w) A (eval iter env) (fun xv s₁ => wpAny (model prog w) A (pyIter xv) Q' E s₁) E s)
    (loop : ∀ it s₂ wr, SG it s₂ wr → ∀ Dx YL cenv h₄, Enter sc env scope m W wr s₂.heap Dx YL cenv h₄ → ∀ R : Result → Shared → Prop,
      (∀ h' tk ys ds, KX (wr ++ (Dx :: YL)) h₄ h' → (∃ μ, h'.Ns cenv.locals μ) → h'.PlainList Dx ys → Reps (YL ++ ((Dx :: wr) ++ W)) h' ds ys.toList → res ds → R (.ok .next) { s₂ with heap := h', toks := tk }) →
      codeAny (model prog w) A (.compLoop (.ListComp elt (⟨tgt, iter, ifs, 0⟩ :: rest) scope cpos) 0 it (.ref Dx) cenv) R { s₂ with heap := h₄ } ∧
      ∀ Q E', Q it { s₂ with heap := h₄ } → wpAny (model prog w) A (pyIter it) Q E' { s₂ with heap := h₄ })
    (hq : ∀ ds v s', Keeps s s' → Rep W s'.heap (.lst ds) v → res ds → Q v s') :
    wpAny (model prog w) A (eval (.ListComp elt (⟨tgt, iter, ifs, 0⟩ :: rest) scope cpos) env) Q E s := by
  rw [eval_ListComp]
  obtain ⟨hk, hnm⟩ := blockOk_names hb
  refine wpAny_comprehension_free (use := none) rfl (folded_eq hset env) (closureFor_eq (blockOk_free hb F)) hk hnm (src _ fun it s₂ wr hsrc => ?_)
  refine gcomp_core (RR := fun acc C => compPost (model prog w) A E none Q acc C) res F hb (hSG it s₂ wr hsrc) (loop it s₂ wr hsrc) ?_
  intro Dx C h' tk ds' hns hC hks hrep hpr
  obtain ⟨μ, hns⟩ := hns
  refine ⟨μ, hns, fun h'' hs'' => hq ds' _ _ ?_ ?_ hpr⟩
  · obtain ⟨h1, t1, e1, k1⟩ := hks
    cases e1
    exact ⟨h'', tk, rfl, fun b o e => (hs''.2 b (by rintro rfl; rw [hC] at e; cases e)).trans (k1 b o e)⟩
  · exact (hrep.mono (h' := h'') fun b o nb e => (hs''.2 b (fun q => nb (q ▸ List.mem_cons_self))).trans e).off fun b hb => .inl (List.mem_cons_of_mem _ hb)

/-- NAME = [comprehension] -/
theorem gcomp_assign {elt tgt iter : Expr} {ifs : List Expr} {rest : List Comprehension} {scope : Scope} {cpos spos py : Pos} {y : Str} {s : Shared} {Q : Flow → Shared → Prop} {E : Value → Shared → Prop} (res : List D → Prop)
    (F : FR W sc env s.heap m) (hb : blockOk sc scope = true) (hset : notSet iter = true) (hy : sc.lookup y = some .local ∨ sc.lookup y = some .cell) (hsw : ∃ b, swapsWith (.ListComp elt (⟨tgt, iter, ifs, 0⟩ :: rest) scope cpos) (some (.Name y py)) spos.line env = pure b)
    (SG : Value → Shared → List Addr → Prop) (hSG : ∀ it s₂ wr, SG it s₂ wr → SrcG A prog w W s it s₂ wr)
    (src : ∀ Q', (∀ it s₂ wr, SG it s₂ wr → Q' it s₂) → wpAny (model prog w) A (eval iter env) (fun xv s₁ => wpAny (model prog w) A (pyIter xv) Q' E s₁) E s)
    (loop : ∀ it s₂ wr, SG it s₂ wr → ∀ Dx YL cenv h₄, Enter sc env scope m W wr s₂.heap Dx YL cenv h₄ → ∀ R : Result → Shared → Prop,
      (∀ h' tk ys ds, KX (wr ++ (Dx :: YL)) h₄ h' → (∃ μ, h'.Ns cenv.locals μ) → h'.PlainList Dx ys → Reps (YL ++ ((Dx :: wr) ++ W)) h' ds ys.toList → res ds → R (.ok .next) { s₂ with heap := h', toks := tk }) →
      codeAny (model prog w) A (.compLoop (.ListComp elt (⟨tgt, iter, ifs, 0⟩ :: rest) scope cpos) 0 it (.ref Dx) cenv) R { s₂ with heap := h₄ } ∧
      ∀ Q E', Q it { s₂ with heap := h₄ } → wpAny (model prog w) A (pyIter it) Q E' { s₂ with heap := h₄ })
    (hq : ∀ ds h' tk, res ds → FR W sc env h' ((y, .lst ds) :: m) → KX W s.heap h' → (∃ a, (a = env.locals ∨ (sc.lookup y = some .cell ∧ env.cells.lookup y = some a)) ∧ ∀ b o, b ≠ a → s.heap.get? b = some o → h'.get? b = some o) → Q .next { s with heap := h', toks := tk }) :
    wpAny (model prog w) A (exec (.Assign [.Name y py] (.ListComp elt (⟨tgt, iter, ifs, 0⟩ :: rest) scope cpos) spos) env) Q E s := by
  obtain ⟨b, hsw⟩ := hsw
  cases b with
  | false =>
    refine asgN (gcomp_ok res F hb hset SG hSG src loop fun ds' v s' hks hr hpr => ?_) hsw
    obtain ⟨h', tk, rfl, hk⟩ := hks
    refine FR.store (s := { s with heap := h', toks := tk }) (F.keep hk) hy hr fun h'' tk'' F'' kx'' hb'' => ?_
    obtain ⟨a, ha, hb''⟩ := hb''
    exact hq ds' h'' tk'' hpr F'' ((KX.of hk).trans kx'') ⟨a, ha, fun b o nb e => hb'' b o nb (hk b o e)⟩
  | true =>
    rw [exec_Assign_Name_used _ _ _ _ hsw]
    refine wpAny_bind (wpAny_standAt (wpAny_bind ?_))
    show wpAny _ A (do let _ ← comprehension (.ListComp elt (⟨tgt, iter, ifs, 0⟩ :: rest) scope cpos) scope env _ (newList []) false (eval iter env) (some (assign (.Name y py) env))) _ _ s
    obtain ⟨hk, hnm⟩ := blockOk_names hb
    refine wpAny_bind (wpAny_mono (wpAny_comprehension_free (use := some (assign (.Name y py) env)) (Q := fun _ s' => Q .next s') rfl (folded_eq hset env) (closureFor_eq (blockOk_free hb F)) hk hnm
      (src _ fun it s₂ wr hsrc => ?_)) (fun _ s' hq => wpAny_pure (wpAny_pure hq)) fun _ _ e => e)
    refine gcomp_core (RR := fun acc C => compPost (model prog w) A E (some (assign (.Name y py) env)) (fun _ s' => Q .next s') acc C) res F hb (hSG it s₂ wr hsrc) (loop it s₂ wr hsrc) ?_
    intro Dx C h' tk ds' hns hC hks hrep hpr
    obtain ⟨μ, hns⟩ := hns
    obtain ⟨h1, t1, e1, k1⟩ := hks
    cases e1
    have hCW : C ∉ W := fun q => by obtain ⟨o, e⟩ := F.live C q; rw [hC] at e; cases e
    have F' : FR (C :: W) sc env h' m := F.grow (X := [C]) k1 (by simpa using hC) (fun b hb => by
      simp at hb; subst hb; obtain ⟨o, _, _, e, _⟩ := hns; exact ⟨o, e⟩)
    show wpAny _ A (assign (.Name y py) env (.ref Dx)) _ _ _
    refine wpAny_assign_Name (FR.store (s := { s with heap := h', toks := tk }) F' hy hrep fun h₂ tk₂ F₂ kx₂ hb₂ => ?_)
    obtain ⟨a, ha, hb₂⟩ := hb₂
    have haC : C ≠ a := by
      rcases ha with rfl | ⟨_, ha⟩
      · exact fun q => hCW (q ▸ F.loc)
      · exact fun q => hCW (q ▸ F.cin _ _ ha)
    refine ⟨μ, hns.at' fun o e => hb₂ C o haC e, fun h₃ hs₃ => ?_⟩
    refine hq ds' h₃ tk₂ hpr (F₂.drop F.loc F.cin hCW fun b o nb e => (hs₃.2 b nb).trans e) ?_ ⟨a, ha, fun b o nb e => ?_⟩
    · intro b o nb e
      have hbC : b ≠ C := by rintro rfl; rw [hC] at e; cases e
      exact (hs₃.2 b hbC).trans (kx₂ b o (fun q => by rcases List.mem_cons.mp q with q | q; exact hbC q; exact nb q) (k1 b o e))
    · have hbC : b ≠ C := by rintro rfl; rw [hC] at e; cases e
      exact (hs₃.2 b hbC).trans (hb₂ b o nb (k1 b o e))
end
end Mine
end

-- PairComp
section
open PySem PySem.W PyProof.Rows PySem.Calls PySem.SeqAt
set_option maxRecDepth 100000
namespace Mine
section
variable {prog : Program} {w : World} {A : Around} {h₀ : Heap}
variable {W YL : List Addr} {sc : List (Str × NameKind)} {env : Env} {m : Mp}

noncomputable abbrev emitOf (elt : Expr) (Dx : Addr) (env : Env) : Sem Unit := eval elt env >>= fun x => call (.builtin "list.append") [.ref Dx, x] >>= fun _ => pure ()

theorem emit_ok {elt : Expr} {Dx : Addr} {s₂ s₃ : Shared} {Acc : List D → Prop} {ys : Array Value} {ds : List D} {d : D} {E : Value → Shared → Prop} (hk : Keeps s₂ s₃) (F : FR W sc env s₃.heap m) (hys : s₂.heap.PlainList Dx ys) (hrs : Reps W s₂.heap ds ys.toList) (hsz : ds.length ≤ bound) (hDW : Dx ∈ W) (hDL : Dx ≠ env.locals) (hDc : ∀ y c, env.cells.lookup y = some c → c ≠ Dx)
    (ev : ∀ Q : Value → Shared → Prop, Then W s₃ d Q → wpAny (model prog w) A (eval elt env) Q E s₃) (hA : Acc (ds ++ [d])) :
    wpAny (model prog w) A (emitOf elt Dx env) (fun _ s₄ => CPost W YL sc env m Dx Acc s₂ s₄) E s₃ := by
  obtain ⟨h₃, tk₃, rfl, hk₃⟩ := hk
  refine wpAny_bind (ev _ fun v => kfor fun h₄ tk₄ hk₄ r₄ => ?_)
  dsimp only at hk₄ r₄ F
  have len := hrs.length
  rw [Array.length_toList] at len
  refine wpAny_bind (wpAny_list_append_plain (s := { s₂ with heap := h₄, toks := tk₄ }) (hsz := by rw [len]; exact Nat.le_trans hsz bound_le) ((hys.at fun o e => hk₃ _ o e).at fun o e => hk₄ _ o e) fun h₅ hl₅ hs₅ => wpAny_pure ?_)
  have ky₅ : KX [Dx] h₄ h₅ := fun b o nb e => hs₅.extBut b o (by simpa using nb) e
  have hW1 : ∀ b ∈ [Dx], b ∈ W := by simpa using hDW
  refine ⟨h₅, tk₄, rfl, ((KX.of hk₃).trans (KX.of hk₄)).trans (ky₅.mono fun b hb => by simp at hb; rw [hb]; exact List.mem_cons_self), ?_, ys.push v, ds ++ [d], hl₅, ?_, hA⟩
  · exact (F.keep hk₄).but (X := [Dx]) ky₅ hW1 (by simpa using Ne.symm hDL) (fun z c e q => hDc z c e (by simpa using q)) (fun z hz => by obtain ⟨q, e⟩ := hl₅; simp at hz; subst hz; exact ⟨_, e⟩)
  · rw [Array.toList_push]
    exact ((((hrs.mono (KX.of hk₃)).mono (KX.of hk₄)).mono (ky₅.mono hW1))).append (Reps.one (r₄.mono (ky₅.mono hW1)))

noncomputable def pcomp2 (t : D × D → Option Bool) (e : D × D → Option D) : List (D × D) → Option (List D)
  | [] => some []
  | d :: r => match t d with
    | none => none
    | some false => pcomp2 t e r
    | some true => match e d, pcomp2 t e r with | some y, some ys => some (y :: ys) | _, _ => none
theorem pcomp2_app {t : D × D → Option Bool} {e : D × D → Option D} {d : D × D} : ∀ {l : List (D × D)} {ys : List D}, pcomp2 t e l = some ys → (t d = some false → pcomp2 t e (l ++ [d]) = some ys) ∧ (∀ y, t d = some true → e d = some y → pcomp2 t e (l ++ [d]) = some (ys ++ [y]))
  | [], ys, h => by
    simp only [pcomp2] at h; cases h
    refine ⟨fun ht => ?_, fun y ht hy => ?_⟩ <;> simp [pcomp2, ht]
    rw [hy]
  | x :: l, ys, h => by
    simp only [pcomp2] at h
    split at h
    · cases h
    · rename_i hx
      obtain ⟨i1, i2⟩ := pcomp2_app (d := d) h
      refine ⟨fun ht => ?_, fun y ht hy => ?_⟩ <;> simp only [List.cons_append, pcomp2, hx]
      · exact i1 ht
      · exact i2 y ht hy
    · rename_i hx
      split at h
      · rename_i y' ys' hy' hys'
        cases h
        obtain ⟨i1, i2⟩ := pcomp2_app (d := d) hys'
        refine ⟨fun ht => ?_, fun y ht hy => ?_⟩ <;> simp only [List.cons_append, pcomp2, hx, hy']
        · rw [i1 ht]
        · rw [i2 y ht hy]
      · cases h
theorem pcomp2_each {t : D × D → Option Bool} {e : D × D → Option D} : ∀ {l : List (D × D)} {ys : List D}, pcomp2 t e l = some ys → ∀ d ∈ l, ∃ b, t d = some b ∧ (b = true → ∃ y, e d = some y)
  | [], _, _, d, hd => by cases hd
  | x :: l, ys, h, d, hd => by
    simp only [pcomp2] at h
    split at h
    · cases h
    · rename_i hx
      rcases List.mem_cons.mp hd with rfl | hd
      · exact ⟨false, hx, fun q => by cases q⟩
      · exact pcomp2_each h d hd
    · rename_i hx
      split at h
      · rename_i y' ys' hy' hys'
        rcases List.mem_cons.mp hd with rfl | hd
        · exact ⟨true, hx, fun _ => ⟨y', hy'⟩⟩
        · exact pcomp2_each hys' d hd
      · cases h
theorem pcomp2_len {t : D × D → Option Bool} {e : D × D → Option D} : ∀ {l : List (D × D)} {ys : List D}, pcomp2 t e l = some ys → ys.length ≤ l.length
  | [], ys, h => by simp only [pcomp2] at h; cases h; simp
  | x :: l, ys, h => by
    simp only [pcomp2] at h
    split at h
    · cases h
    · have := pcomp2_len h; simp; omega
    · split at h
      · rename_i hys'; cases h; have := pcomp2_len hys'; simp; omega
      · cases h

/-- an iterator over pairs -/
noncomputable def SrcP (prog : Program) (w : World) (A : Around) (W : List Addr) (s : Shared) (ds : List (D × D)) (it : Value) (s₂ : Shared) (wr : List Addr) : Prop :=
  ∃ I fp n Pt St Mid, it = .ref I ∧ WalksU prog w A I fp wr n Pt St Mid ∧ (∀ i h, St i h → ∀ b ∈ wr, ∃ o, h.get? b = some o) ∧ ds.length = n ∧ St 0 s₂.heap ∧ Keeps s s₂ ∧
    (∀ b ∈ wr, s.heap.get? b = none) ∧ (∀ b ∈ fp, b ∉ W ∧ ∃ o, s₂.heap.get? b = some o) ∧ ∀ i vals, i < n → Pt i vals → ∃ u v d, vals = #[u, v] ∧ ds[i]? = some d ∧ Rep (wr ++ W) s₂.heap d.1 u ∧ Rep (wr ++ W) s₂.heap d.2 v
theorem SrcP.g {s : Shared} {ds : List (D × D)} {it : Value} {s₂ : Shared} {wr : List Addr} (S : SrcP prog w A W s ds it s₂ wr) : SrcG A prog w W s it s₂ wr := by
  obtain ⟨I, fp, n, Pt, St, Mid, rfl, Wk, hlive, hn, hst, hk₂, hwr, hfp, items⟩ := S
  exact ⟨hk₂, hwr, hlive 0 _ hst⟩

/-- off-lists grow by what is fresh -/
theorem Enter.rep {h₂ : Heap} {scope : Scope} {wr : List Addr} {Dx : Addr} {cenv : Env} {h₄ : Heap} (En : Enter sc env scope m W wr h₂ Dx YL cenv h₄) {d : D} {v : Value} (r : Rep (wr ++ W) h₂ d v) : Rep (YL ++ ((Dx :: wr) ++ W)) h₄ d v := by
  refine (r.off (W' := YL ++ ((Dx :: wr) ++ W)) fun b hb => ?_).mono (KX.of En.kp)
  rcases List.mem_append.mp hb with hb | hb
  · exact .inr (En.yn b hb)
  · rcases List.mem_append.mp hb with hb | hb
    · rcases List.mem_cons.mp hb with rfl | hb
      · exact .inr En.dn
      · exact .inl (List.mem_append_left _ hb)
    · exact .inl (List.mem_append_right _ hb)

theorem pair_loop {k : Nat} {F M : Str → List D → Option D} {n : Nat} (EV : EvS prog w h₀ k F M n) (TS : TsS prog w h₀ k F M n) (R : Room A k) {s : Shared} (Fr : FR W sc env s.heap m) (T : Tp h₀ s.heap)
    {elt iter : Expr} {x y : Str} {px py tp pos : Pos} {tk : Nat} {ifs : List Expr} {scope : Scope} {ds : List (D × D)} {ys : List D} (hb : ds.length ≤ bound) (hx : scope.names.lookup x = some .local ∨ scope.names.lookup x = some .cell) (hy : scope.names.lookup y = some .local ∨ scope.names.lookup y = some .cell) (hxy : x ≠ y)
    (hp : pcomp2 (fun d => ptests (ptest F M n scope.names ((y, d.2) :: (x, d.1) :: freeOf scope m)) ifs) (fun d => pev F M n scope.names ((y, d.2) :: (x, d.1) :: freeOf scope m) elt) ds = some ys)
    {it : Value} {s₂ : Shared} {wr : List Addr} (S : SrcP prog w A W s ds it s₂ wr) {Dx : Addr} {cenv : Env} {h₄ : Heap} (En : Enter sc env scope m W wr s₂.heap Dx YL cenv h₄) (RR : Result → Shared → Prop)
    (fin : ∀ h' tk zs ds', KX (wr ++ (Dx :: YL)) h₄ h' → (∃ μ, h'.Ns cenv.locals μ) → h'.PlainList Dx zs → Reps (YL ++ ((Dx :: wr) ++ W)) h' ds' zs.toList → ds' = ys → RR (.ok .next) { s₂ with heap := h', toks := tk }) :
    codeAny (model prog w) A (.compLoop (.ListComp elt [⟨.Tuple [.Name x px, .Name y py] tk tp, iter, ifs, 0⟩] scope pos) 0 it (.ref Dx) cenv) RR { s₂ with heap := h₄ } ∧
      ∀ Q E', Q it { s₂ with heap := h₄ } → wpAny (model prog w) A (pyIter it) Q E' { s₂ with heap := h₄ } := by
  obtain ⟨I, fp, nn, Pt, St, Mid, rfl, Wk, hlive, hn, hst, hk₂, hwr, hfp, items⟩ := S
  obtain ⟨h₂, tk₂, rfl, hk₂⟩ := hk₂
  dsimp only at hst hfp items hk₂ En fin ⊢
  have hst₄ : St 0 h₄ := Wk.frame _ _ _ hst fun b _ o e => En.kp b o e
  have none_of : ∀ {b}, h₂.get? b = none → s.heap.get? b = none := fun {b} hb => by
    cases e : s.heap.get? b with
    | none => rfl
    | some o => rw [hk₂ b o e] at hb; cases hb
  have hYf : ∀ b ∈ YL, b ∉ fp := fun b hb q => by obtain ⟨o, e⟩ := (hfp b q).2; rw [En.yn b hb] at e; cases e
  have hDf : Dx ∉ fp := fun q => by obtain ⟨o, e⟩ := (hfp _ q).2; rw [En.dn] at e; cases e
  have hDc : ∀ y c, cenv.cells.lookup y = some c → c ≠ Dx := fun y c e q => by
    rcases En.cel y c e with h | h
    · exact En.dy (q ▸ h)
    · obtain ⟨o, e⟩ := Fr.live c (Fr.cin y c h); rw [q, none_of En.dn] at e; cases e
  have hcw : ∀ y c, cenv.cells.lookup y = some c → c ∉ wr := fun y c e q => by
    rcases En.cel y c e with h | h
    · exact hYf c h (Wk.sub _ q)
    · obtain ⟨o, e⟩ := Fr.live c (Fr.cin y c h); rw [hwr c q] at e; cases e
  have hmx : ∀ z, (scope.names.lookup z = some .local ∨ scope.names.lookup z = some .cell) → (freeOf scope m).lookup z = none := fun z hz => by
    unfold freeOf
    rw [lookup_filter (q := fun y => scope.names.lookup y == some NameKind.free), if_neg]
    rcases hz with hz | hz <;> simp [hz]
  generalize hWW : YL ++ ((Dx :: wr) ++ W) = W' at *
  have hYW : ∀ b ∈ YL, b ∈ W' := fun b hb => hWW ▸ List.mem_append_left _ hb
  have hDW : Dx ∈ W' := hWW ▸ List.mem_append_right _ (List.mem_append_left _ List.mem_cons_self)
  have hwW : ∀ b ∈ wr, b ∈ W' := fun b hb => hWW ▸ List.mem_append_right _ (List.mem_append_left _ (List.mem_cons_of_mem _ hb))
  have Fd : Feed prog w A (.Tuple [.Name x px, .Name y py] tk tp) scope.names cenv (.ref I) W' YL fp wr h₄ nn (fun i => [(y, (ds.getD i (D.none, D.none)).2), (x, (ds.getD i (D.none, D.none)).1)]) St := by
    refine Feed.pair R.hd Wk hlive hwW (fun i => (ds.getD i (D.none, D.none)).1) (fun i => (ds.getD i (D.none, D.none)).2) hx hy En.loc En.own hYf hcw fun i vals hi hP => ?_
    obtain ⟨u, v, d, rfl, hd, r1, r2⟩ := items i vals hi hP
    refine ⟨u, v, rfl, ?_, ?_⟩
    · have := En.rep r1
      rw [hWW] at this
      simpa [List.getD_eq_getElem?_getD, hd] using this
    · have := En.rep r2
      rw [hWW] at this
      simpa [List.getD_eq_getElem?_getD, hd] using this
  have hFr4 : FR W' scope.names cenv h₄ (freeOf scope m) := hWW ▸ En.fr
  refine ⟨?_, fun Q E' hq => Wk.self 0 _ _ _ hst₄ hq⟩
  refine comp_feed (s := { s with heap := h₄, toks := tk₂ }) (m := freeOf scope m) (emit := emitOf elt Dx cenv) (p := iter.pos) (ifs := ifs) (fun i out => pcomp2 (fun d => ptests (ptest F M n scope.names ((y, d.2) :: (x, d.1) :: freeOf scope m)) ifs) (fun d => pev F M n scope.names ((y, d.2) :: (x, d.1) :: freeOf scope m) elt) (ds.take i) = some out)
    Fd rfl En.dy hYW hYf hDW hDf hst₄ hFr4 En.dl (ds₀ := []) (by simpa using Reps.nil) rfl ?_ ?_
  · intro i hi s₃ zs out E' hs F₃ kx hzs hrs hA
    obtain ⟨h₃, tk₃, rfl⟩ := hs
    dsimp only at F₃ kx hzs hrs
    have hd : ds[i]? = some (ds[i]'(by omega)) := List.getElem?_eq_getElem (by omega)
    generalize ds[i]'(by omega) = d at hd
    have hgd : ds.getD i (D.none, D.none) = d := by simp [List.getD_eq_getElem?_getD, hd]
    rw [hgd] at F₃
    have htake : ds.take (i + 1) = ds.take i ++ [d] := by rw [List.take_add_one, hd]; rfl
    obtain ⟨b, hb', he'⟩ := pcomp2_each hp d (List.mem_of_getElem? hd)
    obtain ⟨a1, a2⟩ := pcomp2_app (d := d) hA
    have T₃ : Tp h₀ h₃ := T.keep fun b o e => kx b o (fun q => by
        have : s.heap.get? b = none := by
          rcases List.mem_append.mp q with q | q
          · exact hwr b q
          · rcases List.mem_cons.mp q with rfl | q
            · exact none_of En.dn
            · exact none_of (En.yn b q)
        rw [this] at e; cases e) (En.kp b o (hk₂ b o e))
    have drop : ∀ z d', (freeOf scope m).lookup z = some d' → ((y, d.2) :: (x, d.1) :: freeOf scope m).lookup z = some d' := fun z d' e => by
      by_cases q : z = y
      · subst q; rw [hmx _ hy] at e; cases e
      · rw [lookup_cons_ne q]
        by_cases q : z = x
        · subst q; rw [hmx _ hx] at e; cases e
        · rw [lookup_cons_ne q]; exact e
    refine tests_ok TS R hb' F₃ T₃ (kfor fun h₅ tk₅ hk₅ => ?_)
    cases b with
    | false =>
      simp only [Bool.false_eq_true, if_false]
      refine ⟨h₅, tk₅, rfl, KX.of hk₅, (F₃.keep hk₅).weaken drop, zs, out, hzs.at fun o e => hk₅ _ o e, hrs.mono (KX.of hk₅), ?_⟩
      rw [htake]; exact a1 hb'
    | true =>
      simp only [if_true]
      obtain ⟨y', hy'⟩ := he' rfl
      refine emit_ok (d := y') ⟨h₅, tk₅, rfl, hk₅⟩ ((F₃.keep hk₅).weaken drop) hzs hrs ?_ hDW (fun q => En.dy (q ▸ En.loc)) hDc (fun Q hq => EV R hy' (F₃.keep hk₅) (T₃.keep hk₅) hq) ?_
      · have := pcomp2_len hA
        rw [List.length_take] at this
        omega
      · rw [htake]; exact a2 y' hb' hy'
  · intro h h' tk zs out F' kw kx hzs hrs hA
    refine fin h' tk zs out kx ?_ hzs hrs ?_
    · obtain ⟨μ, h1, _⟩ := F'.ns
      exact ⟨μ, h1.at' fun o e => kw _ o (fun q => hYf _ En.loc (Wk.sub _ q)) e⟩
    · rw [List.take_of_length_le (by omega), hp] at hA
      exact (Option.some.inj hA).symm
end
end Mine
end

-- EnumSrc
section
open PySem PySem.W PyProof.Rows PySem.Calls PySem.SeqAt
set_option maxRecDepth 100000
namespace Mine
noncomputable def enumD (ds : List D) : List (D × D) := (List.range ds.length).map fun (i : Nat) => (.int (i : Int), ds.getD i .none)
theorem enumD_get {ds : List D} {i : Nat} {d : D} (h : ds[i]? = some d) : (enumD ds)[i]? = some (.int (i : Int), d) := by
  have hi : i < ds.length := (List.getElem?_eq_some_iff.mp h).1
  unfold enumD
  rw [List.getElem?_map, List.getElem?_range hi]
  simp [List.getD_eq_getElem?_getD, h]
section
variable {prog : Program} {w : World} {A : Around} {h₀ : Heap}
variable {W : List Addr} {sc : List (Str × NameKind)} {env : Env} {m : Mp}

theorem enum_src {s : Shared} {h₁ h' : Heap} {tk : Nat} {ds : List D} {it : Addr} {fp : List Addr} {n : Nat} {P : Nat → Value → Prop} {St : Nat → Heap → Prop} (lv : Live W s.heap) (hk₁ : ∀ b o, s.heap.get? b = some o → h₁.get? b = some o)
    (Dr : Draws prog w A.in1 it fp n P St) (hit : it = h₁.objs.size) (hif : it ∈ fp) (hfp : ∀ b ∈ fp, b ≠ it → b ∉ W ∧ ∃ o, h₁.get? b = some o) (he : IsEnum h' (h₁.objs.size + 1) h₁.objs.size 0 .none) (hst : St 0 h') (hk : ∀ b o, h₁.get? b = some o → h'.get? b = some o) (hn : ds.length = n)
    (items : ∀ i v, i < n → P i v → ∃ d, ds[i]? = some d ∧ Rep W h₁ d v) :
    SrcP prog w A W s (enumD ds) (.ref (h₁.objs.size + 1)) { s with heap := h', toks := tk } [h₁.objs.size + 1, it] := by
  subst hit
  have h1none : ∀ {b}, h₁.objs.size ≤ b → h₁.get? b = none := fun {b} hb => by
    cases e : h₁.get? b with
    | none => rfl
    | some o => exact absurd (Heap.lt_size e) (Nat.not_lt.mpr hb)
  have hnone : ∀ {b}, h₁.objs.size ≤ b → s.heap.get? b = none := fun {b} hb => by
    cases e : s.heap.get? b with
    | none => rfl
    | some o => have := h1none hb; rw [hk₁ b o e] at this; cases this
  have hwn : ∀ b ∈ [h₁.objs.size + 1, h₁.objs.size], h₁.objs.size ≤ b := fun b hb => by
    simp at hb; rcases hb with rfl | rfl <;> omega
  have hef : h₁.objs.size + 1 ∉ fp := fun q => by
    obtain ⟨_, o, e⟩ := hfp _ q (Nat.succ_ne_self _)
    rw [h1none (by omega)] at e; cases e
  refine ⟨_, _, n, _, _, _, rfl, (WalksT.enumerateD Dr (h₁.objs.size + 1) (Nat.succ_ne_self _) hef hif).toU, ?_, by simp [enumD, hn], ⟨⟨_, he⟩, hst⟩, ⟨h', tk, rfl, fun b o e => hk b o (hk₁ b o e)⟩, fun b hb => hnone (hwn b hb), ?_, ?_⟩
  · rintro i h ⟨⟨old, he⟩, hs⟩ b hb
    simp at hb
    rcases hb with rfl | rfl
    · exact ⟨_, he⟩
    · exact Dr.live _ _ hs
  · intro b hb
    have hnW : ∀ {b}, h₁.objs.size ≤ b → b ∉ W := fun {b} hb q => by obtain ⟨o, e⟩ := lv b q; rw [hnone hb] at e; cases e
    rcases List.mem_cons.mp hb with rfl | hb
    · exact ⟨hnW (by omega), _, he⟩
    · by_cases q : b = h₁.objs.size
      · subst q
        obtain ⟨o, e⟩ := Dr.live _ _ hst
        exact ⟨hnW (Nat.le_refl _), o, e⟩
      · obtain ⟨h1, o, e⟩ := hfp b hb q
        exact ⟨h1, o, hk b o e⟩
  · rintro i vals hi ⟨t, x, hP, rfl⟩
    obtain ⟨d, hd, rd⟩ := items i x hi hP
    refine ⟨_, _, _, rfl, enumD_get hd, rep_int, (rd.off (W' := [h₁.objs.size + 1, h₁.objs.size] ++ W) fun b hb => ?_).mono (KX.of hk)⟩
    rcases List.mem_append.mp hb with hb | hb
    · exact .inr (h1none (hwn b hb))
    · exact .inl hb

theorem src_enum_str {ev : Expr → Option D} (H : ES prog w A W sc env m h₀ ev) {s : Shared} {e : Expr} {p pos : Pos} {x : Str} {E : Value → Shared → Prop} (B : Base w.params h₀) (hh : A.handled = none) (F : FR W sc env s.heap m) (T : Tp h₀ s.heap) (hf : sc.lookup ("enumerate" : Str) = some .globalImplicit) (hs : noStar e = true) (he : ev e = some (.str x))
    (Q' : Value → Shared → Prop) (hq : ∀ it s₂ wr, SrcP prog w A W s (enumD ((signs x).map .str)) it s₂ wr → Q' it s₂) : wpAny (model prog w) A (eval (.Call (.Name "enumerate" p) [e] [] pos) env) (fun xv s₁ => wpAny (model prog w) A (pyIter xv) Q' E s₁) E s := by
  rw [arm_eval_Call_Name']
  refine wpAny_bind (glob_blt B F T hf (by decide) (by decide) (by kernel_rfl) boot_enumerate ?_)
  show wpAny _ A (callWith pos (.type "enumerate") [] (backTo pos (starEach [e] env)) []) _ E s
  rw [starEach_cons hs]
  refine _root_.PySem.callWith_type1 (H he F T fun v s₁ k1 r1 => ?_)
  simp only [Rep] at r1
  obtain ⟨t, rfl⟩ := r1
  obtain ⟨h₁, tk₁, rfl, hk₁⟩ := k1
  refine call_enumerate_str fun h' he hit hsz hk => wpAny_pyIter_enum he (hq _ _ [h₁.objs.size + 1, h₁.objs.size] ?_)
  have items : ∀ i v, (∃ c u, x.cps[i]? = some c ∧ v = Value.str ⟨#[c]⟩ u) → ∃ d, ((signs x).map D.str)[i]? = some d ∧ Rep W h₁ d v := fun i v hv => by
    obtain ⟨c, u, hc, rfl⟩ := hv
    exact ⟨.str ⟨#[c]⟩, by rw [List.getElem?_map, signs_get hc]; rfl, rep_str⟩
  have side : ∀ b ∈ [h₁.objs.size], b ≠ h₁.objs.size → b ∉ W ∧ ∃ o, h₁.get? b = some o := fun b hb q => absurd (by simpa using hb) q
  cases ha : x.cps.all (· < 128)
  · have hit' : h'.IsStrIter h₁.objs.size "str_iterator" x t 0 := by simpa [strIterType, ha] using hit
    exact enum_src F.live hk₁ (Draws.strWide (A := A.in1) hh h₁.objs.size x t) rfl (by simp) side he hit' hk (by simp [signs_length, Str.length]) fun i v _ => items i v
  · have hit' : h'.IsStrIter h₁.objs.size "str_ascii_iterator" x t 0 := by simpa [strIterType, ha] using hit
    exact enum_src F.live hk₁ (Draws.strAscii (A := A.in1) hh h₁.objs.size x t) rfl (by simp) side he hit' hk (by simp [signs_length, Str.length]) fun i v _ => items i v

theorem src_enum_list {ev : Expr → Option D} (H : ES prog w A W sc env m h₀ ev) {s : Shared} {e : Expr} {p pos : Pos} {ds : List D} {E : Value → Shared → Prop} (B : Base w.params h₀) (hh : A.handled = none) (F : FR W sc env s.heap m) (T : Tp h₀ s.heap) (hf : sc.lookup ("enumerate" : Str) = some .globalImplicit) (hs : noStar e = true) (he : ev e = some (.lst ds))
    (Q' : Value → Shared → Prop) (hq : ∀ it s₂ wr, SrcP prog w A W s (enumD ds) it s₂ wr → Q' it s₂) : wpAny (model prog w) A (eval (.Call (.Name "enumerate" p) [e] [] pos) env) (fun xv s₁ => wpAny (model prog w) A (pyIter xv) Q' E s₁) E s := by
  rw [arm_eval_Call_Name']
  refine wpAny_bind (glob_blt B F T hf (by decide) (by decide) (by kernel_rfl) boot_enumerate ?_)
  show wpAny _ A (callWith pos (.type "enumerate") [] (backTo pos (starEach [e] env)) []) _ E s
  rw [starEach_cons hs]
  refine _root_.PySem.callWith_type1 (H he F T fun v s₁ k1 r1 => ?_)
  simp only [Rep] at r1
  obtain ⟨l, its, rfl, hlW, hl, hrs⟩ := r1
  obtain ⟨h₁, tk₁, rfl, hk₁⟩ := k1
  dsimp only at hl hrs
  refine call_enumerate_list hl fun h' he hit hsz hk => wpAny_pyIter_enum he (hq _ _ [h₁.objs.size + 1, h₁.objs.size] ?_)
  obtain ⟨o, ho, _⟩ := id hl
  have len := hrs.length
  rw [Array.length_toList] at len
  refine enum_src F.live hk₁ (Draws.list (A := A.in1) hh h₁.objs.size l (Nat.ne_of_lt (Heap.lt_size ho)) its) rfl (by simp) (fun b hb q => ?_) he ⟨hit, hl.at fun o e => hk l o e⟩ hk len.symm fun i v _ hv => ?_
  · simp at hb
    rcases hb with rfl | rfl
    · exact absurd rfl q
    · exact ⟨hlW, o, ho⟩
  · rw [← Array.getElem?_toList] at hv
    exact hrs.getV hv
end
end Mine
end

-- Letters
section
open PySem PySem.W PyProof.Rows PySem.Calls PySem.SeqAt
set_option maxRecDepth 100000
namespace Mine
theorem pcomp2_map {α : Type} {t : D × D → Option Bool} {e : D × D → Option D} (f : α → D × D) (q : α → Bool) (g : α → D) : ∀ (L : List α), (∀ y ∈ L, t (f y) = some (q y)) → (∀ y ∈ L, q y = true → e (f y) = some (g y)) → pcomp2 t e (L.map f) = some ((L.filter q).map g)
  | [], _, _ => rfl
  | y :: L, h1, h2 => by
    have ih := pcomp2_map f q g L (fun z hz => h1 z (List.mem_cons_of_mem _ hz)) (fun z hz => h2 z (List.mem_cons_of_mem _ hz))
    rw [List.map_cons, pcomp2, h1 y List.mem_cons_self]
    cases hq : q y with
    | false => simp only [List.filter_cons, hq]; exact ih
    | true =>
      simp only [h2 y List.mem_cons_self hq, ih, List.filter_cons, hq]; rfl
noncomputable def abcd : List (Int × Str) := [(0, "a"), (1, "b"), (2, "c"), (3, "d")]
noncomputable def bitOf (v p : Int) : Bool := Int.fmod (Int.fdiv v (2 ^ p.toNat)) 2 == 1
noncomputable def lettersL (v : Int) : List Str := (abcd.filter fun p => bitOf v p.1).map (·.2)
noncomputable def pairOf (p : Int × Str) : D × D := (.int p.1, .str p.2)
theorem enum_abcd : enumD ((signs "abcd").map .str) = abcd.map pairOf := by kernel_rfl

theorem at101 (P : Params) : ∃ o, (K P).lookup 101 = some o ∧ o.data = .func (fdOf P 101) := ⟨_, rfl, rfl⟩
theorem bd101 (P : Params) : (fdOf P 101).body = .stmts (bodyOf P 101) := rfl
theorem ok101 (P : Params) : fnOk ["which"] (fdOf P 101) = true := by kernel_rfl
theorem cd101 (P : Params) : codeIn (K P) (fdOf P 101).code (fdOf P 101).qualname = true := by kernel_rfl
theorem bi101 (P : Params) (vs : List Value) (h : vs.length = 1) : bindArgs (fdOf P 101) ⟨vs, []⟩ = pure ((["which"] : List Str).zip vs) := by
  obtain ⟨a, rfl⟩ := len1 h
  kernel_rfl
theorem gl101 (P : Params) : nsIn (K P) mainGlobals "_law_letters" = some (some (.ref 101)) := by kernel_rfl

section
variable {prog : Program} {w : World} {A : Around} {h₀ : Heap}
variable {W Y : List Addr} {sc : List (Str × NameKind)} {env : Env} {m : Mp}

theorem letters_call {k : Nat} (B : Base w.params h₀) (v : Int) : CallOk prog w h₀ (k + 1) 101 [.int v] (S (lettersL v)) := by
  intro A W s vs Q E R T lv hr hq
  obtain ⟨o, h1, h2⟩ := at101 w.params
  refine call_frame (ps := ["which"]) B R T lv h1 h2 (cd101 _) (bd101 _) (ok101 _) (bi101 _ vs hr.length) hr fun Y env h₁ tk₁ hY henv O Fr hk₁ hYn => ?_
  have R' := R.deeper env
  obtain ⟨EV, TS⟩ := ev_sound (k := k) (F := M0) (M := M0) B F0_ok M0_ok 30
  have T₁ := T.keep hk₁
  refine ec (wpAny_Return_some ?_)
  refine gcomp_ok (s := { s with heap := h₁, toks := tk₁ }) (fun ds => ds = (lettersL v).map D.str) Fr (by kernel_rfl) rfl (SrcP prog w (A.deeper env) (Y ++ W) { s with heap := h₁, toks := tk₁ } (abcd.map pairOf)) (fun it s₂ wr S => S.g)
    (fun Q' hq' => src_enum_str (EV R') B R'.hd Fr T₁ (by kernel_rfl) rfl (by kernel_rfl) Q' fun it s₂ wr S => hq' it s₂ wr (by rw [enum_abcd] at S; exact S)) (fun it s₂ wr S Dx YL cenv h₄ En RR fin => ?_) ?_
  · refine pair_loop EV TS R' Fr T₁ (by decide) (.inl (by kernel_rfl)) (.inl (by kernel_rfl)) (by decide) ?_ S En RR fin
    rw [show (lettersL v).map D.str = (abcd.filter fun p => bitOf v p.1).map fun p => D.str p.2 by simp [lettersL, Function.comp]]
    refine pcomp2_map pairOf (fun p => bitOf v p.1) (fun p => .str p.2) abcd (fun p hp => ?_) (fun p hp _ => by kernel_rfl)
    simp [abcd] at hp
    rcases hp with rfl | rfl | rfl | rfl <;> kernel_rfl
  · intro ds u s' k' r' hres
    subst hres
    exact hq u s' (ktr ⟨h₁, tk₁, rfl, hk₁⟩ k') (r'.off fun b hb => .inl (List.mem_append_right _ hb))
end
end Mine
end

-- Asked
section
open PySem PySem.W PyProof.Rows PySem.Calls PySem.SeqAt
set_option maxRecDepth 100000
namespace Mine
noncomputable def joinAll : List Str → Str := Txt.join ""
noncomputable def nameOf (i : Int) : Str :=
  let n := joinAll (lettersL i)
  let n := if i.fmod 3 == 0 then Txt.upper n else n
  let n := if i.fmod 3 == 1 then n ++ ("*" : Str) else n
  n ++ ("/abcd" : Str)
theorem at108 (P : Params) : ∃ o, (K P).lookup 108 = some o ∧ o.data = .func (fdOf P 108) := ⟨_, rfl, rfl⟩
theorem bd108 (P : Params) : (fdOf P 108).body = .stmts (bodyOf P 108) := rfl
theorem ok108 (P : Params) : fnOk ["letters", "which"] (fdOf P 108) = true := by kernel_rfl
theorem cd108 (P : Params) : codeIn (K P) (fdOf P 108).code (fdOf P 108).qualname = true := by kernel_rfl
theorem bi108 (P : Params) (vs : List Value) (h : vs.length = 2) : bindArgs (fdOf P 108) ⟨vs, []⟩ = pure ((["letters", "which"] : List Str).zip vs) := by
  obtain ⟨a, b, rfl⟩ := len2 h
  kernel_rfl
theorem gl108 (P : Params) : nsIn (K P) mainGlobals "_law_asked" = some (some (.ref 108)) := by kernel_rfl
noncomputable def i16 : List Int := [0, 1, 2, 3, 4, 5, 6, 7, 8, 9, 10, 11, 12, 13, 14, 15]
theorem ex108 (P : Params) (i : Int) (hi : i ∈ i16) :
    pexecs (pexec M0 M0 10 (fdOf P 108).scope.names) ((["letters", "which"] : List Str).zip [S (lettersL i), .int i]) (bodyOf P 108) = some (.ret (.str (nameOf i))) := by
  simp only [i16, List.mem_cons, List.not_mem_nil, or_false] at hi
  rcases hi with rfl | rfl | rfl | rfl | rfl | rfl | rfl | rfl | rfl | rfl | rfl | rfl | rfl | rfl | rfl | rfl <;> kernel_rfl
theorem asked_call {prog : Program} {w : World} {h₀ : Heap} {k : Nat} (B : Base w.params h₀) {i : Int} (hi : i ∈ i16) : CallOk prog w h₀ (k + 1) 108 [S (lettersL i), .int i] (.str (nameOf i)) := by
  obtain ⟨o, h1, h2⟩ := at108 w.params
  exact fn_call (F := M0) (M := M0) B F0_ok M0_ok h1 h2 (cd108 _) (bd108 _) (ok108 _) (fun vs h => bi108 _ vs h) (ex108 _ i hi)
end Mine
end

-- RuleC
section
open PySem PySem.W PyProof.Rows PySem.Calls PySem.SeqAt
set_option maxRecDepth 100000
namespace Mine

/-- a call's contract, where what comes back is known up to R -/
noncomputable abbrev CallR (prog : Program) (w : World) (h₀ : Heap) (k : Nat) (a : Addr) (ds : List D) (RR : D → Prop) : Prop :=
  ∀ (A : Around) (W : List Addr) (s : Shared) (vs : List Value) (Q E : Value → Shared → Prop), Room A k → Tp h₀ s.heap → Live W s.heap → Reps W s.heap ds vs → (∀ d, RR d → Then W s d Q) → wpAny (model prog w) A (call (.ref a) vs) Q E s

section
variable {prog : Program} {w : World} {A : Around} {h₀ : Heap} {k : Nat}
variable {W Y : List Addr} {sc : List (Str × NameKind)} {env : Env} {m : Mp} {s : Shared}

theorem call_fnR {ev : Expr → Option D} (H : ES prog w A W sc env m h₀ ev) (B : Base w.params h₀) (R : Room A k) (Fr : FR W sc env s.heap m) (T : Tp h₀ s.heap)
    {f : Str} {p pos : Pos} {args : List Expr} {ds : List D} {a : Addr} {o : Obj} {fd : FuncData} {RR : D → Prop} {Q E : Value → Shared → Prop} (hn : nsIn (K w.params) mainGlobals f = some (some (.ref a))) (hl : (K w.params).lookup a = some o) (hdat : o.data = .func fd)
    (hc : CallR prog w h₀ k a ds RR) (hf : sc.lookup f = some .globalImplicit) (hd : f ≠ "__debug__") (hs : args.all noStar = true) (ha : pevs ev args = some ds) (hq : ∀ d, RR d → Then W s d Q) :
    wpAny (model prog w) A (eval (.Call (.Name f p) args [] pos) env) Q E s := by
  rw [arm_eval_Call_Name']
  refine wpAny_bind (glob_val B Fr T hf hd hn ?_)
  refine callWith_function (o := o) (fd := fd) (evalArgs_ok H hs ha Fr T fun vs s' k1 r1 => ⟨⟨B.kin (T.keep (kall k1)) a o hl, hdat⟩, ?_⟩)
  exact hc A W s' _ _ _ R (T.keep (kall k1)) (Live.keep Fr.live (kall k1)) (by simpa using r1) fun d hd' v s'' k2 r2 => hq d hd' v s'' (ktr k1 k2) r2

noncomputable def ns4 : List Str := ["useragents", "rulelines", "delay", "req_rate"]
/-- x = Entry() -/
theorem asg_entry (B : Base w.params h₀) {x : Str} {px p pos spos : Pos} {Q : Flow → Shared → Prop} {E : Value → Shared → Prop} (R : Room A (k + 2)) (O : Own h₀ Y W env) (Fr : FR W sc env s.heap m) (T : Tp h₀ s.heap) (hx : storable sc x = true) (hE : sc.lookup ("Entry" : Str) = some .globalImplicit)
    (hq : ∀ a dx us h' tk, FR (a :: dx :: W) sc env h' ((x, .raw (.ref a)) :: m) → KX Y s.heap h' → s.heap.get? a = none → s.heap.get? dx = none → EntAt h' a dx ns4 us → Reps (a :: dx :: W) h' [.lst [], .lst [], .none, .none] us → Q .next { s with heap := h', toks := tk }) :
    wpAny (model prog w) A (exec (.Assign [.Name x px] (.Call (.Name "Entry" p) [] [] pos) spos) env) Q E s := by
  refine asgN ?_ (swap_no rfl _ _ _ _)
  rw [arm_eval_Call_Name']
  refine wpAny_bind (glob_val B Fr T hE (by decide) (v := .ref 52) (by kernel_rfl) ?_)
  refine callWith_K0 (B.kin T) (by kernel_rfl) ?_
  refine entry_new B R T Fr.live fun a dx us s' ks ha hd ea hr => ?_
  obtain ⟨h₁, tk₁, rfl, hk₁⟩ := ks
  have hX : ∀ b ∈ [a, dx], s.heap.get? b = none := fun b hb => by simp at hb; rcases hb with rfl | rfl <;> assumption
  have F₁ : FR (a :: dx :: W) sc env h₁ m := Fr.grow (X := [a, dx]) hk₁ hX fun b hb => by
    simp at hb
    rcases hb with rfl | rfl
    · obtain ⟨o, e, _⟩ := ea.inst; exact ⟨o, e⟩
    · obtain ⟨o, _, _, e, _⟩ := ea.dict; exact ⟨o, e⟩
  refine FR.store (s := { s with heap := h₁, toks := tk₁ }) F₁ (storable_or hx) (d := .raw (.ref a)) (by simp only [Rep]) fun h₂ tk₂ F₂ kx₂ hb₂ => ?_
  have ky := own_store (O := O) hb₂
  have nY : ∀ {b}, s.heap.get? b = none → b ∉ Y := fun {b} hb q => by obtain ⟨o, e⟩ := Fr.live b (O.sub b q); rw [hb] at e; cases e
  exact hq a dx us h₂ tk₂ F₂ ((KX.of hk₁).trans ky) ha hd (ea.mono ky (nY ha) (nY hd)) (hr.mono kx₂)

theorem zip_rule {α : Type} (v1 v2 u1 u2 u3 u4 : α) (x : Str) : ((("allowance" : Str) :: ("useragents" : Str) :: ns4).zip [v2, v1, u1, u2, u3, u4]).lookup x = (ruleNs.zip [v1, u2, u3, u4, v2]).lookup x := by
  simp only [ns4, ruleNs, List.zip_cons_cons, List.zip_nil_right, List.lookup_cons, List.lookup_nil]
  by_cases h1 : x = "req_rate"
  · subst h1; rfl
  by_cases h2 : x = "delay"
  · subst h2; rfl
  by_cases h3 : x = "rulelines"
  · subst h3; rfl
  by_cases h4 : x = "useragents"
  · subst h4; rfl
  by_cases h5 : x = "allowance"
  · subst h5; rfl
  have e1 : (x == ("req_rate" : Str)) = false := by simpa using h1
  have e2 : (x == ("delay" : Str)) = false := by simpa using h2
  have e3 : (x == ("rulelines" : Str)) = false := by simpa using h3
  have e4 : (x == ("useragents" : Str)) = false := by simpa using h4
  have e5 : (x == ("allowance" : Str)) = false := by simpa using h5
  simp only [e1, e2, e3, e4, e5]

theorem at91 (P : Params) : ∃ o, (K P).lookup 91 = some o ∧ o.data = .func (fdOf P 91) := ⟨_, rfl, rfl⟩
theorem bd91 (P : Params) : (fdOf P 91).body = .stmts (bodyOf P 91) := rfl
theorem ok91 (P : Params) : fnOk ["agents", "verdict"] (fdOf P 91) = true := by kernel_rfl
theorem cd91 (P : Params) : codeIn (K P) (fdOf P 91).code (fdOf P 91).qualname = true := by kernel_rfl
theorem bi91 (P : Params) (vs : List Value) (h : vs.length = 2) : bindArgs (fdOf P 91) ⟨vs, []⟩ = pure ((["agents", "verdict"] : List Str).zip vs) := by
  obtain ⟨a, b, rfl⟩ := len2 h
  kernel_rfl
theorem gl91 (P : Params) : nsIn (K P) mainGlobals "_law_rule" = some (some (.ref 91)) := by kernel_rfl

theorem rule_call (B : Base w.params h₀) (ags : List Str) (v : Bool) : CallR prog w h₀ (k + 3) 91 [S ags, .bool v] (fun d => ∃ a, d = ruleD ⟨a, ags, v⟩) := by
  intro A W s vs Q E R T lv hr hq
  obtain ⟨o, h1, h2⟩ := at91 w.params
  refine call_frame (ps := ["agents", "verdict"]) B R T lv h1 h2 (cd91 _) (bd91 _) (ok91 _) (bi91 _ vs hr.length) hr fun Y env h₁ tk₁ hY henv O Fr hk₁ hYn => ?_
  have R' := R.deeper env
  have T₁ := T.keep hk₁
  refine ec (asg_entry (k := k) B R' O Fr T₁ (by kernel_rfl) (by kernel_rfl) fun a dx us h₂ tk₂ F₂ k₂ ha hd ea hus => ?_)
  have O₂ : Own h₀ Y (a :: dx :: (Y ++ W)) env := O.grow (X := [a, dx])
  have nY : ∀ {b}, h₁.get? b = none → b ∉ Y := fun {b} hb q => by obtain ⟨o, e⟩ := Fr.live b (O.sub b q); rw [hb] at e; cases e
  have hdY : dx ∉ Y := nY hd
  have hdW : dx ∈ a :: dx :: (Y ++ W) := List.mem_cons_of_mem _ List.mem_cons_self
  have T₂ : Tp h₀ h₂ := T₁.kx k₂ O.new
  have hd0 : ∀ b ∈ [dx], h₀.get? b = none := by simpa using T₁.gone hd
  have dsub : ∀ b ∈ [dx], b ∈ a :: dx :: (Y ++ W) := by simp
  refine ec (asg_attr (F := M0) (M := M0) (n := 5) (d := S ags) (s := { s with heap := h₂, toks := tk₂ }) (k := k + 2) B F0_ok M0_ok R' O₂ F₂ T₂ rfl (by decide) ea hdW hdY (by decide) (by decide) rfl (by kernel_rfl) fun v1 h₃ tk₃ F₃ e₃ r₃ k₃ => ?_)
  have T₃ := T₂.kx k₃ hd0
  refine ec (asg_attr (F := M0) (M := M0) (n := 5) (d := .bool v) (s := { s with heap := h₃, toks := tk₃ }) (k := k + 2) B F0_ok M0_ok R' O₂ F₃ T₃ rfl (by decide) e₃ hdW hdY (by decide) (by decide) rfl (by kernel_rfl) fun v2 h₄ tk₄ F₄ e₄ r₄ k₄ => ?_)
  refine ec (wpAny_Return_some (wpAny_Name (FR.load (s := { s with heap := h₄, toks := tk₄ }) F₄ (d := .raw (.ref a)) rfl (by decide) fun u ru => ?_) (by decide)))
  simp only [Rep] at ru
  subst ru
  simp only [Reps] at hus
  obtain ⟨u1, _, rfl, q1, u2, _, rfl, q2, u3, _, rfl, q3, u4, _, rfl, q4, rfl⟩ := hus
  have hgone : ∀ {b}, h₁.get? b = none → s.heap.get? b = none := fun {b} hb => by
    cases e : s.heap.get? b with
    | none => rfl
    | some o => rw [hk₁ b o e] at hb; cases hb
  have nW : ∀ {b}, h₁.get? b = none → b ∉ W := fun {b} hb q => by obtain ⟨o, e⟩ := lv b q; rw [hgone hb] at e; cases e
  have k24 : KX [dx] h₂ h₄ := k₃.trans k₄
  have off : ∀ {d v}, Rep (a :: dx :: (Y ++ W)) h₄ d v → Rep W h₄ d v := fun r => r.off fun b hb => .inl (List.mem_cons_of_mem _ (List.mem_cons_of_mem _ (List.mem_append_right _ hb)))
  have e₅ : EntAt h₄ a dx ruleNs [v1, u2, u3, u4, v2] := e₄.cast fun x => zip_rule v1 v2 u1 u2 u3 u4 x
  refine hq _ ⟨a, rfl⟩ (.ref a) _ ⟨h₄, tk₄, rfl, fun b o e => ?_⟩ (e₅.rep (nW ha) (nW hd) ?_)
  · have e1 := hk₁ b o e
    refine k24 b o (fun q => ?_) (k₂ b o (fun q => by rw [hYn b q] at e; cases e) e1)
    simp at q; subst q; rw [hd] at e1; cases e1
  · exact Reps.cons (off (r₃.mono (k₄.mono dsub))) (Reps.cons (off (q2.mono (k24.mono dsub))) (Reps.cons (off (q3.mono (k24.mono dsub))) (Reps.cons (off (q4.mono (k24.mono dsub))) (Reps.one (off r₄)))))
end
end Mine
end

-- Own
section
open PySem PySem.W PyProof.Rows PySem.Calls PySem.SeqAt
set_option maxRecDepth 100000
namespace Mine
section
variable {prog : Program} {w : World} {A : Around} {h₀ : Heap} {k : Nat}
variable {W Y : List Addr} {sc : List (Str × NameKind)} {env : Env} {m : Mp} {s : Shared}

/-- a list of our own: it may still grow -/
structure OwnL (W : List Addr) (h : Heap) (g : Addr) (ds : List D) : Prop where
  mem : g ∈ W
  lst : ∃ ys, h.PlainList g ys ∧ Reps W h ds ys.toList
theorem OwnL.mono {X : List Addr} {h h' : Heap} {g : Addr} {ds : List D} (o : OwnL W h g ds) (kx : KX X h h') (hX : ∀ b ∈ X, b ∈ W) (hg : g ∉ X) : OwnL W h' g ds := by
  obtain ⟨ys, h1, h2⟩ := o.lst
  exact ⟨o.mem, ys, h1.at fun o e => kx g o hg e, h2.mono (kx.mono hX)⟩
theorem OwnL.grow {X : List Addr} {h h' : Heap} {g : Addr} {ds : List D} (o : OwnL W h g ds) (hk : ∀ b o, h.get? b = some o → h'.get? b = some o) (hX : ∀ b ∈ X, h.get? b = none) : OwnL (X ++ W) h' g ds := by
  obtain ⟨ys, h1, h2⟩ := o.lst
  refine ⟨List.mem_append_right _ o.mem, ys, h1.at fun o e => hk g o e, (h2.off (W' := X ++ W) fun b hb => ?_).mono (KX.of hk)⟩
  rcases List.mem_append.mp hb with hb | hb
  · exact .inr (hX b hb)
  · exact .inl hb

/-- the list is done: its name reads as data -/
theorem FR.done {h : Heap} {g : Addr} {x : Str} {ds : List D} (F : FR (g :: W) sc env h m) (hx : m.lookup x = some (.raw (.ref g))) (o : OwnL (g :: W) h g ds) (hg : g ∉ W) (hL : env.locals ∈ W) (hc : ∀ x c, env.cells.lookup x = some c → c ∈ W) : FR W sc env h ((x, .lst ds) :: m) := by
  have F' : FR W sc env h m := FR.shrink (X := [g]) F hL hc
  obtain ⟨ys, h1, h2⟩ := o.lst
  have hr : Rep W h (.lst ds) (.ref g) := by
    simp only [Rep]
    exact ⟨g, ys, rfl, hg, h1.isList, h2.off fun b hb => .inl (List.mem_cons_of_mem _ hb)⟩
  refine ⟨F'.kind, F'.globs, F'.blts, F'.kinds, F'.live, F'.loc, F'.cin, F'.inj, F'.cell, ?_⟩
  obtain ⟨μ, n1, n2⟩ := F'.ns
  refine ⟨μ, n1, fun y d hy => ?_⟩
  by_cases e : y = x
  · subst e
    rw [lookup_cons_self] at hy; cases hy
    rcases n2 y _ hx with ⟨a, v, b, c⟩ | ⟨a, c, v, h3, h4, h5⟩
    · simp only [Rep] at c; subst c; exact .inl ⟨a, _, b, hr⟩
    · simp only [Rep] at h5; subst h5; exact .inr ⟨a, c, _, h3, h4, hr⟩
  · rw [lookup_cons_ne e] at hy
    exact n2 y d hy

/-- NAME = [comprehension], the list our own -/
theorem assign_comp_own {elt iter : Expr} {x y : Str} {px py : Pos} {ifs : List Expr} {scope : Scope} {pos spos : Pos} {ds : List D} {Q : Flow → Shared → Prop} {E : Value → Shared → Prop} (p : D → Bool) (Re : D → D → Prop) (O : Own h₀ Y W env)
    (F : FR W sc env s.heap m) (hb : blockOk sc scope = true) (hx : scope.names.lookup x = some .local ∨ scope.names.lookup x = some .cell) (hy : sc.lookup y = some .local ∨ sc.lookup y = some .cell) (hsz : ds.length ≤ sizeLine) (hset : notSet iter = true)
    (src : ∀ Q', (∀ it s₂, Src prog w A W s it ds s₂ → Q' it s₂) → wpAny (model prog w) A (eval iter env) (fun xv s₁ => wpAny (model prog w) A (pyIter xv) Q' E s₁) E s)
    (tests : ∀ W' cenv d, d ∈ ds → (∀ b ∈ W, b ∈ W') → ∀ s₃ E', FR W' scope.names cenv s₃.heap ((x, d) :: freeOf scope m) → (∃ h tk, s₃ = { s with heap := h, toks := tk } ∧ ∀ b o, s.heap.get? b = some o → h.get? b = some o) →
      wpAny (model prog w) A (testsOf ifs cenv) (fun ok s₄ => ok = p d ∧ Keeps s₃ s₄) E' s₃)
    (elts : ∀ W' cenv d, d ∈ ds → p d = true → (∀ b ∈ W, b ∈ W') → ∀ s₃ E', FR W' scope.names cenv s₃.heap ((x, d) :: freeOf scope m) → (∃ h tk, s₃ = { s with heap := h, toks := tk } ∧ ∀ b o, s.heap.get? b = some o → h.get? b = some o) →
      wpAny (model prog w) A (eval elt cenv) (fun y s₄ => Keeps s₃ s₄ ∧ ∃ d', Re d d' ∧ Rep W' s₄.heap d' y) E' s₃)
    (hq : ∀ ds' g h' tk, Paired Re (ds.filter p) ds' → s.heap.get? g = none → FR (g :: W) sc env h' ((y, .raw (.ref g)) :: m) → OwnL (g :: W) h' g ds' → KX Y s.heap h' → Q .next { s with heap := h', toks := tk }) :
    wpAny (model prog w) A (exec (.Assign [.Name y py] (.ListComp elt [⟨.Name x px, iter, ifs, 0⟩] scope pos) spos) env) Q E s := by
  have nY : ∀ {b}, s.heap.get? b = none → b ∉ Y := fun {b} hb q => by obtain ⟨o, e⟩ := F.live b (O.sub b q); rw [hb] at e; cases e
  have nW : ∀ {b}, s.heap.get? b = none → b ∉ W := fun {b} hb q => by obtain ⟨o, e⟩ := F.live b q; rw [hb] at e; cases e
  have hswap : ∃ b, swapsWith (.ListComp elt [⟨.Name x px, iter, ifs, 0⟩] scope pos) (some (.Name y py)) spos.line env = pure b := ⟨_, rfl⟩
  obtain ⟨b, hsw⟩ := hswap
  obtain ⟨hk, hnm⟩ := blockOk_names hb
  cases b with
  | false =>
    refine asgN ?_ hsw
    rw [eval_ListComp]
    refine wpAny_comprehension_free (use := none) rfl (folded_eq hset env) (closureFor_eq (blockOk_free hb F)) hk hnm (src _ fun it s₂ hsrc => ?_)
    refine comp_core (RR := fun acc C => compPost (model prog w) A E none _ acc C) p Re F hb hx hsz hsrc tests elts ?_
    intro Dx C h' tk ds' hns hC hfresh hks hrep hpr
    obtain ⟨hD, hDC, ys, hys, hrs⟩ := hfresh
    obtain ⟨μ, hns⟩ := hns
    obtain ⟨h1, t1, e1, k1⟩ := hks
    cases e1
    refine ⟨μ, hns, fun h'' hs'' => ?_⟩
    have kC : KX [C] h' h'' := fun b o nb e => (hs''.2 b (by simpa using nb)).trans e
    have k2 : ∀ b o, s.heap.get? b = some o → h''.get? b = some o := fun b o e => kC b o (fun q => by simp at q; subst q; rw [hC] at e; cases e) (k1 b o e)
    have F₂ : FR (Dx :: W) sc env h'' m := F.grow (X := [Dx]) k2 (by simpa using hD) fun b hb => by
      simp at hb; subst hb; obtain ⟨n, e⟩ := hys; exact ⟨_, kC _ _ (by simpa using hDC) e⟩
    have hys₂ : h''.PlainList Dx ys := hys.at fun o e => kC _ o (by simpa using hDC) e
    have hrs₂ : Reps (Dx :: W) h'' ds' ys.toList := (hrs.mono (h' := h'') (kC.mono fun b hb => by simp at hb; rw [hb]; exact List.mem_cons_of_mem _ List.mem_cons_self)).off fun b hb => .inl (by
      rcases List.mem_cons.mp hb with rfl | hb
      · exact List.mem_cons_self
      · exact List.mem_cons_of_mem _ (List.mem_cons_of_mem _ hb))
    refine FR.store (s := { s with heap := h'', toks := tk }) F₂ hy (d := .raw (.ref Dx)) (by simp only [Rep]) fun h₃ tk₃ F₃ kx₃ hb₃ => ?_
    have ky := own_store (O := O) hb₃
    exact hq ds' Dx h₃ tk₃ hpr hD F₃ ⟨List.mem_cons_self, ys, hys₂.at fun o e => ky _ o (nY hD) e, hrs₂.mono kx₃⟩ ((KX.of k2).trans ky)
  | true =>
    rw [exec_Assign_Name_used _ _ _ _ hsw]
    refine wpAny_bind (wpAny_standAt (wpAny_bind ?_))
    show wpAny _ A (do let _ ← comprehension (.ListComp elt [⟨.Name x px, iter, ifs, 0⟩] scope pos) scope env _ (newList []) false (eval iter env) (some (assign (.Name y py) env))) _ _ s
    refine wpAny_bind (wpAny_mono (wpAny_comprehension_free (use := some (assign (.Name y py) env)) (Q := fun _ s' => Q .next s') rfl (folded_eq hset env) (closureFor_eq (blockOk_free hb F)) hk hnm
      (src _ fun it s₂ hsrc => ?_)) (fun _ s' hq => wpAny_pure (wpAny_pure hq)) fun _ _ e => e)
    refine comp_core (RR := fun acc C => compPost (model prog w) A E (some (assign (.Name y py) env)) (fun _ s' => Q .next s') acc C) p Re F hb hx hsz hsrc tests elts ?_
    intro Dx C h' tk ds' hns hC hfresh hks hrep hpr
    obtain ⟨hD, hDC, ys, hys, hrs⟩ := hfresh
    obtain ⟨μ, hns⟩ := hns
    obtain ⟨h1, t1, e1, k1⟩ := hks
    cases e1
    have F' : FR (C :: Dx :: W) sc env h' m := F.grow (X := [C, Dx]) k1 (fun b hb => by simp at hb; rcases hb with rfl | rfl <;> assumption) (fun b hb => by
      simp at hb
      rcases hb with rfl | rfl
      · obtain ⟨o, _, _, e, _⟩ := hns; exact ⟨o, e⟩
      · obtain ⟨n, e⟩ := hys; exact ⟨_, e⟩)
    show wpAny _ A (assign (.Name y py) env (.ref Dx)) _ _ _
    refine wpAny_assign_Name (FR.store (s := { s with heap := h', toks := tk }) F' hy (d := .raw (.ref Dx)) (by simp only [Rep]) fun h₂ tk₂ F₂ kx₂ hb₂ => ?_)
    have ky := own_store (O := O) hb₂
    refine ⟨μ, hns.at' fun o e => ky C o (nY hC) e, fun h₃ hs₃ => ?_⟩
    have kC : KX [C] h₂ h₃ := fun b o nb e => (hs₃.2 b (by simpa using nb)).trans e
    have hCW : C ∉ Dx :: W := fun q => by
      rcases List.mem_cons.mp q with q | q
      · exact hDC q.symm
      · exact nW hC q
    refine hq ds' Dx h₃ tk₂ hpr hD (F₂.drop (List.mem_cons_of_mem _ F.loc) (fun x c e => List.mem_cons_of_mem _ (F.cin x c e)) hCW fun b o nb e => (hs₃.2 b nb).trans e)
      ⟨List.mem_cons_self, ys, (hys.at fun o e => ky _ o (nY hD) e).at fun o e => kC _ o (by simpa using hDC) e, ?_⟩ fun b o nb e => ?_
    · have r1 : Reps (C :: Dx :: W) h₂ ds' ys.toList := (hrs.off (W' := C :: Dx :: W) fun b hb => .inl (by
        rcases List.mem_cons.mp hb with rfl | hb
        · exact List.mem_cons_of_mem _ List.mem_cons_self
        · rcases List.mem_cons.mp hb with rfl | hb
          · exact List.mem_cons_self
          · exact List.mem_cons_of_mem _ (List.mem_cons_of_mem _ hb))).mono kx₂
      exact (r1.mono (h' := h₃) (kC.mono fun b hb => by simp at hb; rw [hb]; exact List.mem_cons_self)).off fun b hb => .inl (List.mem_cons_of_mem _ hb)
    · exact kC b o (fun q => by simp at q; subst q; rw [hC] at e; cases e) (ky b o nb (k1 b o e))

/-- NAME = [] -/
theorem own_new {x : Str} {px p pos : Pos} {Q : Flow → Shared → Prop} {E : Value → Shared → Prop} (O : Own h₀ Y W env) (F : FR W sc env s.heap m) (hx : storable sc x = true)
    (hq : ∀ g h' tk, s.heap.get? g = none → FR (g :: W) sc env h' ((x, .raw (.ref g)) :: m) → OwnL (g :: W) h' g [] → KX Y s.heap h' → Q .next { s with heap := h', toks := tk }) :
    wpAny (model prog w) A (exec (.Assign [.Name x px] (.List [] p) pos) env) Q E s := by
  refine asgN (wpAny_List (wpAny_items_nil ⟨by simp, ?_⟩)) (swap_no rfl _ _ _ _)
  have hg : s.heap.get? s.heap.objs.size = none := by
    cases e : s.heap.get? s.heap.objs.size with
    | none => rfl
    | some o => exact absurd (Heap.lt_size e) (Nat.lt_irrefl _)
  have nY : s.heap.objs.size ∉ Y := fun q => by obtain ⟨o, e⟩ := F.live _ (O.sub _ q); rw [hg] at e; cases e
  have k1 : ∀ b o, s.heap.get? b = some o → (s.heap.push { cls := .type "list", data := .seq ([] : List Value).toArray }).get? b = some o := fun b o e => Heap.get?_push_of_some _ e
  have F₂ : FR (s.heap.objs.size :: W) sc env (s.heap.push { cls := .type "list", data := .seq ([] : List Value).toArray }) m := F.grow (X := [s.heap.objs.size]) k1 (by simpa using hg) fun b hb => by
    simp at hb; subst hb; exact ⟨_, Heap.get?_push_size _ rfl⟩
  have hys : (s.heap.push { cls := .type "list", data := .seq ([] : List Value).toArray }).PlainList s.heap.objs.size #[] := ⟨0, Heap.get?_push_size _ rfl⟩
  refine FR.store (s := { s with heap := s.heap.push { cls := .type "list", data := .seq ([] : List Value).toArray } }) F₂ (storable_or hx) (d := .raw (.ref s.heap.objs.size)) (by simp only [Rep]) fun h₃ tk₃ F₃ kx₃ hb₃ => ?_
  have ky := own_store (O := O) hb₃
  exact hq _ h₃ tk₃ hg F₃ ⟨List.mem_cons_self, #[], hys.at fun o e => ky _ o nY e, by simpa using Reps.nil⟩ ((KX.of k1).trans ky)

/-- x.append(e) -/
theorem own_append {x : Str} {px ap p pos : Pos} {e : Expr} {g : Addr} {ds : List D} {RR : D → Prop} {Q : Flow → Shared → Prop} {E : Value → Shared → Prop} (O : Own h₀ Y W env) (F : FR W sc env s.heap m) (hx : m.lookup x = some (.raw (.ref g))) (hxd : x ≠ "__debug__" ∧ x ≠ "__classdict__") (o : OwnL W s.heap g ds) (hg : g ∉ Y) (hsz : ds.length ≤ bound)
    (hs : noStar e = true) (hp : (ap.endLine == p.line) = true)
    (ev : ∀ Q' : Value → Shared → Prop, (∀ d, RR d → Then W s d Q') → wpAny (model prog w) A (eval e env) Q' E s)
    (hq : ∀ d h' tk, RR d → FR W sc env h' m → OwnL W h' g (ds ++ [d]) → KX [g] s.heap h' → Q .next { s with heap := h', toks := tk }) :
    wpAny (model prog w) A (exec (.Expr (.Call (.Attribute (.Name x px) "append" ap) [e] [] p) pos) env) Q E s := by
  refine wpAny_Expr ?_ (by unfold interactive; rw [F.kind]; rfl)
  refine meth_rule rfl (by simp [hs]) (by simp) hp (wpAny_Name (FR.load F hx (by simpa using hxd.2) fun v r pl => ?_) (by simpa using hxd.1))
  simp only [Rep] at r
  subst r
  obtain ⟨ys, hys, hrs⟩ := o.lst
  obtain ⟨n, hn⟩ := id hys
  refine getMethod_list_append hn rfl rfl ?_
  refine callWith_method1 (rest := []) (wpAny_items_cons (rest := []) (ev _ fun d hd v s₁ k1 r1 => wpAny_items_nil ?_) (starEach_cons hs _ _)) (starEach_cons hs _ _) rfl
  obtain ⟨h₁, tk₁, rfl, hk₁⟩ := k1
  have len := hrs.length
  rw [Array.length_toList] at len
  refine wpAny_list_append_plain (s := { s with heap := h₁, toks := tk₁ }) (hsz := by rw [len]; exact Nat.le_trans hsz bound_le) (hys.at fun o e => hk₁ _ o e) fun h₂ hl₂ hs₂ => ?_
  have k₂ : KX [g] h₁ h₂ := fun b o nb e => hs₂.extBut b o (by simpa using nb) e
  have gW : ∀ b ∈ [g], b ∈ W := by simpa using o.mem
  refine hq d h₂ tk₁ hd ((F.keep hk₁).but (X := [g]) k₂ gW (fun q => hg (by simp at q; exact q ▸ O.loc)) (fun y c hc q => hg (by simp at q; exact q ▸ O.cin y c hc)) (fun b hb => by obtain ⟨q, e⟩ := hl₂; simp at hb; subst hb; exact ⟨_, e⟩)) ⟨o.mem, ys.push v, hl₂, ?_⟩ ((KX.of hk₁).trans k₂)
  rw [Array.toList_push]
  exact ((hrs.mono (KX.of hk₁)).mono (k₂.mono gW)).append (Reps.one (r1.mono (k₂.mono gW)))
end
end Mine
end

-- RecP
section
open PySem PySem.W PyProof.Rows PySem.Calls PySem.SeqAt
set_option maxRecDepth 100000
namespace Mine
/-- bit b (2^b) of the wish's bits -/
noncomputable def wbit (u : Wish) (q : Int) : Bool := (u.bits.fdiv q).fmod 2 == 1
noncomputable def greatB (u : Wish) : Bool := wbit u 4
noncomputable def up (g : Bool) (x : Str) : Str := if g then Txt.upper x else x
noncomputable def partsL (u : Wish) : List (List Str) := if wbit u 2 then [u.wanted.take 1, u.wanted.drop 1] else [u.wanted]
noncomputable def starL (u : Wish) : List Str := if wbit u 8 then ["*"] else []
noncomputable def banL (u : Wish) : List Str × Bool := (starL u ++ [up (greatB u) u.struck], false)
noncomputable def grants0 (u : Wish) : List (List Str × Bool) := ((partsL u).filter (· != [])).map fun p => (p.map (up (greatB u)), true)
noncomputable def grantsL (u : Wish) : List (List Str × Bool) := grants0 u ++ (if wbit u 16 then [([("*" : Str)], true)] else [])
noncomputable def rulesL (u : Wish) : List (List Str × Bool) := if u.bits.fmod 2 == 1 then grantsL u ++ [banL u] else [banL u] ++ grantsL u
noncomputable def agentsL (u : Wish) : List Str := u.wanted ++ [if greatB u then ("FIG" : Str) else ("fig" : Str), u.struck, u.struck]
noncomputable def delayO (u : Wish) : Option Int := if u.rest.fmod 4 == 0 then none else some (u.rest.fmod 4 - 1)
noncomputable def rateO (u : Wish) : Option Int := if (u.rest.fdiv 4).fmod 3 == 0 then none else some ((u.rest.fdiv 4).fmod 3 - 1)
noncomputable def ruleV (r : Rule) : List Str × Bool := (r.agents, r.verdict)
noncomputable def recD (a : Addr) (rs : List Rule) (u : Wish) : D := .ent a ns4 [S (agentsL u), .lst (rs.map ruleD), optD (delayO u), optD (rateO u)]
structure WishOk (u : Wish) : Prop where
  len : u.wanted.length ≤ 4
  s : (Txt.upper u.struck).length ≤ bound
  w : ∀ x ∈ u.wanted, (Txt.upper x).length ≤ bound

theorem pick_take1 (L : List Str) (h : L.length ≤ 4) : ppick (L.map D.str) none (some 1) none = (L.take 1).map D.str := by
  rcases len_le4 h with rfl | ⟨a, rfl⟩ | ⟨a, b, rfl⟩ | ⟨a, b, c, rfl⟩ | ⟨a, b, c, d, rfl⟩ <;> kernel_rfl
theorem pick_drop1 (L : List Str) (h : L.length ≤ 4) : ppick (L.map D.str) (some 1) none none = (L.drop 1).map D.str := by
  rcases len_le4 h with rfl | ⟨a, rfl⟩ | ⟨a, b, rfl⟩ | ⟨a, b, c, rfl⟩ | ⟨a, b, c, d, rfl⟩ <;> kernel_rfl

theorem at96 (P : Params) : ∃ o, (K P).lookup 96 = some o ∧ o.data = .func (fdOf P 96) := ⟨_, rfl, rfl⟩
theorem bd96 (P : Params) : (fdOf P 96).body = .stmts (bodyOf P 96) := rfl
theorem ok96 (P : Params) : fnOk ["wish"] (fdOf P 96) = true := by kernel_rfl
theorem cd96 (P : Params) : codeIn (K P) (fdOf P 96).code (fdOf P 96).qualname = true := by kernel_rfl
theorem bi96 (P : Params) (vs : List Value) (h : vs.length = 1) : bindArgs (fdOf P 96) ⟨vs, []⟩ = pure ((["wish"] : List Str).zip vs) := by
  obtain ⟨a, rfl⟩ := len1 h
  kernel_rfl
theorem gl96 (P : Params) : nsIn (K P) mainGlobals "_law_record" = some (some (.ref 96)) := by kernel_rfl

noncomputable def m1 (u : Wish) : Mp := [("rest", .int u.rest), ("bits", .int u.bits), ("wanted", S u.wanted), ("struck", .str u.struck), ("wish", wishD u)]
noncomputable def m2 (u : Wish) : Mp := ("great", .bool (greatB u)) :: m1 u
noncomputable def m3 (u : Wish) : Mp := ("parts", .lst ((partsL u).map S)) :: m2 u
noncomputable def m4 (u : Wish) : Mp := ("star", S (starL u)) :: m3 u

section
variable {F M : Str → List D → Option D}
noncomputable abbrev sc96 (P : Params) := (fdOf P 96).scope.names
theorem ev2 (P : Params) (u : Wish) : pev F M 40 (sc96 P) (m1 u) (asgVal ((bodyOf P 96).drop 1)) = some (.bool (greatB u)) := by kernel_rfl
theorem v_list {n : Nat} {sc : List (Str × NameKind)} {m : Mp} {es : List Expr} {ds : List D} {p : Pos} (hs : es.all noStar = true ∧ es.length ≤ bound) (h : pevs (pev F M n sc m) es = some ds) : pev F M (n + 1) sc m (.List es p) = some (.lst ds) := by
  show (hItems _ _).map D.lst = _
  unfold hItems; rw [if_pos hs, h]; rfl
theorem v_slice {n : Nat} {sc : List (Str × NameKind)} {m : Mp} {x : Str} {q : Pos} {lo hi st : Option Expr} {sp p : Pos} {a d : D} (hv : pev F M n sc m (.Name x q) = some a) (h : pslice (pev F M n sc m) a lo hi st = some d) : pev F M (n + 1) sc m (.Subscript (.Name x q) (.Slice lo hi st sp) p) = some d := by
  show (pev F M n sc m (.Name x q)).bind (fun a => pslice (pev F M n sc m) a lo hi st) = _
  rw [hv]; exact h
theorem pslice_eq {ev : Expr → Option D} {ds : List D} {lo hi st : Option Expr} {l h s : Option Int} (hb : ds.length ≤ bound) (h1 : ppart ev lo = some l) (h2 : ppart ev hi = some h) (h3 : ppart ev st = some s) (hs : s ≠ some 0) : pslice ev (.lst ds) lo hi st = some (.lst (ppick ds l h s)) := by
  unfold pslice
  rw [h1, h2, h3]
  show (if ds.length ≤ bound ∧ s ≠ some 0 then _ else none) = _
  rw [if_pos ⟨hb, hs⟩]
theorem sl_ok {ev : Expr → Option D} {L : List Str} {lo hi st : Option Expr} {l h s : Option Int} (hL : L.length ≤ 4) (h1 : ppart ev lo = some l) (h2 : ppart ev hi = some h) (h3 : ppart ev st = some s) (hs : s ≠ some 0) : pslice ev (S L) lo hi st = some (.lst (ppick (L.map D.str) l h s)) :=
  pslice_eq (by rw [List.length_map]; exact Nat.le_trans hL (by decide)) h1 h2 h3 hs

theorem ev3 (P : Params) (u : Wish) (hu : WishOk u) : pev F M 40 (sc96 P) (m2 u) (asgVal ((bodyOf P 96).drop 2)) = some (.lst ((partsL u).map S)) := by
  refine v_if (wbit u 2) (by kernel_rfl) (fun h => ?_) (fun h => ?_)
  · rw [show partsL u = [u.wanted.take 1, u.wanted.drop 1] by simp [partsL, h]]
    refine v_list (by decide) (evs_cons (v_slice (a := S u.wanted) (by kernel_rfl) ((sl_ok (l := none) (h := some 1) (s := none) hu.len rfl (by kernel_rfl) rfl (by decide)).trans ?_)) (evs_cons (v_slice (a := S u.wanted) (by kernel_rfl) ((sl_ok (l := some 1) (h := none) (s := none) hu.len (by kernel_rfl) rfl rfl (by decide)).trans ?_)) evs0))
    · rw [pick_take1 _ hu.len]
    · rw [pick_drop1 _ hu.len]
  · rw [show partsL u = [u.wanted] by simp [partsL, h]]
    kernel_rfl
theorem ev4 (P : Params) (u : Wish) : pev F M 40 (sc96 P) (m3 u) (asgVal ((bodyOf P 96).drop 3)) = some (S (starL u)) := by
  refine v_if (wbit u 8) (by kernel_rfl) (fun h => ?_) (fun h => ?_)
  · rw [show starL u = [("*" : Str)] by simp [starL, h]]; kernel_rfl
  · rw [show starL u = [] by simp [starL, h]]; kernel_rfl

noncomputable def callArgs (e : Expr) : List Expr := (exX e).1
theorem v_bin {n : Nat} {sc : List (Str × NameKind)} {m : Mp} {l r : Expr} {op : Operator} {p : Pos} {a b d : D} (hl : pev F M n sc m l = some a) (hr : pev F M n sc m r = some b) (h : pbin op a b = some d) : pev F M (n + 1) sc m (.BinOp l op r p) = some d := by
  show hBin _ l op r = _
  unfold hBin; rw [hl, hr]; exact h
theorem add_S (L L' : List Str) (h : L.length + L'.length ≤ bound) : pbin .Add (S L) (S L') = some (S (L ++ L')) := by
  show (if (L.map D.str).length + (L'.map D.str).length ≤ bound then some (D.lst (L.map D.str ++ L'.map D.str)) else none) = _
  rw [List.length_map, List.length_map, if_pos h, ← List.map_append]
theorem star_len (u : Wish) : (starL u).length ≤ 1 := by unfold starL; split <;> simp
end
end Mine
end

-- RecC
section
open PySem PySem.W PyProof.Rows PySem.Calls PySem.SeqAt
set_option maxRecDepth 100000
namespace Mine
section
variable {prog : Program} {w : World} {A : Around} {h₀ : Heap} {k : Nat}
variable {W Y : List Addr} {sc : List (Str × NameKind)} {env : Env} {m : Mp} {s : Shared}

/-- names filled in order -/
theorem stores_ok (O : Own h₀ Y W env) {E : Value → Shared → Prop} : ∀ {xs : List (Str × Pos)} {ds : List D} {vs : List Value} {m : Mp} {s : Shared} {Q : Unit → Shared → Prop}, (∀ x ∈ xs, storable sc x.1 = true) → xs.length = ds.length → FR W sc env s.heap m → Reps W s.heap ds vs →
    (∀ h' tk, FR W sc env h' (((xs.map (·.1)).zip ds).reverse ++ m) → KX Y s.heap h' → Q () { s with heap := h', toks := tk }) → wpAny (model prog w) A (assignInOrder (xs.map fun x => assign (.Name x.1 x.2) env) vs) Q E s
  | [], [], vs, m, s, Q, _, _, F, hr, hq => by
    simp only [Reps] at hr; subst hr
    exact assignInOrder_nil (hq s.heap s.toks (by simpa using F) (KX.refl _ _))
  | [], _ :: _, _, _, _, _, _, h, _, _, _ => by simp at h
  | _ :: _, [], _, _, _, _, _, h, _, _, _ => by simp at h
  | x :: xs, d :: ds, vs, m, s, Q, hs, hl, F, hr, hq => by
    simp only [Reps] at hr
    obtain ⟨v, r, rfl, h1, h2⟩ := hr
    refine assignInOrder_cons ?_
    refine wpAny_assign_Name (FR.store F (storable_or (hs x List.mem_cons_self)) h1 fun h₁ tk₁ F₁ kx₁ hb₁ => ?_)
    have ky := own_store (O := O) hb₁
    refine stores_ok O (fun y hy => hs y (List.mem_cons_of_mem _ hy)) (by simpa using hl) F₁ (h2.mono kx₁) fun h₂ tk₂ F₂ ky₂ => hq h₂ tk₂ ?_ (ky.trans ky₂)
    simpa using F₂

theorem asg_unpack {xs : List (Str × Pos)} {tk : Nat} {tp pos : Pos} {value : Expr} {ds : List D} {Q : Flow → Shared → Prop} {E : Value → Shared → Prop} (O : Own h₀ Y W env) (hh : A.handled = none) (hs : ∀ x ∈ xs, storable sc x.1 = true) (hl : xs.length = ds.length) (F : FR W sc env s.heap m)
    (hsw : swapsWithSole [.Tuple (xs.map fun x => .Name x.1 x.2) tk tp] value pos.line env = pure false) (hw : swappedStores [.Tuple (xs.map fun x => .Name x.1 x.2) tk tp] value env = pure none)
    (hae : assignEach (xs.map fun x => .Name x.1 x.2) env = xs.map fun x => (false, assign (.Name x.1 x.2) env))
    (ev : ∀ Q' : Value → Shared → Prop, Then W s (.tup ds) Q' → wpAny (model prog w) A (eval value env) Q' E s)
    (hq : ∀ h' tk, FR W sc env h' (((xs.map (·.1)).zip ds).reverse ++ m) → KX Y s.heap h' → Q .next { s with heap := h', toks := tk }) :
    wpAny (model prog w) A (exec (.Assign [.Tuple (xs.map fun x => .Name x.1 x.2) tk tp] value pos) env) Q E s := by
  refine Assign_Tuple (ev _ fun v s₁ k1 r1 => ?_) hsw hw
  simp only [Rep] at r1
  obtain ⟨t, its, rfl, htW, ht, hrs⟩ := r1
  obtain ⟨h₁, tk₁, rfl, hk₁⟩ := k1
  have len := hrs.length
  rw [Array.length_toList] at len
  refine wpAny_assign_Tuple (s := { s with heap := h₁, toks := tk₁ }) hh ht (by rw [hae, List.length_map, len, hl]) ?_ fun h₂ hx₂ => ?_
  · rw [hae, List.findIdx?_map, List.findIdx?_eq_none_iff]
    intro x _; rfl
  have k₂ : ∀ b o, h₁.get? b = some o → h₂.get? b = some o := fun b o e => hx₂ b o (Nat.ne_of_lt (Heap.lt_size e)) e
  rw [hae, List.map_map]
  refine stores_ok (s := { s with heap := h₂, toks := tk₁ }) O hs hl ((F.keep hk₁).keep k₂) (hrs.mono (KX.of k₂)) fun h₃ tk₃ F₃ k₃ => hq h₃ tk₃ F₃ (((KX.of hk₁).trans (KX.of k₂)).trans k₃)


noncomputable def compElt (e : Expr) : Expr := exH e
noncomputable def compScope (e : Expr) : Scope := (exX e).2.2.1
noncomputable def compIfs (e : Expr) : List Expr := ((exX e).2.1.map fun g => g.ifs).headD []
theorem filter_true' {α : Type} (l : List α) : l.filter (fun _ => true) = l := by simp
noncomputable def m5 (u : Wish) (b : Rule) : Mp := ("bans", .lst [ruleD b]) :: m4 u
noncomputable abbrev gE (P : Params) : Expr := asgVal ((bodyOf P 96).drop 5)
theorem part_evs {F M : Str → List D → Option D} (P : Params) (u : Wish) (b : Rule) (p : List Str) (hp : ∀ x ∈ p, (Txt.upper x).length ≤ bound) (hl : p.length ≤ bound) :
    pevs (pev F M 36 (compScope (gE P)).names (("part", S p) :: freeOf (compScope (gE P)) (m5 u b))) (callArgs (compElt (gE P))) = some [S (p.map (up (greatB u))), .bool true] := by
  refine evs_cons ?_ (by kernel_rfl)
  rw [show S (p.map (up (greatB u))) = .lst ((p.filter fun _ => true).map fun x => .str (up (greatB u) x)) by rw [filter_true']; simp [S, Function.comp]]
  refine v_comp (f := .str) (L := p) (fun _ => true) (fun x => .str (up (greatB u) x)) ⟨by kernel_rfl, .inl (by kernel_rfl), rfl⟩ (by kernel_rfl) hl (fun x _ => rfl) (fun x hx _ => ?_)
  refine v_if (greatB u) (by kernel_rfl) (fun h => ?_) (fun h => ?_)
  · rw [show up (greatB u) x = Txt.upper x by simp [up, h]]
    exact upper_ev rfl (by kernel_rfl) (by kernel_rfl) (hp x hx)
  · rw [show up (greatB u) x = x by simp [up, h]]; kernel_rfl
theorem part_test {F M : Str → List D → Option D} (P : Params) (u : Wish) (b : Rule) (p : List Str) :
    ptests (ptest F M 36 (compScope (gE P)).names (("part", S p) :: freeOf (compScope (gE P)) (m5 u b))) (compIfs (gE P)) = some (p != []) :=
  ts1 (t_cmp (a := S p) (b := S []) rfl (by kernel_rfl) (by kernel_rfl) (ne_S p []))

theorem part_evs' {F M : Str → List D → Option D} (P : Params) (u : Wish) (b : Rule) (p : List Str) (hp : ∀ x ∈ p, (Txt.upper x).length ≤ bound) (hl : p.length ≤ bound) (sc : List (Str × NameKind)) (m : Mp) (args : List Expr) (h1 : sc = (compScope (gE P)).names) (h2 : m = (("part" : Str), S p) :: freeOf (compScope (gE P)) (m5 u b)) (h3 : args = callArgs (compElt (gE P))) :
    pevs (pev F M 36 sc m) args = some [S (p.map (up (greatB u))), .bool true] := by rw [h1, h2, h3]; exact part_evs P u b p hp hl
theorem part_test' {F M : Str → List D → Option D} (P : Params) (u : Wish) (b : Rule) (p : List Str) (sc : List (Str × NameKind)) (m : Mp) (args : List Expr) (h1 : sc = (compScope (gE P)).names) (h2 : m = (("part" : Str), S p) :: freeOf (compScope (gE P)) (m5 u b)) (h3 : args = compIfs (gE P)) :
    ptests (ptest F M 36 sc m) args = some (p != []) := by rw [h1, h2, h3]; exact part_test P u b p

theorem parts_sub (u : Wish) : ∀ p ∈ partsL u, (∀ x ∈ p, x ∈ u.wanted) ∧ p.length ≤ u.wanted.length := by
  intro p hp
  unfold partsL at hp
  split at hp
  · simp at hp
    rcases hp with rfl | rfl
    · exact ⟨fun x hx => List.mem_of_mem_take hx, by rw [List.length_take]; exact Nat.min_le_right _ _⟩
    · exact ⟨fun x hx => by rw [← List.drop_one] at hx; exact List.mem_of_mem_drop hx, by simp⟩
  · simp at hp; subst hp; exact ⟨fun _ h => h, Nat.le_refl _⟩

/-- rules made one by one -/
theorem paired_rules {u : Wish} {L : List (List Str)} : ∀ {ds : List D}, Paired (fun d d' => ∃ p a, d = S p ∧ d' = ruleD ⟨a, p.map (up (greatB u)), true⟩) (L.map S) ds → ∃ rs : List Rule, ds = rs.map ruleD ∧ rs.map ruleV = L.map fun p => (p.map (up (greatB u)), true) := by
  induction L with
  | nil => intro ds h; cases h; exact ⟨[], rfl, rfl⟩
  | cons p L ih =>
    intro ds h
    rw [List.map_cons] at h
    cases h with
    | cons h1 h2 =>
      obtain ⟨q, a, e1, rfl⟩ := h1
      obtain ⟨rs, rfl, e2⟩ := ih h2
      have : p = q := by
        simp only [S, D.lst.injEq] at e1
        have h := strsOf_map p
        rw [e1, strsOf_map] at h
        exact (Option.some.inj h).symm
      subst this
      exact ⟨⟨a, _, true⟩ :: rs, rfl, by simp [e2, ruleV]⟩

theorem filter_S (L : List (List Str)) (p : D → Bool) (h : ∀ q ∈ L, p (S q) = (q != [])) : (L.map S).filter p = (L.filter (· != [])).map S := by
  induction L with
  | nil => rfl
  | cons q L ih =>
    rw [List.map_cons, List.filter_cons, List.filter_cons, h q List.mem_cons_self, ih fun x hx => h x (List.mem_cons_of_mem _ hx)]
    split <;> rfl
end
end Mine
end

-- RecK
section
open PySem PySem.W PyProof.Rows PySem.Calls PySem.SeqAt
set_option maxRecDepth 100000
namespace Mine
section
variable {F M : Str → List D → Option D}
noncomputable def m7 (u : Wish) (b : Rule) (rs : List Rule) (X : D) : Mp := ("grants", .lst (rs.map ruleD)) :: ("grants", X) :: m5 u b
noncomputable def m8 (u : Wish) (b : Rule) (rs : List Rule) (X Yv : D) : Mp := ("record", Yv) :: m7 u b rs X
theorem ev8 (P : Params) (u : Wish) (hu : WishOk u) (b : Rule) (rs : List Rule) (X Yv : D) : pev F M 40 (sc96 P) (m8 u b rs X Yv) (asgVal ((bodyOf P 96).drop 8)) = some (S (agentsL u)) := by
  refine v_bin (a := S u.wanted) (b := S [if greatB u then ("FIG" : Str) else ("fig" : Str), u.struck, u.struck]) (by kernel_rfl) ?_ (add_S _ _ (by have := hu.len; simp; unfold bound; omega))
  refine v_list (by decide) (evs_cons (v_if (greatB u) (by kernel_rfl) (fun h => ?_) (fun h => ?_)) (by kernel_rfl))
  · rw [h]; kernel_rfl
  · rw [h]; kernel_rfl
theorem add_R (L L' : List Rule) (h : L.length + L'.length ≤ bound) : pbin .Add (.lst (L.map ruleD)) (.lst (L'.map ruleD)) = some (.lst ((L ++ L').map ruleD)) := by
  show (if (L.map ruleD).length + (L'.map ruleD).length ≤ bound then some (D.lst (L.map ruleD ++ L'.map ruleD)) else none) = _
  rw [List.length_map, List.length_map, if_pos h, ← List.map_append]
theorem ev9 (P : Params) (u : Wish) (b : Rule) (rs : List Rule) (hrs : rs.length ≤ 100) (X Yv : D) : pev F M 40 (sc96 P) (m8 u b rs X Yv) (asgVal ((bodyOf P 96).drop 9)) = some (.lst ((if u.bits.fmod 2 == 1 then rs ++ [b] else [b] ++ rs).map ruleD)) := by
  refine v_if (u.bits.fmod 2 == 1) (by kernel_rfl) (fun h => ?_) (fun h => ?_)
  · rw [if_pos h]
    exact v_bin (a := .lst (rs.map ruleD)) (b := .lst ([b].map ruleD)) (by kernel_rfl) (by kernel_rfl) (add_R _ _ (by simp; unfold bound; omega))
  · rw [if_neg (by rw [h]; decide)]
    exact v_bin (a := .lst ([b].map ruleD)) (b := .lst (rs.map ruleD)) (by kernel_rfl) (by kernel_rfl) (add_R _ _ (by simp; unfold bound; omega))
theorem ev10 (P : Params) (u : Wish) (b : Rule) (rs : List Rule) (X Yv : D) : pev F M 40 (sc96 P) (m8 u b rs X Yv) (asgVal ((bodyOf P 96).drop 10)) = some (optD (delayO u)) := by
  refine v_if (u.rest.fmod 4 == 0) (by kernel_rfl) (fun h => ?_) (fun h => ?_)
  · rw [show delayO u = none by simp only [delayO, h, if_true]]; kernel_rfl
  · rw [show delayO u = some (u.rest.fmod 4 - 1) by simp only [delayO, h, Bool.false_eq_true, if_false]]; kernel_rfl
theorem ev11 (P : Params) (u : Wish) (b : Rule) (rs : List Rule) (X Yv : D) : pev F M 40 (sc96 P) (m8 u b rs X Yv) (asgVal ((bodyOf P 96).drop 11)) = some (optD (rateO u)) := by
  refine v_if ((u.rest.fdiv 4).fmod 3 == 0) (by kernel_rfl) (fun h => ?_) (fun h => ?_)
  · rw [show rateO u = none by simp only [rateO, h, if_true]]; kernel_rfl
  · rw [show rateO u = some ((u.rest.fdiv 4).fmod 3 - 1) by simp only [rateO, h, Bool.false_eq_true, if_false]]; kernel_rfl
end
theorem zip_rec {α : Type} (v1 v2 v3 v4 u1 u2 u3 u4 : α) (x : Str) : ((("req_rate" : Str) :: ("delay" : Str) :: ("rulelines" : Str) :: ("useragents" : Str) :: ns4).zip [v4, v3, v2, v1, u1, u2, u3, u4]).lookup x = (ns4.zip [v1, v2, v3, v4]).lookup x := by
  simp only [ns4, List.zip_cons_cons, List.zip_nil_right, List.lookup_cons, List.lookup_nil]
  by_cases h1 : x = "req_rate"
  · subst h1; rfl
  by_cases h2 : x = "delay"
  · subst h2; rfl
  by_cases h3 : x = "rulelines"
  · subst h3; rfl
  by_cases h4 : x = "useragents"
  · subst h4; rfl
  have e1 : (x == ("req_rate" : Str)) = false := by simpa using h1
  have e2 : (x == ("delay" : Str)) = false := by simpa using h2
  have e3 : (x == ("rulelines" : Str)) = false := by simpa using h3
  have e4 : (x == ("useragents" : Str)) = false := by simpa using h4
  simp only [e1, e2, e3, e4]

section
variable {prog : Program} {w : World} {A : Around} {h₀ : Heap} {k : Nat}

theorem record_call (B : Base w.params h₀) {u : Wish} (hu : WishOk u) : CallR prog w h₀ (k + 4) 96 [wishD u] (fun d => ∃ a rs, d = recD a rs u ∧ rs.map ruleV = rulesL u) := by
  intro A W s vs Q E R T lv hr hq
  obtain ⟨o, h1, h2⟩ := at96 w.params
  refine call_frame (ps := ["wish"]) B R T lv h1 h2 (cd96 _) (bd96 _) (ok96 _) (bi96 _ vs hr.length) hr fun Y env h₁ tk₁ hY henv O Fr hk₁ hYn => ?_
  have R' := R.deeper env
  have T₁ := T.keep hk₁
  obtain ⟨EV, TS⟩ := ev_sound (prog := prog) (k := k + 3) (F := M0) (M := M0) B F0_ok M0_ok 40
  obtain ⟨EV37, _⟩ := ev_sound (prog := prog) (k := k + 3) (F := M0) (M := M0) B F0_ok M0_ok 37
  obtain ⟨EV36, TS36⟩ := ev_sound (prog := prog) (k := k + 3) (F := M0) (M := M0) B F0_ok M0_ok 36
  obtain ⟨o91, a91, b91⟩ := at91 w.params
  -- struck, wanted, bits, rest = wish
  refine ec (asg_unpack (xs := [("struck", ⟨119, 4, 119, 10⟩), ("wanted", ⟨119, 12, 119, 18⟩), ("bits", ⟨119, 20, 119, 24⟩), ("rest", ⟨119, 26, 119, 30⟩)]) (ds := [.str u.struck, S u.wanted, .int u.bits, .int u.rest]) O R'.hd (fun x hx => by
      simp at hx; rcases hx with rfl | rfl | rfl | rfl <;> kernel_rfl) rfl Fr rfl rfl rfl (fun Q' hq' => EV R' (e := .Name "wish" ⟨119, 33, 119, 37⟩) (by kernel_rfl) Fr T₁ hq') fun h₂ tk₂ F₂ k₂ => ?_)
  have F₂ : FR (Y ++ W) (sc96 w.params) env h₂ (m1 u) := F₂
  have T₂ := T₁.kx k₂ O.new
  -- great
  refine ec (assign_ok (s := { s with heap := h₂, toks := tk₂ }) (d := .bool (greatB u)) (k := k + 3) B (F := M0) (M := M0) F0_ok M0_ok R' O F₂ T₂ (by kernel_rfl) (ev2 w.params u) fun h₃ tk₃ F₃ k₃ => ?_)
  have T₃ := T₂.kx k₃ O.new
  -- parts
  refine ec (assign_ok (s := { s with heap := h₃, toks := tk₃ }) (d := .lst ((partsL u).map S)) (k := k + 3) B (F := M0) (M := M0) F0_ok M0_ok R' O F₃ T₃ (by kernel_rfl) (ev3 w.params u hu) fun h₄ tk₄ F₄ k₄ => ?_)
  have T₄ := T₃.kx k₄ O.new
  -- star
  refine ec (assign_ok (s := { s with heap := h₄, toks := tk₄ }) (d := S (starL u)) (k := k + 3) B (F := M0) (M := M0) F0_ok M0_ok R' O F₄ T₄ (by kernel_rfl) (ev4 w.params u) fun h₅ tk₅ F₅ k₅ => ?_)
  have T₅ := T₄.kx k₅ O.new
  -- bans
  refine ec (asgN (wpAny_List (wpAny_items_cons (call_fnR (s := { s with heap := h₅, toks := tk₅ }) (k := k + 3) (EV37 R') B R' F₅ T₅ (gl91 _) a91 b91 (rule_call B (banL u).1 false) (by kernel_rfl) (by decide) rfl (by
      refine evs_cons (v_bin (a := S (starL u)) (b := S [up (greatB u) u.struck]) (by kernel_rfl) ?_ (add_S _ _ (by have := star_len u; simp; unfold bound; omega))) (evs_cons (d := .bool false) (by kernel_rfl) evs0)
      refine v_list (by decide) (evs_cons (v_if (greatB u) (by kernel_rfl) (fun h => ?_) (fun h => ?_)) evs0)
      · rw [show up (greatB u) u.struck = Txt.upper u.struck by simp [up, h]]
        exact upper_ev rfl (by kernel_rfl) (by kernel_rfl) hu.s
      · rw [show up (greatB u) u.struck = u.struck by simp [up, h]]; kernel_rfl) fun d hd v s₆ ks₆ r₆ => wpAny_items_nil ⟨(show 1 ≤ sizeLine by decide), ?_⟩))) (swap_no rfl _ _ _ _))
  obtain ⟨ab, rfl⟩ := hd
  obtain ⟨h₆, tk₆, rfl, hk₆⟩ := ks₆
  have F₆ := F₅.keep hk₆
  refine FR.store (s := { s with heap := h₆.push { cls := .type "list", data := .seq [v].toArray }, toks := tk₆ }) (F₆.keep fun b o e => Heap.get?_push_of_some _ e) (.inl (by kernel_rfl)) (rep_newList F₆.live (Reps.one r₆)) fun h₇ tk₇ F₇ kx₇ hb₇ => ?_
  have ky₇ : KX Y h₅ h₇ := (KX.of fun b o e => Heap.get?_push_of_some _ (hk₆ b o e)).trans (own_store (O := O) hb₇)
  have F₇ : FR (Y ++ W) (sc96 w.params) env h₇ (m5 u ⟨ab, (banL u).1, false⟩) := F₇
  have T₇ := T₅.kx ky₇ O.new
  -- grants
  refine ec (assign_comp_own (s := { s with heap := h₇, toks := tk₇ }) (ds := (partsL u).map S) (fun d => match d with | .lst l => !l.isEmpty | _ => false)
    (fun d d' => ∃ p a, d = S p ∧ d' = ruleD ⟨a, p.map (up (greatB u)), true⟩) O F₇ (by kernel_rfl) (.inl (by kernel_rfl)) (.inl (by kernel_rfl)) ?_ rfl
    (fun Q' hq' => src_ok (EV R') B R'.hd F₇ T₇ (by kernel_rfl) hq') ?_ ?_ ?_)
  · have : (partsL u).length ≤ 2 := by unfold partsL; split <;> simp
    rw [List.length_map]; exact Nat.le_trans this (by decide)
  · intro W' cenv d hd hW s₃ E' F₃' hs
    obtain ⟨h, tk, rfl, hk⟩ := hs
    obtain ⟨p, hp, rfl⟩ := List.mem_map.mp hd
    exact tests_ok TS36 R' (part_test' w.params u ⟨ab, (banL u).1, false⟩ p _ _ _ (by kernel_rfl) (by kernel_rfl) (by kernel_rfl)) F₃' (T₇.keep hk) fun s' k' => ⟨by cases p <;> rfl, k'⟩
  · intro W' cenv d hd hpd hW s₃ E' F₃' hs
    obtain ⟨h, tk, rfl, hk⟩ := hs
    obtain ⟨p, hp, rfl⟩ := List.mem_map.mp hd
    obtain ⟨p1, p2⟩ := parts_sub u p hp
    refine call_fnR (k := k + 3) (EV36 R') B R' F₃' (T₇.keep hk) (gl91 _) a91 b91 (rule_call B (p.map (up (greatB u))) true) (by kernel_rfl) (by decide) rfl (part_evs' w.params u ⟨ab, (banL u).1, false⟩ p (fun x hx => hu.w x (p1 x hx)) (Nat.le_trans (Nat.le_trans p2 hu.len) (by decide)) _ _ _ (by kernel_rfl) (by kernel_rfl) (by kernel_rfl)) fun d' hd' v s₄ k₄ r₄ => ⟨k₄, d', ?_, r₄⟩
    obtain ⟨a, rfl⟩ := hd'
    exact ⟨p, a, rfl, rfl⟩
  intro gs g h₈ tk₈ hpr hg F₈ o₈ k₈
  rw [filter_S _ _ fun q _ => by cases q <;> rfl] at hpr
  obtain ⟨rs, rfl, hrs⟩ := paired_rules hpr
  have hrsl : rs.length ≤ 2 := by
    have := congrArg List.length hrs
    simp only [List.length_map] at this
    have h2 := List.length_filter_le (· != []) (partsL u)
    have h3 : (partsL u).length ≤ 2 := by unfold partsL; split <;> simp
    omega
  have T₈ := T₇.kx k₈ O.new
  have nY : ∀ {b}, h₇.get? b = none → b ∉ Y := fun {b} hb q => by obtain ⟨o, e⟩ := F₇.live b (O.sub b q); rw [hb] at e; cases e
  have nYW : ∀ {b}, h₇.get? b = none → b ∉ Y ++ W := fun {b} hb q => by obtain ⟨o, e⟩ := F₇.live b q; rw [hb] at e; cases e
  have O₈ : Own h₀ Y (g :: (Y ++ W)) env := O.grow (X := [g])
  have hg0 : ∀ b ∈ [g], h₀.get? b = none := by simpa using T₇.gone hg
  -- the rest, once the grants are known
  have rest : ∀ h₉ tk₉ (rs' : List Rule), rs'.map ruleV = grantsL u → rs'.length ≤ 3 → FR (g :: (Y ++ W)) (sc96 w.params) env h₉ (("grants", .raw (.ref g)) :: m5 u ⟨ab, (banL u).1, false⟩) → OwnL (g :: (Y ++ W)) h₉ g (rs'.map ruleD) → KX (g :: Y) h₇ h₉ → Tp h₀ h₉ →
      wpAny (model prog w) (A.deeper env) (execs ((bodyOf w.params 96).drop 7) env) (Rq Q) (Le prog w A env E) { s with heap := h₉, toks := tk₉ } := by
    intro h₉ tk₉ rs' hrs' hl' F₉ o₉ k₉ T₉
    have F₁₀ : FR (Y ++ W) (sc96 w.params) env h₉ (m7 u ⟨ab, (banL u).1, false⟩ rs' (.raw (.ref g))) := F₉.done lookup_cons_self o₉ (nYW hg) F₇.loc F₇.cin
    refine ec (asg_entry (s := { s with heap := h₉, toks := tk₉ }) (k := k + 1) B R' O F₁₀ T₉ (by kernel_rfl) (by kernel_rfl) fun a dx us h₁₁ tk₁₁ F₁₁ k₁₁ ha hd ea hus => ?_)
    have nY9 : ∀ {b}, h₉.get? b = none → b ∉ Y := fun {b} hb q => by obtain ⟨o, e⟩ := F₁₀.live b (O.sub b q); rw [hb] at e; cases e
    have O₁₁ : Own h₀ Y (a :: dx :: (Y ++ W)) env := O.grow (X := [a, dx])
    have hdW : dx ∈ a :: dx :: (Y ++ W) := List.mem_cons_of_mem _ List.mem_cons_self
    have T₁₁ : Tp h₀ h₁₁ := T₉.kx k₁₁ O.new
    have hd0 : ∀ b ∈ [dx], h₀.get? b = none := by simpa using T₉.gone hd
    have dsub : ∀ b ∈ [dx], b ∈ a :: dx :: (Y ++ W) := by simp
    refine ec (asg_attr (F := M0) (M := M0) (n := 40) (d := S (agentsL u)) (s := { s with heap := h₁₁, toks := tk₁₁ }) (k := k + 3) B F0_ok M0_ok R' O₁₁ F₁₁ T₁₁ rfl (by decide) ea hdW (nY9 hd) (by decide) (by decide) rfl (ev8 w.params u hu _ _ _ _) fun v1 h₁₂ tk₁₂ F₁₂ e₁₂ r₁₂ k₁₂ => ?_)
    have T₁₂ := T₁₁.kx k₁₂ hd0
    refine ec (asg_attr (F := M0) (M := M0) (n := 40) (s := { s with heap := h₁₂, toks := tk₁₂ }) (k := k + 3) B F0_ok M0_ok R' O₁₁ F₁₂ T₁₂ rfl (by decide) e₁₂ hdW (nY9 hd) (by decide) (by decide) rfl (ev9 w.params u _ rs' (by omega) _ _) fun v2 h₁₃ tk₁₃ F₁₃ e₁₃ r₁₃ k₁₃ => ?_)
    have T₁₃ := T₁₂.kx k₁₃ hd0
    refine ec (asg_attr (F := M0) (M := M0) (n := 40) (s := { s with heap := h₁₃, toks := tk₁₃ }) (k := k + 3) B F0_ok M0_ok R' O₁₁ F₁₃ T₁₃ rfl (by decide) e₁₃ hdW (nY9 hd) (by decide) (by decide) rfl (ev10 w.params u _ rs' _ _) fun v3 h₁₄ tk₁₄ F₁₄ e₁₄ r₁₄ k₁₄ => ?_)
    have T₁₄ := T₁₃.kx k₁₄ hd0
    refine ec (asg_attr (F := M0) (M := M0) (n := 40) (s := { s with heap := h₁₄, toks := tk₁₄ }) (k := k + 3) B F0_ok M0_ok R' O₁₁ F₁₄ T₁₄ rfl (by decide) e₁₄ hdW (nY9 hd) (by decide) (by decide) rfl (ev11 w.params u _ rs' _ _) fun v4 h₁₅ tk₁₅ F₁₅ e₁₅ r₁₅ k₁₅ => ?_)
    refine ec (wpAny_Return_some (wpAny_Name (FR.load (s := { s with heap := h₁₅, toks := tk₁₅ }) F₁₅ (d := .raw (.ref a)) rfl (by decide) fun z rz => ?_) (by decide)))
    simp only [Rep] at rz
    subst rz
    simp only [Reps] at hus
    obtain ⟨u1, _, rfl, q1, u2, _, rfl, q2, u3, _, rfl, q3, u4, _, rfl, q4, rfl⟩ := hus
    have old : ∀ b o, s.heap.get? b = some o → b ∉ Y := fun b o e q => by rw [hYn b q] at e; cases e
    have up7 : ∀ b o, s.heap.get? b = some o → h₇.get? b = some o := fun b o e => ky₇ b o (old b o e) (k₅ b o (old b o e) (k₄ b o (old b o e) (k₃ b o (old b o e) (k₂ b o (old b o e) (hk₁ b o e)))))
    have up9 : ∀ b o, s.heap.get? b = some o → h₉.get? b = some o := fun b o e => k₉ b o (fun q => by
      rcases List.mem_cons.mp q with q | q
      · have := up7 b o e; rw [q, hg] at this; cases this
      · exact old b o e q) (up7 b o e)
    have gone : ∀ {b}, h₉.get? b = none → s.heap.get? b = none := fun {b} hb => by
      cases e : s.heap.get? b with
      | none => rfl
      | some o => rw [up9 b o e] at hb; cases hb
    have nW : ∀ {b}, h₉.get? b = none → b ∉ W := fun {b} hb q => by obtain ⟨o, e⟩ := lv b q; rw [gone hb] at e; cases e
    have k1115 : KX [dx] h₁₁ h₁₅ := ((k₁₂.trans k₁₃).trans k₁₄).trans k₁₅
    have off : ∀ {d v}, Rep (a :: dx :: (Y ++ W)) h₁₅ d v → Rep W h₁₅ d v := fun r => r.off fun b hb => .inl (List.mem_cons_of_mem _ (List.mem_cons_of_mem _ (List.mem_append_right _ hb)))
    have e₁₆ : EntAt h₁₅ a dx ns4 [v1, v2, v3, v4] := e₁₅.cast fun x => zip_rec v1 v2 v3 v4 u1 u2 u3 u4 x
    refine hq _ ⟨a, if u.bits.fmod 2 == 1 then rs' ++ [⟨ab, (banL u).1, false⟩] else [⟨ab, (banL u).1, false⟩] ++ rs', rfl, ?_⟩ (.ref a) _ ⟨h₁₅, tk₁₅, rfl, fun b o e => ?_⟩ (e₁₆.rep (nW ha) (nW hd) ?_)
    · unfold rulesL
      split
      · rw [List.map_append, hrs']; rfl
      · rw [List.map_append, hrs']; rfl
    · refine k1115 b o (fun q => ?_) (k₁₁ b o (old b o e) (up9 b o e))
      simp at q; subst q
      have := up9 b o e; rw [hd] at this; cases this
    · have u3 := k₁₃.mono dsub
      have u4 := k₁₄.mono dsub
      have u5 := k₁₅.mono dsub
      exact Reps.cons (off (((r₁₂.mono u3).mono u4).mono u5)) (Reps.cons (off ((r₁₃.mono u4).mono u5)) (Reps.cons (off (r₁₄.mono u5)) (Reps.one (off r₁₅))))
  -- if bits // 16 % 2 == 1
  have hgr : grantsL u = grants0 u ++ (if wbit u 16 then [([("*" : Str)], true)] else []) := rfl
  cases h16 : wbit u 16 with
  | true =>
    refine ec (wpAny_If (TS R' (b := true) ?_ F₈ T₈ fun s₉ ks₉ => ?_))
    · exact Eq.trans (b := some (wbit u 16)) (by kernel_rfl) (by rw [h16])
    obtain ⟨h₉, tk₉, rfl, hk₉⟩ := ks₉
    dsimp only at hk₉
    have o₉ : OwnL (g :: (Y ++ W)) h₉ g (rs.map ruleD) := o₈.mono (X := []) (KX.of hk₉) (by simp) (by simp)
    have F₉ := F₈.keep hk₉
    have T₉ := T₈.keep hk₉
    refine ec (own_append (s := { s with heap := h₉, toks := tk₉ }) (RR := fun d => ∃ a, d = ruleD ⟨a, ["*"], true⟩) O₈ F₉ lookup_cons_self (by decide) o₉ (nY hg) (by rw [List.length_map]; exact Nat.le_trans hrsl (by decide)) rfl rfl
      (fun Q' hq' => call_fnR (s := { s with heap := h₉, toks := tk₉ }) (ds := [S ["*"], .bool true]) (k := k + 3) (EV37 R') B R' F₉ T₉ (gl91 _) a91 b91 (rule_call B ["*"] true) (by kernel_rfl) (by decide) rfl (by kernel_rfl) hq') fun d h₁₀ tk₁₀ hd F₁₀ o₁₀ k₁₀ => wpAny_execs_nil ?_)
    obtain ⟨as, rfl⟩ := hd
    refine rest h₁₀ tk₁₀ (rs ++ [⟨as, ["*"], true⟩]) ?_ (by simp; omega) F₁₀ (by simpa using o₁₀) ?_ (T₉.kx k₁₀ hg0)
    · rw [List.map_append, hrs, hgr, h16]; rfl
    · refine ((k₈.mono fun b hb => List.mem_cons_of_mem _ hb).trans (KX.of hk₉)).trans (k₁₀.mono fun b hb => ?_)
      simp at hb; rw [hb]; exact List.mem_cons_self
  | false =>
    refine ec (wpAny_If (TS R' (b := false) ?_ F₈ T₈ fun s₉ ks₉ => ?_))
    · exact Eq.trans (b := some (wbit u 16)) (by kernel_rfl) (by rw [h16])
    obtain ⟨h₉, tk₉, rfl, hk₉⟩ := ks₉
    dsimp only at hk₉
    refine wpAny_execs_nil (rest h₉ tk₉ rs ?_ (by omega) (F₈.keep hk₉) (o₈.mono (X := []) (KX.of hk₉) (by simp) (by simp)) ((k₈.mono fun b hb => List.mem_cons_of_mem _ hb).trans (KX.of hk₉)) (T₈.keep hk₉))
    rw [hrs, hgr, h16]; simp [grants0]
end
end Mine
end

-- ForPair
section
open PySem PySem.W PyProof.Rows PySem.Calls PySem.SeqAt
set_option maxRecDepth 100000
namespace Mine
section
variable {prog : Program} {w : World} {h₀ : Heap} {A : Around} {s : Shared}
variable {W Y : List Addr} {sc : List (Str × NameKind)} {env : Env} {m : Mp}

/-- for x, y in (pairs): by an invariant, as for_inv -/
theorem for_pair {x y : Str} {px py tp pos : Pos} {tk : Nat} {iter : Expr} {body : List Stmt} {ds : List (D × D)} {Q : Flow → Shared → Prop} {E : Value → Shared → Prop} (Z : List Addr) (J : List Addr → Nat → Mp → Heap → Prop) (Rt : Value → Heap → Prop)
    (O : Own h₀ Y W env) (hh : A.handled = none) (F : FR W sc env s.heap m) (hx : storable sc x = true) (hy : storable sc y = true) (hset : notSet iter = true) (hZ : ∀ b ∈ Z, b ∈ W)
    (src : ∀ Q', (∀ it s₂ wr, SrcP prog w A W s ds it s₂ wr → Q' it s₂) → wpAny (model prog w) A (eval iter env) (fun xv s₁ => wpAny (model prog w) A (pyIter xv) Q' E s₁) E s)
    (Jst : ∀ X j m h h', (∀ b ∈ X, s.heap.get? b = none) → J X j m h → KX (X ++ Y) h h' → J X j m h')
    (J0 : ∀ X h', (∀ b ∈ X, s.heap.get? b = none) → (∀ b o, s.heap.get? b = some o → h'.get? b = some o) → J X 0 m h')
    (step : ∀ X j d m' s₂ E', (∀ b ∈ X, s.heap.get? b = none) → ds[j]? = some d → J X j m' s₂.heap → FR (X ++ W) sc env s₂.heap ((y, d.2) :: (x, d.1) :: m') → (∃ h tk, s₂ = { s with heap := h, toks := tk }) → KX (X ++ (Y ++ Z)) s.heap s₂.heap →
      wpAny (model prog w) A (execs body env) (fun f s₃ => ∃ h' tk, s₃ = { s₂ with heap := h', toks := tk } ∧ KX (Y ++ Z) s₂.heap h' ∧ match f with
        | .next => ∃ m'', FR (X ++ W) sc env h' m'' ∧ J X (j + 1) m'' h'
        | .ret v => Rt v h'
        | _ => False) E' s₂)
    (fin : ∀ X h' tk m', FR W sc env h' m' → J X ds.length m' h' → KX (Y ++ Z) s.heap h' → Q .next { s with heap := h', toks := tk })
    (retn : ∀ v h' tk, Rt v h' → KX (Y ++ Z) s.heap h' → Q (.ret v) { s with heap := h', toks := tk }) :
    wpAny (model prog w) A (exec (.For (.Tuple [.Name x px, .Name y py] tk tp) iter body [] pos) env) Q E s := by
  refine wpAny_For (src _ fun it s₂ wr hsrc => ?_) (folded_eq hset env)
  obtain ⟨I, fp, n, Pt, St, Mid, rfl, Wk, hlive, hn, hst, hk₂, hwr, hfp, items⟩ := hsrc
  obtain ⟨h₂, tk₂, rfl, hk₂⟩ := hk₂
  dsimp only at hst hfp items hk₂ ⊢
  have hWX : ∀ b ∈ W, b ∉ wr := fun b hb q => by obtain ⟨o, e⟩ := F.live b hb; rw [hwr b q] at e; cases e
  have hYW := O.sub
  have hYZW : ∀ b ∈ Y ++ Z, b ∈ W := fun b hb => by
    rcases List.mem_append.mp hb with hb | hb
    · exact hYW b hb
    · exact hZ b hb
  have hfpYZ : ∀ b ∈ fp, b ∉ Y ++ Z := fun b hb q => (hfp b hb).1 (hYZW b q)
  have F₂ : FR (wr ++ W) sc env h₂ m := F.grow hk₂ hwr (hlive 0 _ hst)
  have Fd : Feed prog w A (.Tuple [.Name x px, .Name y py] tk tp) sc env (.ref I) (wr ++ W) Y fp wr h₂ n (fun i => [(y, (ds.getD i (D.none, D.none)).2), (x, (ds.getD i (D.none, D.none)).1)]) St := by
    refine Feed.pair hh Wk hlive (fun b hb => List.mem_append_left _ hb) (fun i => (ds.getD i (D.none, D.none)).1) (fun i => (ds.getD i (D.none, D.none)).2) (storable_or hx) (storable_or hy) O.loc (fun z _ c e => O.cin z c e) (fun b hb q => (hfp b q).1 (hYW b hb)) (fun z c e => hWX _ (F.cin z c e)) fun i vals hi hP => ?_
    obtain ⟨u, v, d, rfl, hd, r1, r2⟩ := items i vals hi hP
    refine ⟨u, v, rfl, ?_, ?_⟩
    · simpa [List.getD_eq_getElem?_getD, hd] using r1
    · simpa [List.getD_eq_getElem?_getD, hd] using r2
  refine codeAny_forLoop_any (fun k s' => ∃ j m' h' tk, s' = { s with heap := h', toks := tk } ∧ j ≤ n ∧ k = n + 1 - j ∧ St j h' ∧ FR (wr ++ W) sc env h' m' ∧ J wr j m' h' ∧ KX (wr ++ (Y ++ Z)) s.heap h' ∧ KX (wr ++ (Y ++ Z)) h₂ h') ?_ (n + 1)
    ⟨0, m, h₂, tk₂, rfl, Nat.zero_le _, rfl, hst, F₂, J0 wr h₂ hwr hk₂, KX.of hk₂, KX.refl _ _⟩
  rintro k s' ⟨j, m', h', tk, rfl, hj, rfl, hst', F', hJ, kx', kx₂'⟩
  by_cases hlt : j < n
  · refine wpAny_mono (Fd.turn j _ m' (fun s₃ => wpAny (model prog w) A (execs body env) (fun f s₄ => match f with
          | .next | .cont => ∃ m, m < n + 1 - j ∧ ∃ j m' h' tk, s₄ = { s with heap := h', toks := tk } ∧ j ≤ n ∧ m = n + 1 - j ∧ St j h' ∧ FR (wr ++ W) sc env h' m' ∧ J wr j m' h' ∧ KX (wr ++ (Y ++ Z)) s.heap h' ∧ KX (wr ++ (Y ++ Z)) h₂ h'
          | .brk => Q .next s₄
          | .ret v => Q (.ret v) s₄) (notedBy (model prog w) A env fun e s' => cameBackBy (model prog w) A env E e s') s₃) _ hlt hst' (kx₂'.mono fun b hb => by
        rcases List.mem_append.mp hb with hb | hb
        · exact List.mem_append_left _ hb
        · exact List.mem_append_right _ (hYZW b hb)) F' fun h₃ tk₃ hst₃ F₃ k₃ => ?_) (fun r s₁ h₁ => ?_) fun _ _ e => e
    · have hd : ds[j]? = some (ds[j]'(by omega)) := List.getElem?_eq_getElem (by omega)
      generalize ds[j]'(by omega) = d at hd
      have hgd : ds.getD j (D.none, D.none) = d := by simp [List.getD_eq_getElem?_getD, hd]
      rw [hgd] at F₃
      have hJ₃ : J wr j m' h₃ := Jst wr j m' h' h₃ hwr hJ k₃
      have k13 : KX (wr ++ (Y ++ Z)) h' h₃ := k₃.mono fun b hb => by
        rcases List.mem_append.mp hb with hb | hb
        · exact List.mem_append_left _ hb
        · exact List.mem_append_right _ (List.mem_append_left _ hb)
      refine wpAny_mono (step wr j d m' { s with heap := h₃, toks := tk₃ } _ hwr hd hJ₃ F₃ ⟨_, _, rfl⟩ (kx'.trans k13)) (fun f s₄ h₄ => ?_) fun _ _ e => e
      obtain ⟨h₄, tk₄, rfl, ky₄, hf⟩ := h₄
      dsimp only at ky₄
      have kall₄ : KX (wr ++ (Y ++ Z)) h' h₄ := k13.trans (ky₄.mono fun b hb => List.mem_append_right _ hb)
      cases f with
      | next =>
        obtain ⟨m'', F₄, hJ₄⟩ := hf
        exact ⟨n + 1 - (j + 1), by omega, j + 1, m'', h₄, tk₄, rfl, hlt, rfl, Wk.frame _ _ _ hst₃ fun b hb o e => ky₄ b o (hfpYZ b hb) e, F₄, hJ₄, kx'.trans kall₄, kx₂'.trans kall₄⟩
      | ret v =>
        refine retn v h₄ tk₄ hf fun b o nb e => ?_
        exact (kx'.trans kall₄) b o (fun q => by
          rcases List.mem_append.mp q with q | q
          · rw [hwr b q] at e; cases e
          · exact nb q) e
      | brk => exact hf.elim
      | cont => exact hf.elim
    · obtain ⟨v, rfl, h₁⟩ := h₁
      exact h₁
  · have hjn : j = n := by omega
    subst hjn
    refine Fd.done _ _ _ hst' fun h₁ tk₁ kw₁ => ?_
    refine wpAny_execs_nil (fin wr h₁ tk₁ m' (F'.dropL F.loc F.cin hWX kw₁) (hn ▸ Jst wr j m' h' h₁ hwr hJ (kw₁.mono fun b hb => List.mem_append_left _ hb)) fun b o nb e => ?_)
    have hbw : b ∉ wr := fun q => by rw [hwr b q] at e; cases e
    exact kw₁ b o hbw (kx' b o (fun q => by
      rcases List.mem_append.mp q with q | q
      · exact hbw q
      · exact nb q) e)
end
end Mine
end

-- Wishes
section
open PySem PySem.W PyProof.Rows PySem.Calls PySem.SeqAt
set_option maxRecDepth 100000
namespace Mine
noncomputable def pickI (L : List Int) (lo hi st : Option Int) : List Int := (sliceRange (sliceBounds lo hi st L.length).1 (sliceBounds lo hi st L.length).2.1 (sliceBounds lo hi st L.length).2.2).filterMap (L[·]?)
theorem ppick_int (L : List Int) (lo hi st : Option Int) : ppick (L.map D.int) lo hi st = (pickI L lo hi st).map D.int := by
  unfold ppick pickI
  rw [List.length_map, List.map_filterMap]
  congr 1
  funext i
  rw [List.getElem?_map]
theorem sr_len (a b : Nat) : (sliceRange (a : Int) (b : Int) 1).length ≤ b := by
  unfold sliceRange
  rw [List.length_map, List.length_range, if_pos (by decide)]
  split
  · rw [Int.ediv_one]; omega
  · simp
theorem pickI_len63 (L : List Int) : (pickI L none (some 63) none).length ≤ L.length := by
  unfold pickI
  refine Nat.le_trans (List.length_filterMap_le _ _) ?_
  rw [sliceBounds_plain]
  have h : clipAt L.length 63 ≤ L.length := by
    have := clipAt_cast L.length 63
    omega
  exact Nat.le_trans (sr_len 0 (clipAt L.length 63)) h
noncomputable def wishOf (v : Int) : Wish := ⟨(abcd.getD (v.fmod 4).toNat default).2, lettersL (v.fdiv 4), (v.fdiv 64).fmod 32, v.fdiv 2048⟩

section
variable {prog : Program} {w : World} {A : Around} {h₀ : Heap} {k : Nat}
variable {W Y : List Addr} {sc : List (Str × NameKind)} {env : Env} {m : Mp} {s : Shared}

theorem all_ints {h : Heap} : ∀ {L : List Int} {vs : List Value}, Reps W h (L.map D.int) vs → ∀ v ∈ vs, ∃ a t, v = .int a t
  | [], vs, r, v, hv => by simp only [List.map_nil, Reps] at r; subst r; cases hv
  | x :: L, vs, r, v, hv => by
    simp only [List.map_cons, Reps] at r
    obtain ⟨u, t, rfl, h1, h2⟩ := r
    rcases List.mem_cons.mp hv with rfl | hv
    · simp only [Rep] at h1; obtain ⟨t, rfl⟩ := h1; exact ⟨_, _, rfl⟩
    · exact all_ints h2 v hv

/-- sum(e) for a list of ints -/
theorem sum_ok {ev : Expr → Option D} (H : ES prog w A W sc env m h₀ ev) {e : Expr} {p pos : Pos} {L : List Int} {Q E : Value → Shared → Prop} (B : Base w.params h₀) (hh : A.handled = none) (F : FR W sc env s.heap m) (T : Tp h₀ s.heap) (hf : sc.lookup ("sum" : Str) = some .globalImplicit) (hs : noStar e = true) (he : ev e = some (Z L)) (hq : ∀ v : Int, Then W s (.int v) Q) :
    wpAny (model prog w) A (eval (.Call (.Name "sum" p) [e] [] pos) env) Q E s := by
  rw [arm_eval_Call_Name']
  refine wpAny_bind (glob_blt B F T hf (by decide) (by decide) (v := .builtin "sum") (by kernel_rfl) (by kernel_rfl) ?_)
  refine callWith_method1 (rest := []) (wpAny_items_cons (rest := []) (H he F T fun v s₁ k1 r1 => wpAny_items_nil ?_) (starEach_cons hs _ _)) (starEach_cons hs _ _) rfl
  simp only [Rep] at r1
  obtain ⟨l, its, rfl, hlW, hl, hrs⟩ := r1
  obtain ⟨xs, rfl⟩ := AllInts.items (vs := its) fun v hv => all_ints hrs v (by simpa using hv)
  refine sum_intListG hh hl fun h' tk t' hk => hq _ _ _ (ktr k1 ⟨h', tk, rfl, hk⟩) rep_int
end

theorem at84 (P : Params) : ∃ o, (K P).lookup 84 = some o ∧ o.data = .func (fdOf P 84) := ⟨_, rfl, rfl⟩
theorem bd84 (P : Params) : (fdOf P 84).body = .stmts (bodyOf P 84) := rfl
theorem ok84 (P : Params) : fnOk ["script"] (fdOf P 84) = true := by kernel_rfl
theorem cd84 (P : Params) : codeIn (K P) (fdOf P 84).code (fdOf P 84).qualname = true := by kernel_rfl
theorem bi84 (P : Params) (vs : List Value) (h : vs.length = 1) : bindArgs (fdOf P 84) ⟨vs, []⟩ = pure ((["script"] : List Str).zip vs) := by
  obtain ⟨a, rfl⟩ := len1 h
  kernel_rfl
theorem gl84 (P : Params) : nsIn (K P) mainGlobals "_law_wishes" = some (some (.ref 84)) := by kernel_rfl
noncomputable abbrev sc84 (P : Params) := (fdOf P 84).scope.names

theorem sl_int {ev : Expr → Option D} {L : List Int} {lo hi st : Option Expr} {l h s : Option Int} (hL : L.length ≤ bound) (h1 : ppart ev lo = some l) (h2 : ppart ev hi = some h) (h3 : ppart ev st = some s) (hs : s ≠ some 0) : pslice ev (Z L) lo hi st = some (Z (pickI L l h s)) := by
  rw [pslice_eq (by rw [List.length_map]; exact hL) h1 h2 h3 hs, ppick_int]
theorem src_sub {ev : Expr → Option D} {sc : List (Str × NameKind)} {v i : Expr} {p : Pos} {ds : List D} (h : ev (.Subscript v i p) = some (.lst ds)) : psrc ev sc (.Subscript v i p) = some ds := src_of rfl h
theorem ev84 {F M : Str → List D → Option D} (P : Params) (L : List Int) (hL : L.length ≤ 63) (m : Mp) (hm : m = [(("script" : Str), Z L)]) (e : Expr) (he : e = asgVal (bodyOf P 84)) : ∃ N : List Int, N.length ≤ bound ∧ pev F M 40 (sc84 P) m e = some (Z N) := by
  subst hm he
  have hb : L.length ≤ bound := Nat.le_trans hL (by decide)
  refine ⟨(pickI L none (some 63) none).map (fun x => x.fmod 1000000), by rw [List.length_map]; exact Nat.le_trans (pickI_len63 L) hb, ?_⟩
  rw [show Z ((pickI L none (some 63) none).map (fun x => x.fmod 1000000)) = .lst (((pickI L none (some 63) none).filter fun _ => true).map fun x => .int (x.fmod 1000000)) by rw [filter_true']; simp [Z, Function.comp]]
  refine v_comp (f := .int) (L := pickI L none (some 63) none) (fun _ => true) (fun x => .int (x.fmod 1000000)) ⟨by kernel_rfl, .inl (by kernel_rfl), rfl⟩ ?_ (Nat.le_trans (pickI_len63 L) hb) (fun x _ => rfl) (fun x _ _ => by kernel_rfl)
  exact src_sub (v_slice (a := Z L) (by kernel_rfl) (sl_int (l := none) (h := some 63) (s := none) hb rfl (by kernel_rfl) rfl (by decide)))
end Mine
end

-- WishC
section
open PySem PySem.W PyProof.Rows PySem.Calls PySem.SeqAt
set_option maxRecDepth 100000
namespace Mine
theorem fmod4 (v : Int) : v.fmod 4 = 0 ∨ v.fmod 4 = 1 ∨ v.fmod 4 = 2 ∨ v.fmod 4 = 3 := by
  have h1 := Int.fmod_nonneg_of_pos v (show (0 : Int) < 4 by decide)
  have h2 := Int.fmod_lt_of_pos v (show (0 : Int) < 4 by decide)
  obtain ⟨n, e⟩ := Int.eq_ofNat_of_zero_le h1
  rw [e] at h2 ⊢
  exact (show ∀ n : Fin 4, (n.1 : Int) = 0 ∨ (n.1 : Int) = 1 ∨ (n.1 : Int) = 2 ∨ (n.1 : Int) = 3 by decide) ⟨n, Int.ofNat_lt.mp h2⟩
theorem idx_abcd (v : Int) : pidx (.str "abcd") (.int (v.fmod 4)) = some (.str (wishOf v).struck) := by
  unfold wishOf
  dsimp only
  rcases fmod4 v with h | h | h | h <;> rw [h] <;> kernel_rfl

noncomputable abbrev forB84 (P : Params) : List Stmt := forBody ((bodyOf P 84).drop 2)
noncomputable def appArg (ss : List Stmt) : Expr := exH (stH ss).1
theorem v_tuple {F M : Str → List D → Option D} {n : Nat} {sc : List (Str × NameKind)} {m : Mp} {es : List Expr} {ds : List D} {c : Nat} {p : Pos} (hs : es.all noStar = true ∧ es.length ≤ bound) (h : pevs (pev F M n sc m) es = some ds) : pev F M (n + 1) sc m (.Tuple es c p) = some (.tup ds) := by
  show (hItems _ _).map D.tup = _
  unfold hItems; rw [if_pos hs, h]; rfl
theorem evA {F M : Str → List D → Option D} (P : Params) (v : Int) (m' m : Mp) (e : Expr) (hm : m = (("wanted" : Str), S (lettersL (v.fdiv 4))) :: (("v" : Str), .int v) :: m') (he : e = appArg ((forB84 P).drop 2)) : pev F M 40 (sc84 P) m e = some (wishD (wishOf v)) := by
  subst hm he
  refine v_tuple (by decide) (evs_cons (d := .str (wishOf v).struck) ?_ (evs_cons (d := S (wishOf v).wanted) (by kernel_rfl) (evs_cons (d := .int (wishOf v).bits) (by kernel_rfl) (evs_cons (d := .int (wishOf v).rest) (by kernel_rfl) evs0))))
  exact Eq.trans (b := pidx (.str "abcd") (.int (v.fmod 4))) (by kernel_rfl) (idx_abcd v)

section
variable {prog : Program} {w : World} {A : Around} {h₀ : Heap} {k : Nat}

theorem wishes_call (B : Base w.params h₀) {L : List Int} (hL : L.length ≤ 63) : CallR prog w h₀ (k + 1) 84 [Z L] (fun d => ∃ v0 v1 v2, d = .lst ([v0, v1, v2].map fun v => wishD (wishOf v))) := by
  intro A W s vs Q E R T lv hr hq
  obtain ⟨o, h1, h2⟩ := at84 w.params
  refine call_frame (ps := ["script"]) B R T lv h1 h2 (cd84 _) (bd84 _) (ok84 _) (bi84 _ vs hr.length) hr fun Y env h₁ tk₁ hY henv O Fr hk₁ hYn => ?_
  have R' := R.deeper env
  have T₁ := T.keep hk₁
  obtain ⟨EV, TS⟩ := ev_sound (prog := prog) (k := k) (F := M0) (M := M0) B F0_ok M0_ok 40
  obtain ⟨EV30, TS30⟩ := ev_sound (prog := prog) (k := k) (F := M0) (M := M0) B F0_ok M0_ok 30
  obtain ⟨N, hN, hev⟩ := ev84 (F := M0) (M := M0) w.params L hL ((["script"] : List Str).zip [Z L]) rfl _ rfl
  refine ec (assign_ok (s := { s with heap := h₁, toks := tk₁ }) (d := Z N) (k := k) (n := 40) B (F := M0) (M := M0) F0_ok M0_ok R' O Fr T₁ (by kernel_rfl) hev fun h₂ tk₂ F₂ k₂ => ?_)
  have T₂ := T₁.kx k₂ O.new
  refine ec (own_new (s := { s with heap := h₂, toks := tk₂ }) O F₂ (by kernel_rfl) fun g h₃ tk₃ hg F₃ o₃ k₃ => ?_)
  have T₃ := T₂.kx k₃ O.new
  have nY : ∀ {b}, h₂.get? b = none → b ∉ Y := fun {b} hb q => by obtain ⟨o, e⟩ := F₂.live b (O.sub b q); rw [hb] at e; cases e
  have nYW : ∀ {b}, h₂.get? b = none → b ∉ Y ++ W := fun {b} hb q => by obtain ⟨o, e⟩ := F₂.live b q; rw [hb] at e; cases e
  have O₃ : Own h₀ Y (g :: (Y ++ W)) env := O.grow (X := [g])
  have hgal : ∃ o, h₃.get? g = some o := F₃.live g List.mem_cons_self
  have hg0 : h₀.get? g = none := T₂.gone hg
  refine ec (for_pair (s := { s with heap := h₃, toks := tk₃ }) (ds := [(.int 0, .int 12296), (.int 1, .int 81), (.int 2, .int 2562)]) [g]
    (fun X j m' h => m'.lookup ("numbers" : Str) = some (Z N) ∧ m'.lookup ("wishes" : Str) = some (.raw (.ref g)) ∧ ∃ vs : List Int, vs.length = j ∧ OwnL (X ++ (g :: (Y ++ W))) h g (vs.map fun v => wishD (wishOf v)))
    (fun _ _ => False) O₃ R'.hd F₃ (by kernel_rfl) (by kernel_rfl) rfl (by simp) (fun Q' hq' => src_enum_list (EV R') B R'.hd F₃ T₃ (by kernel_rfl) rfl (ds := [.int 12296, .int 81, .int 2562]) (by kernel_rfl) Q' hq') ?_ ?_ ?_ ?_ ?_)
  · rintro X j m' h h' hX ⟨j1, j2, vs, j3, j4⟩ kx
    refine ⟨j1, j2, vs, j3, j4.mono kx (fun b hb => ?_) fun q => ?_⟩
    · rcases List.mem_append.mp hb with hb | hb
      · exact List.mem_append_left _ hb
      · exact List.mem_append_right _ (O₃.sub b hb)
    · rcases List.mem_append.mp q with q | q
      · obtain ⟨o, e⟩ := hgal; have := hX g q; rw [show h₃.get? g = some o from e] at this; cases this
      · exact nY hg q
  · intro X h' hX hk
    exact ⟨rfl, lookup_cons_self, [], rfl, o₃.grow hk hX⟩
  · rintro X j d m' s₂ E' hX hd ⟨j1, j2, vs, j3, j4⟩ F₄ ⟨h₄, tk₄, rfl⟩ k₄
    dsimp only at hX j4 F₄ k₄ ⊢
    have O₄ : Own h₀ Y (X ++ (g :: (Y ++ W))) env := O₃.grow
    have T₄ : Tp h₀ h₄ := T₃.kx k₄ fun b hb => by
      rcases List.mem_append.mp hb with hb | hb
      · exact T₃.gone (hX b hb)
      · rcases List.mem_append.mp hb with hb | hb
        · exact O.new b hb
        · simp at hb; rw [hb]; exact hg0
    obtain ⟨st, kk, rfl⟩ : ∃ st kk : Int, d = (.int kk, .int st) := by
      have := List.mem_of_getElem? hd
      simp at this
      rcases this with rfl | rfl | rfl <;> exact ⟨_, _, rfl⟩
    -- v
    refine ec (asgN (wpAny_BinOp (EV R' (d := .int st) (by kernel_rfl) F₄ T₄ fun va sa ka ra => ?_)) (swap_no rfl _ _ _ _))
    simp only [Rep] at ra
    obtain ⟨ta, rfl⟩ := ra
    obtain ⟨h₅, tk₅, rfl, hk₅⟩ := ka
    refine sum_ok (s := { s with heap := h₅, toks := tk₅ }) (EV30 R') (L := pickI N (some kk) none (some 3)) B R'.hd (F₄.keep hk₅) (T₄.keep hk₅) (by kernel_rfl) rfl ?_ fun sv vb sb kb rb => ?_
    · refine v_slice (a := Z N) (v_name ?_ (by decide)) (sl_int (l := some kk) (h := none) (s := some 3) hN (by kernel_rfl) rfl (by kernel_rfl) (by decide))
      rw [lookup_cons_ne (by decide), lookup_cons_ne (by decide)]; exact j1
    simp only [Rep] at rb
    obtain ⟨tb, rfl⟩ := rb
    obtain ⟨h₆, tk₆, rfl, hk₆⟩ := kb
    refine add_int ?_
    have F₆ := (F₄.keep hk₅).keep hk₆
    refine FR.store (s := { s with heap := h₆, toks := tk₆ + 1 }) F₆ (.inr (by kernel_rfl)) (d := .int (st + sv)) rep_int fun h₇ tk₇ F₇ kx₇ hb₇ => ?_
    have ky₇ : KX Y h₄ h₇ := ((KX.of hk₅).trans (KX.of hk₆)).trans (own_store (O := O₄) hb₇)
    have T₇ := T₄.kx ky₇ O.new
    -- wanted
    refine ec (gcomp_assign (s := { s with heap := h₇, toks := tk₇ }) (fun ds => ds = (lettersL ((st + sv).fdiv 4)).map D.str) F₇ (by kernel_rfl) rfl (.inl (by kernel_rfl)) ⟨_, rfl⟩ (SrcP prog w (A.deeper env) (X ++ (g :: (Y ++ W))) { s with heap := h₇, toks := tk₇ } (abcd.map pairOf)) (fun it s₂ wr S => S.g)
      (fun Q' hq' => src_enum_str (s := { s with heap := h₇, toks := tk₇ }) (EV R') B R'.hd F₇ T₇ (by kernel_rfl) rfl (x := "abcd") (by kernel_rfl) Q' fun it s₂ wr S => hq' it s₂ wr (by rw [enum_abcd] at S; exact S)) (fun it s₂ wr S Dx YL cenv hE En RR fin => ?_) ?_)
    · refine pair_loop EV30 TS30 R' F₇ T₇ (by decide) (.inl (by kernel_rfl)) (.inl (by kernel_rfl)) (by decide) ?_ S En RR fin
      rw [show (lettersL ((st + sv).fdiv 4)).map D.str = (abcd.filter fun p => bitOf ((st + sv).fdiv 4) p.1).map fun p => D.str p.2 by simp [lettersL, Function.comp]]
      refine pcomp2_map pairOf (fun p => bitOf ((st + sv).fdiv 4) p.1) (fun p => .str p.2) abcd (fun p hp => ?_) (fun p hp _ => by kernel_rfl)
      simp [abcd] at hp
      rcases hp with rfl | rfl | rfl | rfl <;> kernel_rfl
    rintro ds h₈ tk₈ rfl F₈ kx₈ hb₈
    have ky₈ : KX Y h₇ h₈ := own_store (O := O₄) hb₈
    have T₈ := T₇.kx ky₈ O.new
    have gX : g ∉ X ++ Y := fun q => by
      rcases List.mem_append.mp q with q | q
      · obtain ⟨o, e⟩ := hgal; have := hX g q; rw [show h₃.get? g = some o from e] at this; cases this
      · exact nY hg q
    have o₈ : OwnL (X ++ (g :: (Y ++ W))) h₈ g (vs.map fun v => wishD (wishOf v)) := j4.mono (ky₇.trans ky₈) O₄.sub (nY hg)
    have hlk : (("wanted", S (lettersL ((st + sv).fdiv 4))) :: ("v", .int (st + sv)) :: ("start", .int st) :: ("k", .int kk) :: m' : Mp).lookup ("wishes" : Str) = some (.raw (.ref g)) := by
      rw [lookup_cons_ne (by decide), lookup_cons_ne (by decide), lookup_cons_ne (by decide), lookup_cons_ne (by decide)]; exact j2
    have hlk2 : (("wanted", S (lettersL ((st + sv).fdiv 4))) :: ("v", .int (st + sv)) :: ("start", .int st) :: ("k", .int kk) :: m' : Mp).lookup ("numbers" : Str) = some (Z N) := by
      rw [lookup_cons_ne (by decide), lookup_cons_ne (by decide), lookup_cons_ne (by decide), lookup_cons_ne (by decide)]; exact j1
    have hj : j < 3 := by
      have := (List.getElem?_eq_some_iff.mp hd).1; simpa using this
    refine ec (own_append (s := { s with heap := h₈, toks := tk₈ }) (RR := fun d => d = wishD (wishOf (st + sv))) O₄ F₈ hlk (by decide) o₈ (nY hg) (by rw [List.length_map, j3]; unfold bound; omega) rfl rfl
      (fun Q' hq' => EV R' (evA w.params (st + sv) _ _ _ rfl (by kernel_rfl)) F₈ T₈ (hq' _ rfl)) fun d h₉ tk₉ hd F₉ o₉ k₉ => wpAny_execs_nil ?_)
    subst hd
    refine ⟨h₉, tk₉, rfl, ((ky₇.trans ky₈).mono fun b hb => List.mem_append_left _ hb).trans (k₉.mono fun b hb => List.mem_append_right _ hb), _, F₉, hlk2, hlk, vs ++ [st + sv], by simp [j3], ?_⟩
    simpa using o₉
  · rintro X h₄ tk₄ m' F₄ ⟨j1, j2, vs, j3, j4⟩ k₄
    obtain ⟨v0, v1, v2, rfl⟩ := len3 j3
    obtain ⟨ys, y1, y2⟩ := j4.lst
    refine ec (wpAny_Return_some (wpAny_Name (FR.load (s := { s with heap := h₄, toks := tk₄ }) F₄ j2 (by decide) fun z rz => ?_) (by decide)))
    simp only [Rep] at rz
    subst rz
    have old : ∀ b o, s.heap.get? b = some o → b ∉ Y := fun b o e q => by rw [hYn b q] at e; cases e
    have up2 : ∀ b o, s.heap.get? b = some o → h₂.get? b = some o := fun b o e => k₂ b o (old b o e) (hk₁ b o e)
    refine hq _ ⟨v0, v1, v2, rfl⟩ (.ref g) _ ⟨h₄, tk₄, rfl, fun b o e => ?_⟩ ?_
    · refine k₄ b o (fun q => ?_) (k₃ b o (old b o e) (up2 b o e))
      rcases List.mem_append.mp q with q | q
      · exact old b o e q
      · simp at q; have := up2 b o e; rw [q, hg] at this; cases this
    · simp only [Rep]
      refine ⟨g, ys, rfl, fun q => nYW hg (List.mem_append_right _ q), y1.isList, y2.off fun b hb => .inl (List.mem_append_right _ (List.mem_cons_of_mem _ (List.mem_append_right _ hb)))⟩
  · intro v h' tk hf; exact hf.elim
end
end Mine
end

-- RecRight
section
open PySem PySem.W PyProof.Rows PySem.Calls PySem.SeqAt
set_option maxRecDepth 100000
namespace Mine
noncomputable def entD (a : Addr) (A : D) (rs : List Rule) (X Y : D) : D := .ent a ns4 [A, .lst (rs.map ruleD), X, Y]
theorem M2_ent {a : Addr} {A X Y : D} {rs : List Rule} {u q : Option Str} (hr : rsOk rs) (hq : askB u = some q) : M2 "allowance" [entD a A rs X Y, fnD u] = some (.bool (allowB rs q)) := by
  have e : (ns4.zip [A, .lst (rs.map ruleD), X, Y]).lookup ("rulelines" : Str) = some (.lst (rs.map ruleD)) := rfl
  rw [← rsOkB_iff] at hr
  cases u with
  | none =>
    simp only [askB] at hq; cases hq
    simp only [M2, entD, fnD, e, rulesOf_D, hr, if_true]
  | some u =>
    simp only [M2, entD, fnD, e, rulesOf_D, hr, if_true, hq]
/-- what is looked for when the name of number i is asked -/
noncomputable def qS (i : Int) : Str := if i.fmod 3 == 1 then joinAll (lettersL i) ++ ("*" : Str) else joinAll (lettersL i)
theorem ask_name {i : Int} (hi : i ∈ i16) : askB (some (nameOf i)) = some (some (qS i)) := by
  simp only [i16, List.mem_cons, List.not_mem_nil, or_false] at hi
  rcases hi with rfl | rfl | rfl | rfl | rfl | rfl | rfl | rfl | rfl | rfl | rfl | rfl | rfl | rfl | rfl | rfl <;> kernel_rfl
noncomputable def askedL : List Str := i16.map nameOf
theorem asked_at {i : Int} (hi : i ∈ i16) : pidx (S askedL) (.int i) = some (.str (nameOf i)) := by
  simp only [i16, List.mem_cons, List.not_mem_nil, or_false] at hi
  rcases hi with rfl | rfl | rfl | rfl | rfl | rfl | rfl | rfl | rfl | rfl | rfl | rfl | rfl | rfl | rfl | rfl <;> kernel_rfl

section
variable {F M : Str → List D → Option D} {n : Nat} {sc : List (Str × NameKind)} {m : Mp} {p : Pos}
theorem v_idxN {x y : Str} {q q' : Pos} {a b d : D} (h1 : pev F M n sc m (.Name x q) = some a) (h2 : pev F M n sc m (.Name y q') = some b) (h : pidx a b = some d) : pev F M (n + 1) sc m (.Subscript (.Name x q) (.Name y q') p) = some d := by
  show ((pev F M n sc m (.Name x q)).bind fun a => (pev F M n sc m (.Name y q')).bind fun b => pidx a b) = _
  rw [h1, h2]; exact h
theorem v_idxC {x : Str} {q q' : Pos} {c : Const} {kd : Nat} {a b d : D} (h1 : pev F M n sc m (.Name x q) = some a) (h2 : pev F M n sc m (.Constant c kd q') = some b) (h : pidx a b = some d) : pev F M (n + 1) sc m (.Subscript (.Name x q) (.Constant c kd q') p) = some d := by
  show ((pev F M n sc m (.Name x q)).bind fun a => (pev F M n sc m (.Constant c kd q')).bind fun b => pidx a b) = _
  rw [h1, h2]; exact h
theorem v_or {x y : Expr} {c d : Bool} (h : pev F M n sc m x = some (.bool c)) (h2 : c = false → pev F M n sc m y = some (.bool d)) : pev F M (n + 1) sc m (.BoolOp .Or [x, y] p) = some (.bool (c || d)) := by
  cases c
  all_goals show ((pev F M n sc m x).bind D.gB).bind (fun b => cond b (some (D.bool true)) (pev F M n sc m y)) = _
  · rw [h]; exact h2 rfl
  · rw [h]; rfl
theorem v_int {i : Int} {kd : Nat} : pev F M (n + 1) sc m (.Constant (.int i) kd p) = some (.int i) := rfl
theorem eq_int (a b : Int) : pcmp .Eq (.int a) (.int b) = some (a == b) := rfl
theorem fd_int (a b : Int) (h : b ≠ 0 ∧ b.natAbs < 1073741824) : pbin .FloorDiv (.int a) (.int b) = some (.int (a.fdiv b)) := if_pos h
theorem md_int (a b : Int) (h : b ≠ 0) : pbin .Mod (.int a) (.int b) = some (.int (a.fmod b)) := if_pos h
theorem pfor_all {body : Mp → Option PF} {x : Str} (P : Mp → Prop) : ∀ {ds : List D} {m : Mp}, P m → (∀ d ∈ ds, ∀ m, P m → ∃ m', body ((x, d) :: m) = some (.next m') ∧ P m') → ∃ m', pfor body x ds m = some (.next m') ∧ P m'
  | [], m, hm, _ => ⟨m, rfl, hm⟩
  | d :: ds, m, hm, h => by
    obtain ⟨m1, e1, p1⟩ := h d List.mem_cons_self m hm
    obtain ⟨m2, e2, p2⟩ := pfor_all P p1 fun d' hd' => h d' (List.mem_cons_of_mem _ hd')
    exact ⟨m2, pfor_next e1 e2, p2⟩
end

theorem at135 (P : Params) : ∃ o, (K P).lookup 135 = some o ∧ o.data = .func (fdOf P 135) := ⟨_, rfl, rfl⟩
theorem bd135 (P : Params) : (fdOf P 135).body = .stmts (bodyOf P 135) := rfl
theorem ok135 (P : Params) : fnOk ["record", "wish", "let", "asked"] (fdOf P 135) = true := by kernel_rfl
theorem cd135 (P : Params) : codeIn (K P) (fdOf P 135).code (fdOf P 135).qualname = true := by kernel_rfl
theorem bi135 (P : Params) (vs : List Value) (h : vs.length = 4) : bindArgs (fdOf P 135) ⟨vs, []⟩ = pure ((["record", "wish", "let", "asked"] : List Str).zip vs) := by
  obtain ⟨a, b, c, d, rfl⟩ := len4 h
  kernel_rfl
theorem gl135 (P : Params) : nsIn (K P) mainGlobals "_law_record_is_right" = some (some (.ref 135)) := by kernel_rfl

structure At135 (m : Mp) (E : D) (u : Wish) (lt : List Int) : Prop where
  r : m.lookup ("record" : Str) = some E
  w : m.lookup ("wish" : Str) = some (wishD u)
  l : m.lookup ("let" : Str) = some (Z lt)
  a : m.lookup ("asked" : Str) = some (S askedL)
theorem At135.cons {m : Mp} {E : D} {u : Wish} {lt : List Int} (h : At135 m E u lt) (d : D) : At135 (("which", d) :: m) E u lt :=
  ⟨by rw [lookup_cons_ne (by decide)]; exact h.r, by rw [lookup_cons_ne (by decide)]; exact h.w, by rw [lookup_cons_ne (by decide)]; exact h.l, by rw [lookup_cons_ne (by decide)]; exact h.a⟩
theorem is_not_same (x y : Bool) (h : x = y) : pcmp .IsNot (.bool x) (.bool y) = some false := by subst h; cases x <;> rfl
theorem is_same (x y : Bool) (h : x = y) : pcmp .Is (.bool x) (.bool y) = some true := by subst h; cases x <;> rfl
theorem allow_ev {F : Str → List D → Option D} {n : Nat} {sc : List (Str × NameKind)} {m : Mp} {o : Expr} {ap p : Pos} {e : Expr} {a : Addr} {A X Y : D} {rs : List Rule} {u q : Option Str} (hs : notSuper o = true) (he : noStar e = true) (hp : (ap.endLine == p.line) = true) (ho : pev F M2 n sc m o = some (entD a A rs X Y)) (hv : pev F M2 n sc m e = some (fnD u)) (hr : rsOk rs) (hq : askB u = some q) :
    pev F M2 (n + 1) sc m (.Call (.Attribute o "allowance" ap) [e] [] p) = some (.bool (allowB rs q)) :=
  v_meth hs (by simp [he]) (by simp) hp ho (evs_cons hv evs0) (by
    show pmeth M2 (.ent a ns4 [A, .lst (rs.map ruleD), X, Y]) "allowance" [fnD u] = _
    simp only [pmeth]
    rw [if_pos (by decide)]
    exact M2_ent hr hq)

theorem ex135 (P : Params) (F : Str → List D → Option D) {a : Addr} {A X Y : D} {rs : List Rule} {u : Wish} {lt : List Int} (hr : rsOk rs) (h1 : ∀ i ∈ i16, allowB rs (some (qS i)) = lt.contains i)
    (h2 : allowB rs none = ((u.bits.fdiv 8).fmod 2 == 0 || (u.bits.fdiv 16).fmod 2 == 1)) :
    pexecs (pexec F M2 10 (fdOf P 135).scope.names) ((["record", "wish", "let", "asked"] : List Str).zip [entD a A rs X Y, wishD u, Z lt, S askedL]) (bodyOf P 135) = some (.ret (.bool true)) := by
  obtain ⟨m', e, h'⟩ := pfor_all (body := fun m' => pexecs (pexec F M2 9 (fdOf P 135).scope.names) m' (forBody (bodyOf P 135))) (x := "which") (ds := i16.map .int) (fun m => At135 m (entD a A rs X Y) u lt)
    (m := (["record", "wish", "let", "asked"] : List Str).zip [entD a A rs X Y, wishD u, Z lt, S askedL]) ⟨rfl, rfl, rfl, rfl⟩ (fun d hd m hm => by
      obtain ⟨i, hi, rfl⟩ := List.mem_map.mp hd
      refine ⟨_, st_skip (t_cmp rfl (allow_ev (u := some (nameOf i)) rfl rfl (by kernel_rfl) (v_name (hm.cons _).r (by decide)) (v_idxN (v_name (hm.cons _).a (by decide)) (v_name lookup_cons_self (by decide)) (asked_at hi)) hr (ask_name hi)) (v_cmp rfl (v_name lookup_cons_self (by decide)) (v_name (hm.cons _).l (by decide)) (in_Z i lt)) (is_not_same _ _ (h1 i hi))) rfl, hm.cons _⟩)
  refine st_for (ds := i16.map .int) (by kernel_rfl) rfl (by kernel_rfl) (by decide) e (st_ret ?_)
  refine (v_cmp rfl (allow_ev (u := none) rfl rfl (by kernel_rfl) (v_name h'.r (by decide)) (by kernel_rfl) hr rfl) (v_or (c := (u.bits.fdiv 8).fmod 2 == 0) (d := (u.bits.fdiv 16).fmod 2 == 1) ?_ fun _ => ?_) (is_same _ _ h2))
  · exact v_cmp rfl (v_bin (v_bin (v_idxC (v_name h'.w (by decide)) v_int (show pidx (wishD u) (.int 2) = some (.int u.bits) by kernel_rfl)) v_int (fd_int _ _ (by decide))) v_int (md_int _ _ (by decide))) v_int (eq_int _ _)
  · exact v_cmp rfl (v_bin (v_bin (v_idxC (v_name h'.w (by decide)) v_int (show pidx (wishD u) (.int 2) = some (.int u.bits) by kernel_rfl)) v_int (fd_int _ _ (by decide))) v_int (md_int _ _ (by decide))) v_int (eq_int _ _)

theorem recRight_call {prog : Program} {w : World} {h₀ : Heap} {k : Nat} (B : Base w.params h₀) {a : Addr} {A X Y : D} {rs : List Rule} {u : Wish} {lt : List Int} (hr : rsOk rs) (h1 : ∀ i ∈ i16, allowB rs (some (qS i)) = lt.contains i)
    (h2 : allowB rs none = ((u.bits.fdiv 8).fmod 2 == 0 || (u.bits.fdiv 16).fmod 2 == 1)) : CallOk prog w h₀ (k + 3) 135 [entD a A rs X Y, wishD u, Z lt, S askedL] (.bool true) := by
  obtain ⟨o, e1, e2⟩ := at135 w.params
  exact fn_call (k := k + 2) (F := M0) (M := M2) B F0_ok (M2_ok B) e1 e2 (cd135 _) (bd135 _) (ok135 _) (fun vs h => bi135 _ vs h) (ex135 _ M0 hr h1 h2)
end Mine
end

-- ExcR
section
open PySem PySem.W PyProof.Rows PySem.Calls PySem.SeqAt
set_option maxRecDepth 100000
namespace Mine
noncomputable abbrev Xs (fr : List Env) : List Addr := fr.filterMap (·.frame)

/-- all stays, but for the slots of the frames X -/
structure KS (X : List Addr) (h h' : Heap) : Prop where
  out : ∀ b o, b ∉ X → h.get? b = some o → h'.get? b = some o
  ins : ∀ b o, b ∈ X → h.get? b = some o → ∃ sl, h'.get? b = some { o with slots := sl }
theorem KS.of {X : List Addr} {h h' : Heap} (k : ∀ b o, h.get? b = some o → h'.get? b = some o) : KS X h h' := ⟨fun b o _ e => k b o e, fun b o _ e => ⟨o.slots, k b o e⟩⟩
theorem KS.trans {X : List Addr} {h h' h'' : Heap} (a : KS X h h') (b : KS X h' h'') : KS X h h'' :=
  ⟨fun x o n e => b.out x o n (a.out x o n e), fun x o n e => let ⟨_, e1⟩ := a.ins x o n e; let ⟨sl, e2⟩ := b.ins x _ n e1; ⟨sl, e2⟩⟩
theorem KS.kx {X : List Addr} {h h' : Heap} (a : KS X h h') : KX X h h' := fun b o n e => a.out b o n e
theorem KS.any {X : List Addr} {h h' : Heap} (a : KS X h h') {b : Addr} {o : Obj} (e : h.get? b = some o) : ∃ sl, h'.get? b = some { o with slots := sl } := by
  by_cases q : b ∈ X
  · exact a.ins b o q e
  · exact ⟨o.slots, a.out b o q e⟩

theorem FR.ks {W X : List Addr} {sc : List (Str × NameKind)} {env : Env} {h h' : Heap} {m : Mp} (F : FR W sc env h m) (k : KS X h h') (hX : ∀ b ∈ X, b ∈ W) : FR W sc env h' m := by
  have kx : KX W h h' := k.kx.mono hX
  refine ⟨F.kind, F.globs, F.blts, F.kinds, fun x hx => ?_, F.loc, F.cin, F.inj, fun x hx => ?_, ?_⟩
  · obtain ⟨o, e⟩ := F.live x hx
    obtain ⟨sl, e'⟩ := k.any e
    exact ⟨_, e'⟩
  · obtain ⟨c, v, h1, o, h2, h3⟩ := F.cell x hx
    obtain ⟨sl, e'⟩ := k.any h2
    exact ⟨c, v, h1, _, e', h3⟩
  · obtain ⟨μ, ⟨o, es, ep, e, r⟩, h2⟩ := F.ns
    obtain ⟨sl, e'⟩ := k.any e
    refine ⟨μ, ⟨_, es, ep, e', r⟩, fun x d hx => ?_⟩
    rcases h2 x d hx with ⟨a, v, b, c⟩ | ⟨a, c, v, h3, ⟨o', h4, h4'⟩, h5⟩
    · exact .inl ⟨a, v, b, c.mono kx⟩
    · obtain ⟨sl', e''⟩ := k.any h4
      exact .inr ⟨a, c, v, h3, ⟨_, e'', h4'⟩, h5.mono kx⟩

/-- the frames around, whose objects W holds -/
structure Frs (A : Around) (W : List Addr) (h : Heap) (fr : List Env) : Prop where
  eq : A.frames = some fr
  ok : ∀ env ∈ fr, env.scope.kind ≠ .module ∧ ∃ L o, env.frame = some L ∧ L ∈ W ∧ h.get? L = some o ∧ ∀ vs, o.data ≠ .fields vs
theorem Frs.sub {A : Around} {W : List Addr} {h : Heap} {fr : List Env} (f : Frs A W h fr) : ∀ b ∈ Xs fr, b ∈ W := fun b hb => by
  obtain ⟨env, he, hf⟩ := List.mem_filterMap.mp hb
  obtain ⟨_, L, o, h1, h2, _⟩ := f.ok env he
  rw [h1] at hf; cases hf; exact h2
theorem Frs.keep {A : Around} {W W' : List Addr} {h h' : Heap} {fr : List Env} (f : Frs A W h fr) (hW : ∀ b ∈ W, b ∈ W') (k : ∀ b o, b ∈ Xs fr → h.get? b = some o → ∃ o', h'.get? b = some o' ∧ o'.data = o.data) : Frs A W' h' fr := by
  refine ⟨f.eq, fun env he => ?_⟩
  obtain ⟨h0, L, o, h1, h2, h3, h4⟩ := f.ok env he
  obtain ⟨o', e1, e2⟩ := k L o (List.mem_filterMap.mpr ⟨env, he, h1⟩) h3
  exact ⟨h0, L, o', h1, hW L h2, e1, fun vs q => h4 vs (e2 ▸ q)⟩
theorem Frs.fun {A : Around} {W : List Addr} {h : Heap} {fr : List Env} (f : Frs A W h fr) : h.FunFrames { objs := #[] } fr := by
  have : ∀ l : List Env, (∀ env ∈ l, env ∈ fr) → h.FunFrames { objs := #[] } l := by
    intro l
    induction l with
    | nil => intro _; trivial
    | cons env rest ih =>
      intro hl
      obtain ⟨h0, L, o, h1, h2, h3, h4⟩ := f.ok env (hl env List.mem_cons_self)
      exact ⟨h0, ⟨L, o, h1, by simp [Heap.get?], h3, h4⟩, ih fun e he => hl e (List.mem_cons_of_mem _ he)⟩
  exact this fr fun _ h => h

/-- an IndexError with its traceback: fl tells the frame that it is in flight in, ctx its context -/
structure Exc (h : Heap) (e T : Addr) (fl ctx : Value) : Prop where
  obj : ∃ oe vs, h.get? e = some oe ∧ oe.cls = .type "IndexError" ∧ oe.data = .fields vs ∧ vs[1]? = some (.ref T) ∧ vs[2]? = some ctx
  ne : T ≠ e
  tb : ∃ oT ts, h.get? T = some oT ∧ oT.data = .fields ts ∧ ts[3]? = some fl
/-- one just made -/
structure ExcN (h : Heap) (e : Addr) (ctx : Value) : Prop where
  obj : ∃ oe vs, h.get? e = some oe ∧ oe.cls = .type "IndexError" ∧ oe.data = .fields vs ∧ vs[1]? = some .none ∧ vs[2]? = some ctx
theorem Exc.keep {h h' : Heap} {e T : Addr} {fl ctx : Value} (x : Exc h e T fl ctx) (ke : ∀ o, h.get? e = some o → h'.get? e = some o) (kT : ∀ o, h.get? T = some o → h'.get? T = some o) : Exc h' e T fl ctx := by
  obtain ⟨oe, vs, h1, h2⟩ := x.obj
  obtain ⟨oT, ts, h3, h4⟩ := x.tb
  exact ⟨⟨oe, vs, ke _ h1, h2⟩, x.ne, ⟨oT, ts, kT _ h3, h4⟩⟩

section
variable {M : Model} {A : Around} {E : Value → Shared → Prop} {s : Shared}

theorem flight {e T : Addr} {fl ctx : Value} {f : Option Addr} {Q : Unit → Shared → Prop} (x : Exc s.heap e T fl ctx)
    (h : ∀ h', Exc h' e T (f.elim .none fun g => rawInt g) ctx → (∀ b o, b ≠ T → s.heap.get? b = some o → h'.get? b = some o) → Q () { s with heap := h' }) : wpAny M A (setFlight (.ref e) f) Q E s := by
  obtain ⟨oe, vs, h1, h2, h3, h4, h5⟩ := x.obj
  obtain ⟨oT, ts, t1, t2, t3⟩ := x.tb
  have hsz : 3 < ts.size := (Array.getElem?_eq_some_iff.mp t3).1
  unfold setFlight
  refine wpAny_bind (wpAny_field h1 h3 h4 ?_)
  rw [if_pos (show (Value.ref T != Value.none) = true from by simp)]
  refine wpAny_setField t1 t2 hsz (h _ ⟨⟨oe, vs, (Heap.get?_update_ne _ _ _ _ x.ne.symm).trans h1, h2, h3, h4, h5⟩, x.ne, ⟨_, _, Heap.get?_update_self _ t1 (Obj.isFreed_of_fields (Obj.data_mapFields t2 _)), Obj.data_mapFields t2 _, by simp [hsz]⟩⟩ fun b o nb eb => (Heap.get?_update_ne _ _ _ _ nb).trans eb)

theorem note_again {env : Env} {L e T : Addr} {ctx : Value} {Q : Unit → Shared → Prop} (hf : env.frame = some L) (x : Exc s.heap e T (rawInt L) ctx) (h : Q () s) : wpAny M A (noteFrame (.ref e) env) Q E s := by
  obtain ⟨oe, vs, h1, h2, h3, h4, h5⟩ := x.obj
  obtain ⟨oT, ts, t1, t2, t3⟩ := x.tb
  exact wpAny_noteFrame_inFlight hf h1 h3 h4 t1 t2 t3 h

theorem came_back {env : Env} {L e T : Addr} {fl ctx : Value} (hf : env.frame = some L) (x : Exc s.heap e T fl ctx)
    (h : ∀ h', Exc h' e T (rawInt L) ctx → (∀ b o, b ≠ T → s.heap.get? b = some o → h'.get? b = some o) → E (.ref e) { s with heap := h' }) : cameBackBy M A env E (.ref e) s := by
  obtain ⟨oe, vs, h1, h2, h3, h4, h5⟩ := x.obj
  unfold cameBackBy
  refine wpAny_bind (wpAny_field h1 h3 h4 ?_)
  rw [if_neg (by simp), hf]
  exact flight x fun h' x' k => h h' x' k

theorem pass_on {α : Type} {what : String} {env : Env} {L e T : Addr} {fl ctx : Value} {Q : α → Shared → Prop} (hf : env.frame = some L) (x : Exc s.heap e T fl ctx)
    (h : ∀ h', Exc h' e T (rawInt L) ctx → (∀ b o, b ≠ T → s.heap.get? b = some o → h'.get? b = some o) → E (.ref e) { s with heap := h' }) : wpAny M A (PySem.passOn what (.ref e) env : Sem α) Q E s := by
  obtain ⟨oe, vs, h1, h2, h3, h4, h5⟩ := x.obj
  unfold PySem.passOn
  refine wpAny_bind (wpAny_field h1 h3 h4 ?_)
  rw [if_neg (by simp), hf]
  exact wpAny_bind (flight x fun h' x' k => wpAny_throw (h h' x' k))

theorem note_new {env : Env} {outer : List Env} {W : List Addr} {L e : Addr} {ctx : Value} {Q : Unit → Shared → Prop} (fs : Frs A W s.heap (env :: outer)) (hf : env.frame = some L) (x : ExcN s.heap e ctx)
    (h : ∀ h' T, Exc h' e T (rawInt L) ctx → s.heap.get? T = none → (∀ b o, b ∉ Xs (env :: outer) → b ≠ e → s.heap.get? b = some o → h'.get? b = some o) → (∀ b o, b ∈ Xs (env :: outer) → s.heap.get? b = some o → ∃ sl, h'.get? b = some { o with slots := sl }) → Q () { s with heap := h' }) :
    wpAny M A (noteFrame (.ref e) env) Q E s := by
  obtain ⟨oe, vs, he, hcls, hd, h1, h2⟩ := x.obj
  have hl := fs.fun
  have hsz : 1 < vs.size := (Array.getElem?_eq_some_iff.mp h1).1
  have hene : e ∉ Xs (env :: outer) := fun hm => by
    obtain ⟨_, o, ho, hnf⟩ := hl.mem hm
    rw [he] at ho; injection ho with ho; subst ho; exact hnf vs hd
  unfold noteFrame
  simp only [hf]
  refine wpAny_bind (wpAny_field he hd h1 ?_)
  rw [if_neg (by decide)]
  refine wpAny_bind (wpAny_frameOf_fun fs.eq hl hf fun h₁ hs₁ => ?_)
  refine wpAny_bind (wpAny_entryPlaceOf fun pl hpl => ?_)
  unfold EntryCells.newEntry newFields
  refine wpAny_bind (wpAny_newObj_type ?_ (hpl.sizeOk5 _ _ _ _ _))
  have he₁ : h₁.get? e = some oe := (hs₁.2.1 e hene).trans he
  have he₂ := Heap.get?_push_of_some (h := h₁) { cls := .type "traceback", dict := none, data := .fields ([Value.none, .ref L, .none, rawInt L, .none] ++ (if pl.isEmpty then List.replicate 6 Value.none else pl)).toArray } he₁
  refine wpAny_setField he₂ hd hsz ?_
  have hTe : h₁.objs.size ≠ e := Nat.ne_of_gt (Heap.lt_size he₁)
  have hd₃ := Obj.data_mapFields hd (·.setIfInBounds 1 (Value.ref h₁.objs.size))
  have he₃ := Heap.get?_update_self (Obj.mapFields (·.setIfInBounds 1 (Value.ref h₁.objs.size))) he₂ (Obj.isFreed_of_fields hd₃)
  have hT₃ := (Heap.get?_update_other (h₁.push { cls := .type "traceback", dict := none, data := .fields ([Value.none, .ref L, .none, rawInt L, .none] ++ (if pl.isEmpty then List.replicate 6 Value.none else pl)).toArray })
    (Obj.mapFields (·.setIfInBounds 1 (Value.ref h₁.objs.size))) (Ne.symm hTe)).trans (Heap.get?_push_size h₁ rfl)
  have keep : ∀ b o, b ≠ e → h₁.get? b = some o → ((h₁.push { cls := .type "traceback", dict := none, data := .fields ([Value.none, .ref L, .none, rawInt L, .none] ++ (if pl.isEmpty then List.replicate 6 Value.none else pl)).toArray }).update e (Obj.mapFields (·.setIfInBounds 1 (Value.ref h₁.objs.size)))).get? b = some o :=
    fun b o hbe hb => by
      rw [Heap.get?_update_other _ _ (Ne.symm hbe)]
      exact Heap.get?_push_of_some _ hb
  refine h _ h₁.objs.size ⟨⟨_, _, he₃, (Obj.cls_mapFields _ _).trans hcls, hd₃, by simp [hsz], by rw [Array.getElem?_setIfInBounds_ne (by decide)]; exact h2⟩, hTe, ⟨_, _, hT₃, rfl, by simp⟩⟩ ?_ (fun b o nb ne hb => keep b o ne ((hs₁.2.1 b nb).trans hb)) fun b o mb hb => ?_
  · cases q : s.heap.get? h₁.objs.size with
    | none => rfl
    | some o => have := Heap.lt_size q; rw [hs₁.1] at this; exact absurd this (Nat.lt_irrefl _)
  · obtain ⟨sl, e'⟩ := hs₁.2.2 b o hb
    exact ⟨sl, keep b _ (fun q => hene (q ▸ mb)) e'⟩
end
end Mine
end

-- ExcO
section
open PySem PySem.W PyProof.Rows PySem.Calls PySem.SeqAt
set_option maxRecDepth 100000
namespace Mine
theorem entry_unchain : entryFor table "proto.unchain" = some Builtin.«proto.unchain» := entryFor_of_tree (by kernel_rfl)

/-- nothing is being handled, or an exception without a context -/
noncomputable def Hold (A : Around) (h : Heap) : Prop := A.handled = none ∨ ∃ x ox vs, A.handled = some (.ref x) ∧ h.get? x = some ox ∧ ox.data = .fields vs ∧ vs[2]? = some .none

section
variable {prog : Program} {w : World} {A : Around} {E : Value → Shared → Prop} {s : Shared}

theorem unchain_ok {e : Value} {x : Addr} {ox : Obj} {vs : Array Value} {Q : Value → Shared → Prop} (hx : s.heap.get? x = some ox) (hd : ox.data = .fields vs) (h2 : vs[2]? = some .none) (h : Q .none s) :
    wpAny (model prog w) A (runValue (.builtin "proto.unchain" ⟨[e, .ref x, .ref x, .bool false], []⟩)) Q E s := by
  refine wpAny_runValue (codeAny_builtin entry_unchain ?_)
  unfold Builtin.«proto.unchain»
  dsimp only
  refine wpAny_bind (wpAny_field hx hd h2 ?_)
  rw [if_pos (by decide)]
  first | exact wpAny_pure h | exact wpAny_bind (m := ret Value.none) (wpAny_pure (wpAny_pure h)) | exact h

theorem raise_held {α : Type} {e x : Addr} {oe ox : Obj} {vs us : Array Value} {Q : α → Shared → Prop} (hh : A.handled = some (.ref x)) (hx : s.heap.get? x = some ox) (hd : ox.data = .fields vs) (h2 : vs[2]? = some .none)
    (he : s.heap.get? e = some oe) (hed : oe.data = .fields us) (hsz : 2 < us.size) (hne : x ≠ e)
    (h : ∀ h', (∀ b o, b ≠ e → s.heap.get? b = some o → h'.get? b = some o) → h'.get? e = some (oe.mapFields (·.setIfInBounds 2 (.ref x))) → E (.ref e) { s with heap := h' }) : wpAny (model prog w) A (raiseNew (.ref e) : Sem α) Q E s := by
  unfold raiseNew
  refine wpAny_bind (wpAny_handled ?_)
  rw [hh]
  dsimp only
  have : ((Value.ref x != Value.ref e) = true) := by simpa using hne
  rw [if_pos this]
  refine wpAny_bind (wpAny_holding (unchain_ok hx hd h2 (wpAny_bind ?_)))
  unfold updateField
  refine wpAny_bind (wpAny_load he ?_)
  rw [hed]
  dsimp only
  rw [if_pos hsz]
  refine wpAny_update he (wpAny_throw (h _ (fun b o nb eb => (Heap.get?_update_ne _ _ _ _ nb).trans eb) (Heap.get?_update_self _ he (Obj.isFreed_of_fields (Obj.data_mapFields hed _)))))

theorem newExc_ok {cls : String} {args : List Value} {Q : Value → Shared → Prop} (hp : PlainExc cls) (hargs : args.length ≤ sizeLine)
    (h : ∀ h' e t, (∀ b o, s.heap.get? b = some o → h'.get? b = some o) → s.heap.get? e = none → h'.get? e = some { cls := .type cls, data := .fields #[t, .none, .none, .none, .bool false, .none] } → Q (.ref e) { s with heap := h' }) : wpAny (model prog w) A (newExc (.type cls) args) Q E s := by
  refine wpAny_newExc_plain hp (fun h' e hm => ?_) hargs
  obtain ⟨t, h1, _, _⟩ := hm.there
  exact h h' e (.ref t) hm.keeps hm.new h1

/-- an IndexError is made and raised -/
theorem raise_ok {α : Type} {e : Addr} {t : Value} {h₁ : Heap} {tk : Nat} {Q : α → Shared → Prop} (H : Hold A s.heap) (hk : ∀ b o, s.heap.get? b = some o → h₁.get? b = some o) (hn : s.heap.get? e = none) (he : h₁.get? e = some { cls := .type "IndexError", data := .fields #[t, .none, .none, .none, .bool false, .none] })
    (h : ∀ h' ctx, (∀ b o, s.heap.get? b = some o → h'.get? b = some o) → ExcN h' e ctx → (A.handled = none → ctx = .none) → E (.ref e) { s with heap := h', toks := tk }) :
    wpAny (model prog w) A (raiseNew (.ref e) : Sem α) Q E { s with heap := h₁, toks := tk } := by
  rcases H with hh | ⟨x, ox, vs, hh, hx, hd, h2⟩
  · exact wpAny_raiseNew_none hh (h h₁ .none hk ⟨_, _, he, rfl, rfl, rfl, rfl⟩ fun _ => rfl)
  · refine raise_held (s := { s with heap := h₁, toks := tk }) hh (hk _ _ hx) hd h2 he rfl (show 2 < 6 by decide) (fun q => by rw [q, hn] at hx; cases hx) fun h' k' e' => ?_
    refine h h' (.ref x) (fun b o eb => k' b o (fun q => by rw [q, hn] at eb; cases eb) (hk b o eb)) ⟨_, _, e', rfl, rfl, rfl, rfl⟩ fun q => by rw [hh] at q; cases q

theorem raise_words {α : Type} {msg : String} {Q : α → Shared → Prop} (H : Hold A s.heap)
    (h : ∀ h' tk e ctx, (∀ b o, s.heap.get? b = some o → h'.get? b = some o) → s.heap.get? e = none → ExcN h' e ctx → (A.handled = none → ctx = .none) → E (.ref e) { s with heap := h', toks := tk }) : wpAny (model prog w) A (raiseErrorWords "IndexError" msg : Sem α) Q E s := by
  unfold raiseErrorWords
  refine wpAny_bind (wpAny_mkText (wpAny_bind ?_))
  refine newExc_ok plainExc_IndexError (show 1 ≤ sizeLine by decide) fun h' e t k n there => ?_
  exact raise_ok H k n there fun h'' ctx k' x q => h h'' _ e ctx k' n x q

theorem item_out {l : Addr} {items : Array Value} {j : Nat} {t : Tok} {Q : Value → Shared → Prop} (H : Hold A.in1 s.heap) (hl : s.heap.IsList l items) (hout : items.size ≤ j) {k : Int} (hk : k = Int.ofNat j) (hlo : -(2 ^ 63) ≤ k) (hhi : k < 2 ^ 63)
    (hE : ∀ h' tk e ctx, (∀ b o, s.heap.get? b = some o → h'.get? b = some o) → s.heap.get? e = none → ExcN h' e ctx → (A.handled = none → ctx = .none) → E (.ref e) { s with heap := h', toks := tk }) :
    wpAny (model prog w) A (getItem (.ref l) (.int k t)) Q E s := by
  obtain ⟨o, ho, hc, ne, hd⟩ := id hl
  unfold getItem
  try with_reducible refine wpAny_holding ?_
  first | refine wpAny_bind (wpAny_pure ?_) | skip
  refine wpAny_bind (wpAny_sequenceKey hl.typeIs (by decide) ?_)
  refine wpAny_bind (wpAny_callSpecial?_slot (name := Str.ofString "__getitem__") hl.typeIs slot_list_getitem
    (wpAny_call_entry slot_list_getitem hl.typeIs entry_list_getitem ?_ (args_list_getitem _ _)))
  show wpAny _ _ (Builtin.List.listSubscript? (.int k t) >>= _) _ _ s
  refine wpAny_bind (wpAny_listSubscript_int (fitsIndex_both hlo hhi) ?_)
  clear hlo hhi
  subst hk
  have hx : items[j]? = none := Array.getElem?_eq_none hout
  show wpAny _ _ ((seqItemAt l j >>= fun r => pure (r.map (j, ·))) >>= _) _ _ s
  refine wpAny_bind (wpAny_bind (wpAny_seqItemAt ho hd (wpAny_pure ?_)))
  rw [hx]
  first
    | exact wpAny_bind (wpAny_rule (raise_words H hE))
    | exact wpAny_bind (wpAny_rule (wpAny_bind (raise_words H hE)))
    | exact wpAny_bind (wpAny_bind (wpAny_rule (raise_words H hE)))
    | exact wpAny_rule (raise_words H hE)
    | exact wpAny_bind (wpAny_rule (raise_made H (by decide) hE))
    | exact wpAny_bind (wpAny_rule (wpAny_bind (raise_made H (by decide) hE)))
    | exact wpAny_bind (wpAny_bind (wpAny_rule (raise_made H (by decide) hE)))
    | exact wpAny_rule (raise_made H (by decide) hE)
end
end Mine
end

-- SldA
section
open PySem PySem.W PyProof.Rows PySem.Calls PySem.SeqAt MeetsSeq
set_option maxRecDepth 100000
namespace Mine
theorem list_extendW (l : Addr) (items : Array Value) (n : Nat) (b : Addr) (items2 : Array Value) (n2 : Nat) (dd2 : Option Addr) (sl2 : Array (Option Value)) (hc0 : ¬(!items.isEmpty && Builtin.List.listTooLong (items.size + items2.size)) = true) (hc1 : items.size ≤ sizeLine) (hs2 : items.size + items2.size ≤ sizeLine + 1) :
    Meets (Builtin.«list.extend» ⟨[.ref l, .ref b], []⟩) (fun _ R s => s.heap.get? l = some { cls := .type "list", dict := none, data := .seq items n, slots := #[] } ∧ s.heap.get? b = some { cls := .type "list", dict := dd2, data := .seq items2 n2, slots := sl2 } ∧ R (.ok (.ret Value.none)) { s with heap := s.heap.update l (Obj.mapSeq fun x => x ++ items2), toks := s.toks }) :=
  .of_wp fun prog w A R s h => by
    obtain ⟨hp, g, d, tk, os⟩ := s; obtain ⟨hl, hb, h⟩ := h; have f1 := AutoSeq1.idx_int; have f2 := AutoSeq1.sub_tuple_tuple; have f3 := AutoSeq1.sub_list_list; have f4 := AutoSeq1.sub_tuple_list; have f5 := AutoSeq1.sub_list_tuple;
    have hz' : (items ++ items2).size ≤ sizeLine + 1 := by rw [Array.size_append]; exact hs2
    wp_walk using (wpAny_updateSeq hl rfl (hz := hc1) (_hz' := hz')), AutoSeq1.wpAny_loadPart' hl, AutoSeq1.wpAny_loadPart' hb; exact ⟨_, rfl, h⟩

/-- names and constants alone: needs no room -/
noncomputable def ev0 (m : Mp) : Expr → Option D
  | .Constant c _ _ => pconst c
  | .Name x _ => hName m x
  | _ => none
theorem ev0_ok {prog : Program} {w : World} {A : Around} {W : List Addr} {sc : List (Str × NameKind)} {env : Env} {m : Mp} {h₀ : Heap} : ES prog w A W sc env m h₀ (ev0 m) := by
  intro e d h s Q E F T hq
  cases e with
  | Constant c k p => exact ok_const h hq
  | Name x p => exact ok_name h F hq
  | _ => exact no h
theorem ev0_name {m : Mp} {x : Str} {p : Pos} {d : D} (h : m.lookup x = some d) (hx : x ≠ "__debug__" ∧ x ≠ "__classdict__") : ev0 m (.Name x p) = some d := by
  show hName m x = _
  unfold hName; rw [if_pos hx]; exact h

section
variable {prog : Program} {w : World} {A : Around} {h₀ : Heap}
variable {W Y : List Addr} {sc : List (Str × NameKind)} {env : Env} {m : Mp} {s : Shared}

/-- x[i] within -/
theorem get_in {x i : Str} {px pi p : Pos} {ds : List D} {j : Nat} {d : D} {Q E : Value → Shared → Prop} (F : FR W sc env s.heap m) (T : Tp h₀ s.heap) (hx : m.lookup x = some (.lst ds)) (hi : m.lookup i = some (.int j)) (nx : x ≠ "__debug__" ∧ x ≠ "__classdict__") (ni : i ≠ "__debug__" ∧ i ≠ "__classdict__")
    (hb : ds.length ≤ bound) (hd : ds[j]? = some d) (hq : Then W s d Q) : wpAny (model prog w) A (eval (.Subscript (.Name x px) (.Name i pi) p) env) Q E s := by
  have hj : j < ds.length := (List.getElem?_eq_some_iff.mp hd).1
  refine sub_rule (ev0_ok (ev0_name hx nx) F T fun vo s₁ k1 r1 => ev0_ok (ev0_name hi ni) (F.keep (kall k1)) (T.keep (kall k1)) fun vi s₂ k2 r2 => ?_)
  refine idx_ok (d := d) ?_ (r1.mono (KX.of (kall k2))) r2 fun v s₃ k3 r3 => hq v s₃ (ktr k1 (ktr k2 k3)) r3
  show (if ds.length ≤ bound ∧ -(ds.length : Int) ≤ (j : Int) ∧ (j : Int) < ds.length then ds[(if (j : Int) < 0 then (j : Int) + (ds.length : Int) else j).toNat]? else none) = some d
  rw [if_pos ⟨hb, by omega, by omega⟩, if_neg (by omega)]
  simpa using hd

/-- x[i] beyond the end -/
theorem get_out {x i : Str} {px pi p : Pos} {ds : List D} {j : Nat} {Q E : Value → Shared → Prop} (F : FR W sc env s.heap m) (T : Tp h₀ s.heap) (hx : m.lookup x = some (.lst ds)) (hi : m.lookup i = some (.int j)) (nx : x ≠ "__debug__" ∧ x ≠ "__classdict__") (ni : i ≠ "__debug__" ∧ i ≠ "__classdict__")
    (hb : ds.length ≤ bound) (hj : j = ds.length) (H : Hold A s.heap)
    (hE : ∀ h' tk e ctx, (∀ b o, s.heap.get? b = some o → h'.get? b = some o) → s.heap.get? e = none → ExcN h' e ctx → (A.handled = none → ctx = .none) → E (.ref e) { s with heap := h', toks := tk }) : wpAny (model prog w) A (eval (.Subscript (.Name x px) (.Name i pi) p) env) Q E s := by
  refine sub_rule (ev0_ok (ev0_name hx nx) F T fun vo s₁ k1 r1 => ev0_ok (ev0_name hi ni) (F.keep (kall k1)) (T.keep (kall k1)) fun vi s₂ k2 r2 => ?_)
  have r1' : Rep W s₂.heap (.lst ds) vo := r1.mono (KX.of (kall k2))
  simp only [Rep] at r1' r2
  obtain ⟨l, its, rfl, _, hl, hrs⟩ := r1'
  obtain ⟨t, rfl⟩ := r2
  have len := hrs.length
  rw [Array.length_toList] at len
  have hb2 : bound < 2 ^ 62 := by decide
  have k12 := ktr k1 k2
  obtain ⟨h₂, tk₂, rfl, hk₂⟩ := k12
  refine ⟨"list", _, gi_list, hl.typeIs, item_out (j := j) ?_ hl (by omega) (by simp) (by omega) (by omega) fun h' tk e ctx k n x q => ?_⟩
  · rcases H with hh | ⟨x, ox, vs, hh, hx, r⟩
    · exact .inl hh
    · exact .inr ⟨x, ox, vs, hh, hk₂ _ _ hx, r⟩
  · refine hE h' tk e ctx (fun b o eb => k b o (hk₂ b o eb)) ?_ x q
    cases eb : s.heap.get? e with
    | none => rfl
    | some o => have := hk₂ e o eb; rw [n] at this; cases this

/-- x += 1 -/
theorem inc_ok {x : Str} {px p pc : Pos} {kd : Nat} {n : Int} {Q : Flow → Shared → Prop} {E : Value → Shared → Prop} (O : Own h₀ Y W env) (F : FR W sc env s.heap m) (hx : m.lookup x = some (.int n)) (nx : (x == ("__classdict__" : Str)) = false) (hst : storable sc x = true)
    (hq : ∀ h' tk, FR W sc env h' ((x, .int (n + 1)) :: m) → KX Y s.heap h' → Q .next { s with heap := h', toks := tk }) : wpAny (model prog w) A (exec (.AugAssign (.Name x px) .Add (.Constant (.int 1) kd pc) p) env) Q E s := by
  refine wpAny_AugAssign_Name (FR.load F hx nx fun v r => ?_)
  simp only [Rep] at r
  obtain ⟨t, rfl⟩ := r
  refine wpAny_Constant_int (PySem.wpAny_iadd_int ?_)
  exact FR.store (s := { s with toks := s.toks + 1 + 1 }) F (storable_or hst) (d := .int (n + 1)) rep_int fun h' tk F' kx hb => hq h' tk F' (own_store (O := O) hb)
end
end Mine
end

-- SldB
section
open PySem PySem.W PyProof.Rows PySem.Calls PySem.SeqAt
set_option maxRecDepth 100000
namespace Mine
/-- a kind of items that the machine compares as lt and == tell -/
structure OrdK {α : Type} [BEq α] (f : α → D) (lt : α → α → Bool) : Prop where
  lt' : ∀ {prog : Program} {w : World} {A : Around} {s : Shared} {W : List Addr} {E Q : Value → Shared → Prop} {x y : α} {vx vy : Value}, Rep W s.heap (f x) vx → Rep W s.heap (f y) vy → Q (.bool (lt x y)) s → wpAny (model prog w) A (compareOp .Lt vx vy) Q E s
  gt' : ∀ {prog : Program} {w : World} {A : Around} {s : Shared} {W : List Addr} {E Q : Value → Shared → Prop} {x y : α} {vx vy : Value}, Rep W s.heap (f x) vx → Rep W s.heap (f y) vy → Q (.bool (lt y x)) s → wpAny (model prog w) A (compareOp .Gt vx vy) Q E s
  eq' : ∀ {prog : Program} {w : World} {A : Around} {s : Shared} {W : List Addr} {E Q : Value → Shared → Prop} {x y : α} {vx vy : Value}, Rep W s.heap (f x) vx → Rep W s.heap (f y) vy → Q (.bool (x == y)) s → wpAny (model prog w) A (compareOp .Eq vx vy) Q E s
noncomputable def ltS (x y : Str) : Bool := decide (x.cps.toList < y.cps.toList)
noncomputable def ltZ (x y : Int) : Bool := decide (x < y)
theorem ordS : OrdK D.str ltS where
  lt' := fun hx hy h => by simp only [Rep] at hx hy; obtain ⟨_, rfl⟩ := hx; obtain ⟨_, rfl⟩ := hy; exact PyProof.Rows.lt_str h
  gt' := fun hx hy h => by simp only [Rep] at hx hy; obtain ⟨_, rfl⟩ := hx; obtain ⟨_, rfl⟩ := hy; exact PySem.P.gt_str h
  eq' := fun hx hy h => by simp only [Rep] at hx hy; obtain ⟨_, rfl⟩ := hx; obtain ⟨_, rfl⟩ := hy; exact PyProof.Rows.eq_str h
theorem ordZ : OrdK D.int ltZ where
  lt' := fun hx hy h => by simp only [Rep] at hx hy; obtain ⟨_, rfl⟩ := hx; obtain ⟨_, rfl⟩ := hy; exact PyProof.Rows.lt_int h
  gt' := fun hx hy h => by simp only [Rep] at hx hy; obtain ⟨_, rfl⟩ := hx; obtain ⟨_, rfl⟩ := hy; exact PyProof.Rows.gt_int h
  eq' := fun hx hy h => by simp only [Rep] at hx hy; obtain ⟨_, rfl⟩ := hx; obtain ⟨_, rfl⟩ := hy; exact PyProof.Rows.eq_int h

section
variable {prog : Program} {w : World} {A : Around} {h₀ : Heap}
variable {W Y : List Addr} {sc : List (Str × NameKind)} {env : Env} {m : Mp} {s : Shared}
variable {α : Type} [BEq α] {f : α → D} {lt : α → α → Bool}

theorem while_in (K : OrdK f lt) {x i e : Str} {px pi pe p pc pos : Pos} {xs : List α} {j : Nat} {u v : α} {body : List Stmt} {Q : Flow → Shared → Prop} {E : Value → Shared → Prop} (F : FR W sc env s.heap m) (T : Tp h₀ s.heap) (hx : m.lookup x = some (.lst (xs.map f))) (hi : m.lookup i = some (.int j)) (he : m.lookup e = some (f v))
    (nx : x ≠ "__debug__" ∧ x ≠ "__classdict__") (ni : i ≠ "__debug__" ∧ i ≠ "__classdict__") (ne : e ≠ "__debug__" ∧ e ≠ "__classdict__") (hb : xs.length ≤ bound) (hd : xs[j]? = some u) (huv : (u == v) = false) (hq : ∀ s', Keeps s s' → Q .next s') :
    wpAny (model prog w) A (exec (.While (.Compare (.Subscript (.Name x px) (.Name i pi) p) [.Eq] [.Name e pe] pc) body [] pos) env) Q E s := by
  refine wpAny_While (codeAny_whileLoop (fun _ s' => s' = s) (fun n s' hI => ?_) 0 rfl)
  subst hI
  refine wpAny_isTrue_Compare1 (get_in (h₀ := h₀) F T hx hi nx ni (by simpa using hb) (d := f u) (by rw [List.getElem?_map, hd]; rfl) fun v1 s₁ k1 r1 => ev0_ok (h₀ := h₀) (ev0_name he ne) (F.keep (kall k1)) (T.keep (kall k1)) fun v2 s₂ k2 r2 => ?_) rfl
  refine K.eq' (r1.mono (KX.of (kall k2))) r2 (wpAny_truthy_bool ?_)
  rw [huv]
  simp only [Bool.false_eq_true, if_false]
  exact wpAny_execs_nil (hq _ (ktr k1 k2))

/-- the exception that an index beyond the end brings, once it has been noted in this frame -/
noncomputable def Flown (A : Around) (fr : List Env) (L : Addr) (s : Shared) (E : Value → Shared → Prop) : Prop :=
  ∀ h' tk ex T ctx, Exc h' ex T (rawInt L) ctx → s.heap.get? ex = none → s.heap.get? T = none → KS (Xs fr) s.heap h' → (A.handled = none → ctx = .none) → E (.ref ex) { s with heap := h', toks := tk }

theorem noted_out {fr : List Env} {L : Addr} {ex : Addr} {ctx : Value} {h₁ : Heap} {tk : Nat} {E' : Value → Shared → Prop} {Q : Unit → Shared → Prop} (fs : Frs A W s.heap (env :: fr)) (hf : env.frame = some L) (hk : ∀ b o, s.heap.get? b = some o → h₁.get? b = some o) (hn : s.heap.get? ex = none) (x : ExcN h₁ ex ctx)
    (h : ∀ h' T, Exc h' ex T (rawInt L) ctx → s.heap.get? T = none → KS (Xs (env :: fr)) s.heap h' → Q () { s with heap := h', toks := tk }) :
    wpAny (model prog w) A (noteFrame (.ref ex) env) Q E' { s with heap := h₁, toks := tk } := by
  have fs₁ : Frs A W h₁ (env :: fr) := fs.keep (fun _ q => q) fun b o _ e => ⟨o, hk b o e, rfl⟩
  refine note_new (s := { s with heap := h₁, toks := tk }) fs₁ hf x fun h' T xc hT k1 k2 => h h' T xc ?_ ⟨fun b o nb e => k1 b o nb (fun q => by rw [q, hn] at e; cases e) (hk b o e), fun b o mb e => k2 b o mb (hk b o e)⟩
  cases q : s.heap.get? T with
  | none => rfl
  | some o => have := hk T o q; rw [show h₁.get? T = none from hT] at this; cases this

omit [BEq α] in
theorem while_out {x i e : Str} {px pi pe p pc pos : Pos} {xs : List α} {j : Nat} {body : List Stmt} {fr : List Env} {L : Addr} {Q : Flow → Shared → Prop} {E : Value → Shared → Prop} (F : FR W sc env s.heap m) (T : Tp h₀ s.heap) (fs : Frs A W s.heap (env :: fr)) (hf : env.frame = some L) (H : Hold A s.heap)
    (hx : m.lookup x = some (.lst (xs.map f))) (hi : m.lookup i = some (.int j)) (nx : x ≠ "__debug__" ∧ x ≠ "__classdict__") (ni : i ≠ "__debug__" ∧ i ≠ "__classdict__") (hb : xs.length ≤ bound) (hj : j = xs.length) (hE : Flown A (env :: fr) L s E) :
    wpAny (model prog w) A (exec (.While (.Compare (.Subscript (.Name x px) (.Name i pi) p) [.Eq] [.Name e pe] pc) body [] pos) env) Q E s := by
  refine wpAny_While (codeAny_whileLoop (fun _ s' => s' = s) (fun n s' hI => ?_) 0 rfl)
  subst hI
  refine wpAny_isTrue_Compare1 (get_out (h₀ := h₀) F T hx hi nx ni (by simpa using hb) (by simpa using hj) H fun h₁ tk ex ctx k n x q => ?_) rfl
  refine noted_out fs hf k n x fun h' T xc hT ks => ?_
  refine came_back (s := { s' with heap := h', toks := tk }) hf xc fun h'' xc' k' => ?_
  refine hE h'' tk ex T ctx xc' n hT ⟨fun b o nb e => k' b o (fun q => by rw [q, hT] at e; cases e) (ks.out b o nb e), fun b o mb e => ?_⟩ q
  obtain ⟨sl, e'⟩ := ks.ins b o mb e
  exact ⟨sl, k' b _ (fun q => by rw [q, hT] at e; cases e) e'⟩
end
end Mine
end

-- SldC
section
open PySem PySem.W PyProof.Rows PySem.Calls PySem.SeqAt
set_option maxRecDepth 100000
namespace Mine
theorem boot_IndexError : bootBuiltins "IndexError" = some (.type "IndexError") := by decide +kernel
theorem ix_exc : isSubtype (.type "IndexError") (.type "BaseException") = pure true := by rw [isSubtype_type]; kernel_rfl
theorem ix_nt : isSubtype (.type ((Manifest.find? "IndexError").elim "type" fun x => x.metatype)) (.type "tuple") = pure false := by
  rw [show ((Manifest.find? "IndexError").elim "type" fun x => x.metatype) = "type" by decide +kernel, isSubtype_type]; kernel_rfl
theorem ix_sub : isSubtype (.type "IndexError") (.type "IndexError") = pure true := by rw [isSubtype_type]; kernel_rfl

theorem pick_from (ds : List D) (i : Nat) : ppick ds (some (i : Int)) none none = ds.drop i := by
  unfold ppick
  rw [sliceBounds_plain]
  simp only [Option.elim, clipAt_nat, sliceRange_one]
  have h := pick_run ds.toArray (min i ds.length) (ds.length - min i ds.length)
  simp only [List.getElem?_toArray] at h
  rw [h]
  rw [List.take_of_length_le (by simp)]
  by_cases q : i ≤ ds.length
  · rw [Nat.min_eq_left q]
  · rw [Nat.min_eq_right (by omega), List.drop_of_length_le (Nat.le_refl _), List.drop_of_length_le (by omega)]

section
variable {prog : Program} {w : World} {A : Around} {h₀ : Heap}
variable {W Y : List Addr} {sc : List (Str × NameKind)} {env : Env} {m : Mp} {s : Shared}

/-- an IndexError that is on its way comes to its clause -/
theorem caught {t : Expr} {p pos : Pos} {b₀ : Stmt} {suite : List Stmt} {rest : List ExceptHandler} {ex T : Addr} {fl ctx : Value} {Q : Flow → Shared → Prop} {E : Value → Shared → Prop} (B : Base w.params h₀) (Tp0 : Tp h₀ s.heap) (hTt : h₀.get? T = none) (hf : sc.lookup ("IndexError" : Str) = some .globalImplicit) (x : Exc s.heap ex T fl ctx) (ht : t = .Name "IndexError" p)
    (fresh : ∀ h', KX [T] s.heap h' → (∃ o, h'.get? T = some o) → FR W sc env h' m)
    (h : ∀ h', KX [T] s.heap h' → (∃ o, h'.get? T = some o) → wpAny (model prog w) (A.mark (some (.ref ex))) (execs (b₀ :: suite) env) Q (notedBy (model prog w) (A.mark (some (.ref ex))) env (cameBackBy (model prog w) A env E)) { s with heap := h' }) :
    wpAny (model prog w) A (setFlight (.ref ex) none) (fun _ s₃ => wpAny (model prog w) A (handleBy (.ref ex) env (.ExceptHandler (some t) none (b₀ :: suite) pos :: rest)) Q E s₃) E s := by
  subst ht
  refine flight (f := none) x fun h₁ x₁ k₁ => ?_
  have kx₁ : KX [T] s.heap h₁ := fun b o nb e => k₁ b o (by simpa using nb) e
  have F₁ := fresh h₁ kx₁ (let ⟨oT, _, e, _⟩ := x₁.tb; ⟨oT, e⟩)
  have T₁ : Tp h₀ h₁ := Tp0.kx kx₁ (by simpa using hTt)
  refine wpAny_handleBy_builtin (X := "IndexError") (T := "IndexError") (b := true) ix_exc ix_nt ix_sub (glob_blt (s := { s with heap := h₁ }) B F₁ T₁ hf (by decide) (by decide) (by kernel_rfl) boot_IndexError ⟨rfl, ?_, ?_⟩)
  · obtain ⟨oe, vs, a1, a2, _⟩ := x₁.obj
    exact ⟨oe, a1, a2⟩
  · rw [if_pos rfl]
    refine flight (s := { s with heap := h₁ }) (f := none) x₁ fun h₂ x₂ k₂ => h h₂ (kx₁.trans fun b o nb e => k₂ b o (by simpa using nb) e) ?_
    obtain ⟨oT, _, e, _⟩ := x₂.tb
    exact ⟨oT, e⟩

/-- x.extend(y[i:]) -/
theorem own_extend {x y i : Str} {px py pi ap ps psl p pos : Pos} {ds es : List D} {j : Nat} {g : Addr} {Q : Flow → Shared → Prop} {E : Value → Shared → Prop} (O : Own h₀ Y W env) (F : FR W sc env s.heap m) (T : Tp h₀ s.heap) (hx : m.lookup x = some (.raw (.ref g))) (hy : m.lookup y = some (.lst es)) (hi : m.lookup i = some (.int j)) (nx : x ≠ "__debug__" ∧ x ≠ "__classdict__") (ny : y ≠ "__debug__" ∧ y ≠ "__classdict__") (ni : i ≠ "__debug__" ∧ i ≠ "__classdict__")
    (o : OwnL W s.heap g ds) (hg : g ∉ Y) (hsz : ds.length + es.length ≤ bound) (hp : (ap.endLine == p.line) = true)
    (hq : ∀ h' tk, FR W sc env h' m → OwnL W h' g (ds ++ es.drop j) → KX [g] s.heap h' → Q .next { s with heap := h', toks := tk }) :
    wpAny (model prog w) A (exec (.Expr (.Call (.Attribute (.Name x px) "extend" ap) [.Subscript (.Name y py) (.Slice (some (.Name i pi)) none none psl) ps] [] p) pos) env) Q E s := by
  refine wpAny_Expr ?_ (by unfold interactive; rw [F.kind]; rfl)
  refine meth_rule rfl rfl (by simp) hp (wpAny_Name (FR.load F hx (by simpa using nx.2) fun v r pl => ?_) (by simpa using nx.1))
  simp only [Rep] at r
  subst r
  obtain ⟨ys, hys, hrs⟩ := o.lst
  obtain ⟨n, hn⟩ := id hys
  refine getMethod_list_of PySem.F.slot_list_extend PySem.F.type_list_extend hys.isList ⟨_, hn, rfl⟩ ?_
  refine seqMethod1_meets (x := eval (.Subscript (.Name y py) (.Slice (some (.Name i pi)) none none psl) ps) env) PySem.F.slot_list_extend PySem.F.entry_list_extend ?_
  have hb : es.length ≤ bound := by omega
  refine slice_ok (h₀ := h₀) ev0_ok (a := .lst es) (d := .lst (es.drop j)) (ev0_name hy ny) ?_ F T fun v s₁ k1 r1 => ?_
  · rw [pslice_eq (l := some (j : Int)) (h := none) (s := none) hb (by show ((ev0 m (.Name i pi)).bind D.gI).bind (fun i => some (some i)) = _; rw [ev0_name hi ni]; rfl) rfl rfl (by decide), pick_from]
  simp only [Rep] at r1
  obtain ⟨b, its, rfl, hbW, hl, hr2⟩ := r1
  obtain ⟨h₁, tk₁, rfl, hk₁⟩ := k1
  dsimp only at hl hr2 hk₁ ⊢
  obtain ⟨⟨c2, d2, dt2, sl2⟩, ho2, hc2, n2, hd2⟩ := hl
  dsimp only at hc2 hd2
  subst hc2 hd2
  have l1 := hrs.length
  have l2 := hr2.length
  rw [Array.length_toList] at l1 l2
  rw [List.length_drop] at l2
  have hbl := bound_le
  have hgl : h₁.get? g = some { cls := .type "list", data := .seq ys n } := hk₁ _ _ hn
  refine ⟨⟨_, hgl, rfl⟩, PySem.F.args_list_extend_2 _ _, _, list_extendW g ys n b its n2 d2 sl2 ?_ (by omega) (by omega), hgl, ho2, ?_⟩
  · simp only [Builtin.List.listTooLong, Bool.and_eq_true, decide_eq_true_eq, not_and]
    intro _; omega
  have hgb : g ≠ b := fun q => hbW (q ▸ o.mem)
  show Q .next _
  have hu := IsL.update (h := h₁) (l := g) (items := ys) (n := n) hgl (fun x => x ++ its)
  have k₂ : KX [g] h₁ (h₁.update g (Obj.mapSeq fun x => x ++ its)) := fun z oz nz ez => (Heap.get?_update_ne _ _ _ _ (by simpa using nz)).trans ez
  have gW : ∀ z ∈ [g], z ∈ W := by simpa using o.mem
  refine hq _ tk₁ ((F.keep hk₁).but (X := [g]) k₂ gW (fun q => hg (by simp at q; exact q ▸ O.loc)) (fun y c hc q => hg (by simp at q; exact q ▸ O.cin y c hc)) (fun z hz => by simp at hz; subst hz; exact ⟨_, hu⟩)) ⟨o.mem, ys ++ its, ⟨_, hu⟩, ?_⟩ ((KX.of hk₁).trans k₂)
  rw [Array.toList_append]
  exact ((hrs.mono (KX.of hk₁)).mono (k₂.mono gW)).append (hr2.mono (k₂.mono gW))
end
end Mine
end

-- SldD
section
open PySem PySem.W PyProof.Rows PySem.Calls PySem.SeqAt
set_option maxRecDepth 100000
namespace Mine
/-- all stays but Z; the frames X up to their slots -/
structure KT (X Z : List Addr) (h h' : Heap) : Prop where
  out : ∀ b o, b ∉ Z → b ∉ X → h.get? b = some o → h'.get? b = some o
  ins : ∀ b o, b ∉ Z → b ∈ X → h.get? b = some o → ∃ sl, h'.get? b = some { o with slots := sl }
theorem KT.refl (X Z : List Addr) (h : Heap) : KT X Z h h := ⟨fun _ _ _ _ e => e, fun _ o _ _ e => ⟨o.slots, e⟩⟩
theorem KT.trans {X Z : List Addr} {h h' h'' : Heap} (a : KT X Z h h') (b : KT X Z h' h'') : KT X Z h h'' :=
  ⟨fun x o n1 n2 e => b.out x o n1 n2 (a.out x o n1 n2 e), fun x o n1 n2 e => let ⟨_, e1⟩ := a.ins x o n1 n2 e; let ⟨sl, e2⟩ := b.ins x _ n1 n2 e1; ⟨sl, e2⟩⟩
theorem KT.kx {X Z Z' : List Addr} {h h' : Heap} (a : KX Z' h h') (hz : ∀ b ∈ Z', b ∈ Z) : KT X Z h h' := ⟨fun b o n _ e => a b o (fun q => n (hz b q)) e, fun b o n _ e => ⟨o.slots, a b o (fun q => n (hz b q)) e⟩⟩
theorem KT.ks {X Z : List Addr} {h h' : Heap} (a : KS X h h') : KT X Z h h' := ⟨fun b o _ n e => a.out b o n e, fun b o _ n e => a.ins b o n e⟩
theorem KS.skip {X : List Addr} {T : Addr} {h h₁ h₂ : Heap} (a : KS X h h₁) (b : KX [T] h₁ h₂) (hT : h.get? T = none) : KS X h h₂ :=
  ⟨fun x o n e => b x o (fun q => by simp at q; rw [q, hT] at e; cases e) (a.out x o n e), fun x o n e => let ⟨sl, e1⟩ := a.ins x o n e; ⟨sl, b x _ (fun q => by simp at q; rw [q, hT] at e; cases e) e1⟩⟩

/-- the outer frames -/
noncomputable def FO (W Z : List Addr) (h : Heap) (fr : List Env) : Prop := ∀ env ∈ fr, env.scope.kind ≠ .module ∧ ∃ L o, env.frame = some L ∧ L ∈ W ∧ L ∉ Z ∧ h.get? L = some o ∧ ∀ vs, o.data ≠ .fields vs
theorem FO.kt {W Z X : List Addr} {h h' : Heap} {fr : List Env} (f : FO W Z h fr) (k : KT X Z h h') : FO W Z h' fr := fun env he => by
  obtain ⟨h0, L, o, h1, h2, h3, h4, h5⟩ := f env he
  by_cases q : L ∈ X
  · obtain ⟨sl, e⟩ := k.ins L o h3 q h4
    exact ⟨h0, L, _, h1, h2, h3, e, h5⟩
  · exact ⟨h0, L, o, h1, h2, h3, k.out L o h3 q h4, h5⟩
theorem FO.sub {W Z : List Addr} {h : Heap} {fr : List Env} (f : FO W Z h fr) : ∀ b ∈ Xs fr, b ∈ W ∧ b ∉ Z := fun b hb => by
  obtain ⟨env, he, hf⟩ := List.mem_filterMap.mp hb
  obtain ⟨_, L, o, h1, h2, h3, _⟩ := f env he
  rw [h1] at hf; cases hf; exact ⟨h2, h3⟩
theorem FO.frs {A : Around} {W Z : List Addr} {h : Heap} {fr : List Env} {sc : List (Str × NameKind)} {env : Env} {m : Mp} (f : FO W Z h fr) (F : FR W sc env h m) (hf : env.frame = some env.locals) (hA : A.frames = some (env :: fr)) : Frs A W h (env :: fr) := by
  refine ⟨hA, fun e he => ?_⟩
  rcases List.mem_cons.mp he with rfl | he
  · obtain ⟨μ, ⟨o, es, ep, e1, hd, _⟩, _⟩ := F.ns
    exact ⟨by rw [F.kind]; decide, _, o, hf, F.loc, e1, fun vs q => by rw [hd] at q; cases q⟩
  · obtain ⟨h0, L, o, h1, h2, h3, h4, h5⟩ := f e he
    exact ⟨h0, L, o, h1, h2, h4, h5⟩

section
variable {α : Type}
/-- the difference of two rising lists -/
noncomputable def dif (lt : α → α → Bool) : List α → List α → List α × List α
  | [], ys => ([], ys)
  | x :: xs, [] => (x :: xs, [])
  | x :: xs, y :: ys => if lt x y then (x :: (dif lt xs (y :: ys)).1, (dif lt xs (y :: ys)).2) else if lt y x then ((dif lt (x :: xs) ys).1, y :: (dif lt (x :: xs) ys).2) else dif lt xs ys
termination_by xs ys => xs.length + ys.length
theorem dif_end {lt : α → α → Bool} {xs ys : List α} (h : xs = [] ∨ ys = []) : dif lt xs ys = (xs, ys) := by
  rcases h with rfl | rfl
  · cases ys <;> simp [dif]
  · cases xs <;> simp [dif]
end

/-- the loop's state -/
structure SL {α : Type} (f : α → D) (W : List Addr) (sc : List (Str × NameKind)) (env : Env) (h : Heap) (m : Mp) (xs ys : List α) (i j : Nat) (g1 g2 : Addr) (mi un : List α) : Prop where
  F : FR W sc env h m
  ex : m.lookup ("expected" : Str) = some (.lst (xs.map f))
  ac : m.lookup ("actual" : Str) = some (.lst (ys.map f))
  ci : m.lookup ("i" : Str) = some (.int i)
  cj : m.lookup ("j" : Str) = some (.int j)
  ms : m.lookup ("missing" : Str) = some (.raw (.ref g1))
  us : m.lookup ("unexpected" : Str) = some (.raw (.ref g2))
  o1 : OwnL W h g1 (mi.map f)
  o2 : OwnL W h g2 (un.map f)
section
variable {α : Type} {f : α → D} {W X Y : List Addr} {sc : List (Str × NameKind)} {env : Env} {h h' : Heap} {m : Mp} {xs ys : List α} {i j : Nat} {g1 g2 : Addr} {mi un : List α}
theorem SL.ks (S : SL f W sc env h m xs ys i j g1 g2 mi un) (k : KS X h h') (hX : ∀ b ∈ X, b ∈ W) (n1 : g1 ∉ X) (n2 : g2 ∉ X) : SL f W sc env h' m xs ys i j g1 g2 mi un :=
  ⟨S.F.ks k hX, S.ex, S.ac, S.ci, S.cj, S.ms, S.us, S.o1.mono k.kx hX n1, S.o2.mono k.kx hX n2⟩
theorem SL.keep (S : SL f W sc env h m xs ys i j g1 g2 mi un) (k : ∀ b o, h.get? b = some o → h'.get? b = some o) : SL f W sc env h' m xs ys i j g1 g2 mi un :=
  ⟨S.F.keep k, S.ex, S.ac, S.ci, S.cj, S.ms, S.us, S.o1.mono (X := []) (KX.of k) (by simp) (by simp), S.o2.mono (X := []) (KX.of k) (by simp) (by simp)⟩
/-- a name other than the six is stored -/
theorem SL.set (S : SL f W sc env h m xs ys i j g1 g2 mi un) {x : Str} {d : D} (F' : FR W sc env h' ((x, d) :: m)) (ky : KX Y h h') (hY : ∀ b ∈ Y, b ∈ W) (n1 : g1 ∉ Y) (n2 : g2 ∉ Y) (hx : x ≠ "expected" ∧ x ≠ "actual" ∧ x ≠ "i" ∧ x ≠ "j" ∧ x ≠ "missing" ∧ x ≠ "unexpected") : SL f W sc env h' ((x, d) :: m) xs ys i j g1 g2 mi un := by
  obtain ⟨a, b, c, d', e, f'⟩ := hx
  exact ⟨F', by rw [lookup_cons_ne (Ne.symm a)]; exact S.ex, by rw [lookup_cons_ne (Ne.symm b)]; exact S.ac, by rw [lookup_cons_ne (Ne.symm c)]; exact S.ci, by rw [lookup_cons_ne (Ne.symm d')]; exact S.cj, by rw [lookup_cons_ne (Ne.symm e)]; exact S.ms, by rw [lookup_cons_ne (Ne.symm f')]; exact S.us, S.o1.mono ky hY n1, S.o2.mono ky hY n2⟩
theorem SL.seti (S : SL f W sc env h m xs ys i j g1 g2 mi un) {k : Nat} (F' : FR W sc env h' (("i", .int k) :: m)) (ky : KX Y h h') (hY : ∀ b ∈ Y, b ∈ W) (n1 : g1 ∉ Y) (n2 : g2 ∉ Y) : SL f W sc env h' (("i", .int k) :: m) xs ys k j g1 g2 mi un :=
  ⟨F', by rw [lookup_cons_ne (by decide)]; exact S.ex, by rw [lookup_cons_ne (by decide)]; exact S.ac, lookup_cons_self, by rw [lookup_cons_ne (by decide)]; exact S.cj, by rw [lookup_cons_ne (by decide)]; exact S.ms, by rw [lookup_cons_ne (by decide)]; exact S.us, S.o1.mono ky hY n1, S.o2.mono ky hY n2⟩
theorem SL.setj (S : SL f W sc env h m xs ys i j g1 g2 mi un) {k : Nat} (F' : FR W sc env h' (("j", .int k) :: m)) (ky : KX Y h h') (hY : ∀ b ∈ Y, b ∈ W) (n1 : g1 ∉ Y) (n2 : g2 ∉ Y) : SL f W sc env h' (("j", .int k) :: m) xs ys i k g1 g2 mi un :=
  ⟨F', by rw [lookup_cons_ne (by decide)]; exact S.ex, by rw [lookup_cons_ne (by decide)]; exact S.ac, by rw [lookup_cons_ne (by decide)]; exact S.ci, lookup_cons_self, by rw [lookup_cons_ne (by decide)]; exact S.ms, by rw [lookup_cons_ne (by decide)]; exact S.us, S.o1.mono ky hY n1, S.o2.mono ky hY n2⟩
end
end Mine
end

-- SldE
section
open PySem PySem.W PyProof.Rows PySem.Calls PySem.SeqAt
set_option maxRecDepth 100000
namespace Mine
/-- what stands fast through a call of sorted_list_difference -/
structure Cx (w : World) (h₀ : Heap) (A : Around) (sc : List (Str × NameKind)) (env : Env) (W Y : List Addr) (fr : List Env) (g1 g2 : Addr) : Prop where
  B : Base w.params h₀
  O : Own h₀ Y W env
  hf : env.frame = some env.locals
  hA : A.frames = some (env :: fr)
  hh : A.handled = none
  n1 : g1 ∉ Y
  n2 : g2 ∉ Y
  n12 : g1 ≠ g2
  w1 : g1 ∈ W
  w2 : g2 ∈ W
  x1 : g1 ∉ Xs (env :: fr)
  x2 : g2 ∉ Xs (env :: fr)
  z1 : h₀.get? g1 = none
  z2 : h₀.get? g2 = none
  xw : ∀ b ∈ Xs (env :: fr), b ∈ W
  xz : ∀ b ∈ Xs (env :: fr), h₀.get? b = none
  ix : sc.lookup ("IndexError" : Str) = some .globalImplicit
  si : storable sc "i" = true
  sj : storable sc "j" = true
  se : storable sc "e" = true
  sa : storable sc "a" = true
noncomputable abbrev Zs (Y : List Addr) (g1 g2 : Addr) : List Addr := Y ++ [g1, g2]
section
variable {prog : Program} {w : World} {h₀ : Heap} {A : Around} {sc : List (Str × NameKind)} {env : Env} {W Y : List Addr} {fr : List Env} {g1 g2 : Addr}
theorem Cx.tp (C : Cx w h₀ A sc env W Y fr g1 g2) {h h' : Heap} (T : Tp h₀ h) (k : KT (Xs (env :: fr)) (Zs Y g1 g2) h h') : Tp h₀ h' := by
  refine T.kx (Y := Zs Y g1 g2 ++ Xs (env :: fr)) (fun b o nb e => k.out b o (fun q => nb (List.mem_append_left _ q)) (fun q => nb (List.mem_append_right _ q)) e) fun b hb => ?_
  rcases List.mem_append.mp hb with hb | hb
  · rcases List.mem_append.mp hb with hb | hb
    · exact C.O.new b hb
    · simp at hb; rcases hb with rfl | rfl
      · exact C.z1
      · exact C.z2
  · exact C.xz b hb

variable {α : Type} {f : α → D} {lt : α → α → Bool} {xs ys M U : List α}
/-- what a turn leaves -/
noncomputable def Done (f : α → D) (lt : α → α → Bool) (xs ys M U : List α) (W : List Addr) (Y : List Addr) (sc : List (Str × NameKind)) (env : Env) (fr : List Env) (g1 g2 : Addr) (n : Nat) (s : Shared) (fl : Flow) (s' : Shared) : Prop :=
  ∃ h' tk, s' = { s with heap := h', toks := tk } ∧ KT (Xs (env :: fr)) (Zs Y g1 g2) s.heap h' ∧ match fl with
    | .next => ∃ m' i j mi un, SL f W sc env h' m' xs ys i j g1 g2 mi un ∧ i ≤ xs.length ∧ j ≤ ys.length ∧ (xs.length - i) + (ys.length - j) < n ∧ mi ++ (dif lt (xs.drop i) (ys.drop j)).1 = M ∧ un ++ (dif lt (xs.drop i) (ys.drop j)).2 = U
    | .brk => ∃ m', FR W sc env h' m' ∧ m'.lookup ("missing" : Str) = some (.raw (.ref g1)) ∧ m'.lookup ("unexpected" : Str) = some (.raw (.ref g2)) ∧ OwnL W h' g1 (M.map f) ∧ OwnL W h' g2 (U.map f)
    | _ => False

theorem hand_ok (C : Cx w h₀ A sc env W Y fr g1 g2) {m : Mp} {i j : Nat} {mi un : List α} {s : Shared} {h₁ : Heap} {tk : Nat} {ex T : Addr} {fl ctx : Value} {Q : Flow → Shared → Prop} {E : Value → Shared → Prop} {pn ph pb p1 p2 p3 p4 p5 p6 p7 p8 q1 q2 q3 q4 q5 q6 q7 q8 : Pos} (n : Nat)
    (SLf : ∀ h', KX [T] h₁ h' → (∃ o, h'.get? T = some o) → SL f W sc env h' m xs ys i j g1 g2 mi un) (ktf : ∀ h', KX [T] h₁ h' → KT (Xs (env :: fr)) (Zs Y g1 g2) s.heap h') (T₀ : Tp h₀ s.heap) (x : Exc h₁ ex T fl ctx) (hTt : h₀.get? T = none)
    (hM : mi ++ xs.drop i = M) (hU : un ++ ys.drop j = U) (b1 : mi.length + xs.length ≤ bound) (b2 : un.length + ys.length ≤ bound) (hp1 : (p4.endLine == p7.line) = true) (hp2 : (q4.endLine == q7.line) = true)
    (hq : ∀ s', Done f lt xs ys M U W Y sc env fr g1 g2 n s .brk s' → Q .brk s') :
    wpAny (model prog w) A (setFlight (.ref ex) none) (fun _ s₃ => wpAny (model prog w) A (handleBy (.ref ex) env [.ExceptHandler (some (.Name "IndexError" pn)) none
      [.Expr (.Call (.Attribute (.Name "missing" p1) "extend" p4) [.Subscript (.Name "expected" p2) (.Slice (some (.Name "i" p3)) none none p5) p6] [] p7) p8,
       .Expr (.Call (.Attribute (.Name "unexpected" q1) "extend" q4) [.Subscript (.Name "actual" q2) (.Slice (some (.Name "j" q3)) none none q5) q6] [] q7) q8, .Break pb] ph]) Q E s₃) E { s with heap := h₁, toks := tk } := by
  have T₁ : Tp h₀ h₁ := C.tp T₀ (ktf h₁ (KX.refl _ _))
  refine caught (s := { s with heap := h₁, toks := tk }) (m := m) C.B T₁ hTt C.ix x rfl (fun h' kx al => (SLf h' kx al).F) fun h₂ kx₂ al₂ => ?_
  have S₂ := SLf h₂ kx₂ al₂
  have kt₂ := ktf h₂ kx₂
  have T₂ : Tp h₀ h₂ := C.tp T₀ kt₂
  refine ec (own_extend (s := { s with heap := h₂, toks := tk }) C.O S₂.F T₂ S₂.ms S₂.ex S₂.ci (by decide) (by decide) (by decide) S₂.o1 C.n1 (by simpa using b1) hp1 fun h₃ tk₃ F₃ o₃ k₃ => ?_)
  have kt₃ : KT (Xs (env :: fr)) (Zs Y g1 g2) s.heap h₃ := kt₂.trans (KT.kx k₃ fun b hb => by simp at hb; simp [hb])
  have T₃ := C.tp T₀ kt₃
  have o2₃ : OwnL W h₃ g2 (un.map f) := S₂.o2.mono k₃ (by simpa using C.w1) (by simpa using C.n12.symm)
  refine ec (own_extend (s := { s with heap := h₃, toks := tk₃ }) C.O F₃ T₃ S₂.us S₂.ac S₂.cj (by decide) (by decide) (by decide) o2₃ C.n2 (by simpa using b2) hp2 fun h₄ tk₄ F₄ o₄ k₄ => ?_)
  have kt₄ : KT (Xs (env :: fr)) (Zs Y g1 g2) s.heap h₄ := kt₃.trans (KT.kx k₄ fun b hb => by simp at hb; simp [hb])
  refine ec (wpAny_Break ?_)
  refine hq _ ⟨h₄, tk₄, rfl, kt₄, m, F₄, S₂.ms, S₂.us, ?_, ?_⟩
  · have := o₃.mono k₄ (by simpa using C.w2) (by simpa using C.n12)
    rw [← hM, List.map_append, List.map_drop]; exact this
  · rw [← hU, List.map_append, List.map_drop]; exact o₄
end
end Mine
end

-- SldF
section
open PySem PySem.W PyProof.Rows PySem.Calls PySem.SeqAt
set_option maxRecDepth 100000
namespace Mine
noncomputable def tryHs (ss : List Stmt) : List ExceptHandler := (stH ss).2.2.2
noncomputable def whileBody (ss : List Stmt) : List Stmt := (stH ss).2.1
section
variable {α : Type} {lt : α → α → Bool} {xs ys : List α} {i j : Nat} {x y : α}
theorem drop_at {l : List α} {i : Nat} {x : α} (h : l[i]? = some x) : l.drop i = x :: l.drop (i + 1) := by
  obtain ⟨hi, e⟩ := List.getElem?_eq_some_iff.mp h
  rw [List.drop_eq_getElem_cons hi, e]
theorem dif_lt (hx : xs[i]? = some x) (hy : ys[j]? = some y) (h : lt x y = true) : dif lt (xs.drop i) (ys.drop j) = (x :: (dif lt (xs.drop (i + 1)) (ys.drop j)).1, (dif lt (xs.drop (i + 1)) (ys.drop j)).2) := by
  rw [drop_at hx, drop_at hy, dif, if_pos h]
theorem dif_gt (hx : xs[i]? = some x) (hy : ys[j]? = some y) (h : lt x y = false) (h' : lt y x = true) : dif lt (xs.drop i) (ys.drop j) = ((dif lt (xs.drop i) (ys.drop (j + 1))).1, y :: (dif lt (xs.drop i) (ys.drop (j + 1))).2) := by
  rw [drop_at hx, drop_at hy, dif, if_neg (by rw [h]; decide), if_pos h']
theorem dif_eq (hx : xs[i]? = some x) (hy : ys[j]? = some y) (h : lt x y = false) (h' : lt y x = false) : dif lt (xs.drop i) (ys.drop j) = dif lt (xs.drop (i + 1)) (ys.drop (j + 1)) := by
  rw [drop_at hx, drop_at hy, dif, if_neg (by rw [h]; decide), if_neg (by rw [h']; decide)]
end

section
variable {prog : Program} {w : World} {h₀ : Heap} {A : Around} {env : Env} {W Y : List Addr} {fr : List Env} {g1 g2 : Addr}
variable {α : Type} [BEq α] {f : α → D} {lt : α → α → Bool} {xs ys M U : List α}
noncomputable abbrev sc79 (P : Params) := (fdOf P 79).scope.names

noncomputable abbrev hs79 (P : Params) : List ExceptHandler := tryHs (whileBody ((bodyOf P 79).drop 3))
/-- what is done with an exception of the try's suite -/
noncomputable abbrev EH (prog : Program) (w : World) (A : Around) (env : Env) (Q : Flow → Shared → Prop) (E : Value → Shared → Prop) : Value → Shared → Prop := fun e s₁ =>
  wpAny (model prog w) A (noteFrame e env) (fun _ s₂ => wpAny (model prog w) A (setFlight e none) (fun _ s₃ => wpAny (model prog w) A (handleBy e env (hs79 w.params)) Q E s₃) E s₂) E s₁

omit [BEq α] in
theorem eh_hand (C : Cx w h₀ A (sc79 w.params) env W Y fr g1 g2) {m : Mp} {i j : Nat} {mi un : List α} {s : Shared} {h₁ : Heap} {tk : Nat} {ex T : Addr} {fl ctx : Value} {Q : Flow → Shared → Prop} {E : Value → Shared → Prop} (n : Nat)
    (SLf : ∀ h', KX [T] h₁ h' → (∃ o, h'.get? T = some o) → SL f W (sc79 w.params) env h' m xs ys i j g1 g2 mi un) (ktf : ∀ h', KX [T] h₁ h' → KT (Xs (env :: fr)) (Zs Y g1 g2) s.heap h') (T₀ : Tp h₀ s.heap) (x : Exc h₁ ex T fl ctx) (hTt : h₀.get? T = none)
    (hM : mi ++ xs.drop i = M) (hU : un ++ ys.drop j = U) (b1 : M.length + xs.length ≤ bound) (b2 : U.length + ys.length ≤ bound)
    (hq : ∀ s', Done f lt xs ys M U W Y (sc79 w.params) env fr g1 g2 n s .brk s' → Q .brk s') :
    wpAny (model prog w) A (setFlight (.ref ex) none) (fun _ s₃ => wpAny (model prog w) A (handleBy (.ref ex) env (hs79 w.params)) Q E s₃) E { s with heap := h₁, toks := tk } := by
  have lmi : mi.length ≤ M.length := by rw [← hM]; simp
  have lun : un.length ≤ U.length := by rw [← hU]; simp
  exact hand_ok (lt := lt) C n SLf ktf T₀ x hTt hM hU (by omega) (by omega) (by kernel_rfl) (by kernel_rfl) hq

omit [BEq α] in
/-- raised in this very frame, not noted yet -/
theorem eh_new (C : Cx w h₀ A (sc79 w.params) env W Y fr g1 g2) {m : Mp} {i j : Nat} {mi un : List α} {s s₁ : Shared} {h₁ : Heap} {tk : Nat} {ex : Addr} {ctx : Value} {Q : Flow → Shared → Prop} {E : Value → Shared → Prop} (n : Nat)
    (hs : ∃ h tk, s₁ = { s with heap := h, toks := tk }) (S : SL f W (sc79 w.params) env s₁.heap m xs ys i j g1 g2 mi un) (fo : FO W (Zs Y g1 g2) s₁.heap fr) (kt : KT (Xs (env :: fr)) (Zs Y g1 g2) s.heap s₁.heap) (T₀ : Tp h₀ s.heap) (hk : ∀ b o, s₁.heap.get? b = some o → h₁.get? b = some o) (hn : s₁.heap.get? ex = none) (x : ExcN h₁ ex ctx)
    (hM : mi ++ xs.drop i = M) (hU : un ++ ys.drop j = U) (b1 : M.length + xs.length ≤ bound) (b2 : U.length + ys.length ≤ bound)
    (hq : ∀ s', Done f lt xs ys M U W Y (sc79 w.params) env fr g1 g2 n s .brk s' → Q .brk s') : EH prog w A env Q E (.ref ex) { s₁ with heap := h₁, toks := tk } := by
  obtain ⟨h, tk', rfl⟩ := hs
  refine noted_out (s := { s with heap := h, toks := tk' }) (fo.frs S.F C.hf C.hA) C.hf hk hn x fun h₂ Tb xc hT ks => ?_
  refine eh_hand (s := s) (lt := lt) C n (fun h' kx _ => S.ks (ks.skip kx hT) C.xw C.x1 C.x2) (fun h' kx => kt.trans (KT.ks (ks.skip kx hT))) T₀ xc ((C.tp T₀ kt).gone hT) hM hU b1 b2 hq

omit [BEq α] in
/-- noted already -/
theorem eh_fly (C : Cx w h₀ A (sc79 w.params) env W Y fr g1 g2) {m : Mp} {i j : Nat} {mi un : List α} {s : Shared} {h₁ : Heap} {tk : Nat} {ex T : Addr} {ctx : Value} {Q : Flow → Shared → Prop} {E : Value → Shared → Prop} (n : Nat)
    (SLf : ∀ h', KX [T] h₁ h' → (∃ o, h'.get? T = some o) → SL f W (sc79 w.params) env h' m xs ys i j g1 g2 mi un) (ktf : ∀ h', KX [T] h₁ h' → KT (Xs (env :: fr)) (Zs Y g1 g2) s.heap h') (T₀ : Tp h₀ s.heap) (x : Exc h₁ ex T (rawInt env.locals) ctx) (hTt : h₀.get? T = none)
    (hM : mi ++ xs.drop i = M) (hU : un ++ ys.drop j = U) (b1 : M.length + xs.length ≤ bound) (b2 : U.length + ys.length ≤ bound)
    (hq : ∀ s', Done f lt xs ys M U W Y (sc79 w.params) env fr g1 g2 n s .brk s' → Q .brk s') : EH prog w A env Q E (.ref ex) { s with heap := h₁, toks := tk } := by
  refine note_again (s := { s with heap := h₁, toks := tk }) C.hf x ?_
  exact eh_hand (lt := lt) C n SLf ktf T₀ x hTt hM hU b1 b2 hq
omit [BEq α] in
/-- noted, from a state that knew nothing of it -/
theorem eh_flown (C : Cx w h₀ A (sc79 w.params) env W Y fr g1 g2) {m : Mp} {i j : Nat} {mi un : List α} {s s₁ : Shared} {Q : Flow → Shared → Prop} {E : Value → Shared → Prop} (n : Nat)
    (hs : ∃ h tk, s₁ = { s with heap := h, toks := tk }) (S : SL f W (sc79 w.params) env s₁.heap m xs ys i j g1 g2 mi un) (kt : KT (Xs (env :: fr)) (Zs Y g1 g2) s.heap s₁.heap) (T₀ : Tp h₀ s.heap)
    (hM : mi ++ xs.drop i = M) (hU : un ++ ys.drop j = U) (b1 : M.length + xs.length ≤ bound) (b2 : U.length + ys.length ≤ bound)
    (hq : ∀ s', Done f lt xs ys M U W Y (sc79 w.params) env fr g1 g2 n s .brk s' → Q .brk s') (A' : Around) : Flown A' (env :: fr) env.locals s₁ (EH prog w A env Q E) := by
  obtain ⟨h, tk', rfl⟩ := hs
  intro h₁ tk ex Tb ctx xc hn hT ks _
  exact eh_fly (lt := lt) (s := s) C n (fun h' kx _ => S.ks (ks.skip kx hT) C.xw C.x1 C.x2) (fun h' kx => kt.trans (KT.ks (ks.skip kx hT))) T₀ xc ((C.tp T₀ kt).gone hT) hM hU b1 b2 hq
end
end Mine
end

-- SldH
section
open PySem PySem.W PyProof.Rows PySem.Calls PySem.SeqAt
set_option maxRecDepth 100000
namespace Mine
theorem FR.ksT {W X : List Addr} {T : Addr} {sc : List (Str × NameKind)} {env : Env} {h h' : Heap} {m : Mp} (F : FR W sc env h m) (k : KS X h h') (hX : ∀ b ∈ X, b ∈ W) (hT : h.get? T = none) (al : ∃ o, h'.get? T = some o) : FR (T :: W) sc env h' m := by
  have kx : KX (T :: W) h h' := k.kx.mono fun b hb => List.mem_cons_of_mem _ (hX b hb)
  have off : ∀ {d v}, Rep W h d v → Rep (T :: W) h' d v := fun r => (r.off (W' := T :: W) fun b hb => by
    rcases List.mem_cons.mp hb with rfl | hb
    · exact .inr hT
    · exact .inl hb).mono kx
  refine ⟨F.kind, F.globs, F.blts, F.kinds, fun x hx => ?_, List.mem_cons_of_mem _ F.loc, fun x c e => List.mem_cons_of_mem _ (F.cin x c e), F.inj, fun x hx => ?_, ?_⟩
  · rcases List.mem_cons.mp hx with rfl | hx
    · exact al
    · obtain ⟨o, e⟩ := F.live x hx
      obtain ⟨sl, e'⟩ := k.any e
      exact ⟨_, e'⟩
  · obtain ⟨c, v, h1, o, h2, h3⟩ := F.cell x hx
    obtain ⟨sl, e'⟩ := k.any h2
    exact ⟨c, v, h1, _, e', h3⟩
  · obtain ⟨μ, ⟨o, es, ep, e, r⟩, h2⟩ := F.ns
    obtain ⟨sl, e'⟩ := k.any e
    refine ⟨μ, ⟨_, es, ep, e', r⟩, fun x d hx => ?_⟩
    rcases h2 x d hx with ⟨a, v, b, c⟩ | ⟨a, c, v, h3, ⟨o', h4, h4'⟩, h5⟩
    · exact .inl ⟨a, v, b, off c⟩
    · obtain ⟨sl', e''⟩ := k.any h4
      exact .inr ⟨a, c, v, h3, ⟨_, e'', h4'⟩, off h5⟩
section
variable {α : Type} {f : α → D} {W X Y : List Addr} {sc : List (Str × NameKind)} {env : Env} {h h' : Heap} {m : Mp} {xs ys : List α} {i j : Nat} {g1 g2 T : Addr} {mi un : List α}
theorem OwnL.ksT {ds : List D} {g : Addr} (o : OwnL W h g ds) (k : KS X h h') (hX : ∀ b ∈ X, b ∈ W) (hg : g ∉ X) (hT : h.get? T = none) : OwnL (T :: W) h' g ds := by
  obtain ⟨ys, h1, h2⟩ := o.lst
  refine ⟨List.mem_cons_of_mem _ o.mem, ys, h1.at fun o e => k.out g o hg e, (h2.off (W' := T :: W) fun b hb => ?_).mono (k.kx.mono fun b hb => List.mem_cons_of_mem _ (hX b hb))⟩
  rcases List.mem_cons.mp hb with rfl | hb
  · exact .inr hT
  · exact .inl hb
theorem OwnL.shrink {ds : List D} {g : Addr} (o : OwnL (T :: W) h g ds) (hg : g ∈ W) : OwnL W h g ds := by
  obtain ⟨ys, h1, h2⟩ := o.lst
  exact ⟨hg, ys, h1, h2.off fun b hb => .inl (List.mem_cons_of_mem _ hb)⟩
theorem SL.ksT (S : SL f W sc env h m xs ys i j g1 g2 mi un) (k : KS X h h') (hX : ∀ b ∈ X, b ∈ W) (n1 : g1 ∉ X) (n2 : g2 ∉ X) (hT : h.get? T = none) (al : ∃ o, h'.get? T = some o) : SL f (T :: W) sc env h' m xs ys i j g1 g2 mi un :=
  ⟨S.F.ksT k hX hT al, S.ex, S.ac, S.ci, S.cj, S.ms, S.us, S.o1.ksT k hX n1 hT, S.o2.ksT k hX n2 hT⟩
theorem SL.shrink (S : SL f (T :: W) sc env h m xs ys i j g1 g2 mi un) (hL : env.locals ∈ W) (hc : ∀ x c, env.cells.lookup x = some c → c ∈ W) (w1 : g1 ∈ W) (w2 : g2 ∈ W) : SL f W sc env h m xs ys i j g1 g2 mi un :=
  ⟨FR.shrink (X := [T]) S.F hL hc, S.ex, S.ac, S.ci, S.cj, S.ms, S.us, S.o1.shrink w1, S.o2.shrink w2⟩
theorem SL.butT (S : SL f (T :: W) sc env h m xs ys i j g1 g2 mi un) (k : KX [T] h h') (al : ∃ o, h'.get? T = some o) (hT : T ∉ W) (hL : env.locals ∈ W) (hc : ∀ x c, env.cells.lookup x = some c → c ∈ W) (w1 : g1 ∈ W) (w2 : g2 ∈ W) : SL f W sc env h' m xs ys i j g1 g2 mi un := by
  have hTW : ∀ b ∈ [T], b ∈ T :: W := by simp
  have S' : SL f (T :: W) sc env h' m xs ys i j g1 g2 mi un :=
    ⟨S.F.but (X := [T]) k hTW (fun q => by simp at q; exact hT (q ▸ hL)) (fun y c e q => by simp at q; exact hT (q ▸ hc y c e)) (by simpa using al), S.ex, S.ac, S.ci, S.cj, S.ms, S.us,
      S.o1.mono k hTW (fun q => by simp at q; exact hT (q ▸ w1)), S.o2.mono k hTW (fun q => by simp at q; exact hT (q ▸ w2))⟩
  exact S'.shrink hL hc w1 w2
end
theorem KT.skip {X Z : List Addr} {T : Addr} {h h₁ h₂ : Heap} (a : KT X Z h h₁) (b : KX [T] h₁ h₂) (hT : ∀ o, h.get? T = some o → T ∈ Z) : KT X Z h h₂ :=
  ⟨fun x o n1 n2 e => b x o (fun q => by simp at q; subst q; exact n1 (hT o e)) (a.out x o n1 n2 e), fun x o n1 n2 e => let ⟨sl, e1⟩ := a.ins x o n1 n2 e; ⟨sl, b x _ (fun q => by simp at q; subst q; exact n1 (hT o e)) e1⟩⟩
theorem KT.absent {X Z : List Addr} {T : Addr} {h h₁ : Heap} (a : KT X Z h h₁) (hT : h₁.get? T = none) : ∀ o, h.get? T = some o → T ∈ Z := fun o e => by
  by_cases q : T ∈ Z
  · exact q
  · by_cases q2 : T ∈ X
    · obtain ⟨sl, e1⟩ := a.ins T o q q2 e; rw [hT] at e1; cases e1
    · have := a.out T o q q2 e; rw [hT] at this; cases this
section
variable {prog : Program} {w : World} {A A' A'' : Around} {env : Env} {fr : List Env} {L : Addr} {s : Shared} {E : Value → Shared → Prop}
theorem flown_lift (hf : env.frame = some L) (hE : Flown A fr L s E) : Flown A fr L s (notedBy (model prog w) A' env (cameBackBy (model prog w) A'' env E)) := by
  intro h' tk ex T ctx xc hn hT ks hc
  refine note_again (s := { s with heap := h', toks := tk }) hf xc (came_back (s := { s with heap := h', toks := tk }) hf xc fun h'' xc' k' => ?_)
  exact hE h'' tk ex T ctx xc' hn hT (ks.skip (fun b o nb e => k' b o (by simpa using nb) e) hT) hc
end
end Mine
end

-- SldG
section
open PySem PySem.W PyProof.Rows PySem.Calls PySem.SeqAt
set_option maxRecDepth 100000
namespace Mine
theorem sub_l {a i b : Nat} (h : i < a) : (a - (i + 1)) + b < (a - i) + b := Nat.add_lt_add_right (Nat.sub_succ_lt_self a i h) _
theorem sub_r {a j b : Nat} (h : j < b) : a + (b - (j + 1)) < a + (b - j) := Nat.add_lt_add_left (Nat.sub_succ_lt_self b j h) _
theorem end_eq {n l : Nat} (h : n ≤ l) (h2 : ¬ n < l) : n = l := Nat.le_antisymm h (Nat.not_lt.mp h2)
section
variable {prog : Program} {w : World} {h₀ : Heap} {A : Around} {env : Env} {W Y : List Addr} {fr : List Env} {g1 g2 : Addr}
variable {α : Type} [BEq α] {f : α → D} {lt : α → α → Bool} {xs ys M U : List α}

theorem sld_turn (K : OrdK f lt) (C : Cx w h₀ A (sc79 w.params) env W Y fr g1 g2) {m : Mp} {i j : Nat} {mi un : List α} {s : Shared} {Q : Flow → Shared → Prop} {E : Value → Shared → Prop}
    (S : SL f W (sc79 w.params) env s.heap m xs ys i j g1 g2 mi un) (fo : FO W (Zs Y g1 g2) s.heap fr) (T : Tp h₀ s.heap) (hi : i ≤ xs.length) (hj : j ≤ ys.length)
    (hM : mi ++ (dif lt (xs.drop i) (ys.drop j)).1 = M) (hU : un ++ (dif lt (xs.drop i) (ys.drop j)).2 = U) (b1 : M.length + xs.length ≤ bound) (b2 : U.length + ys.length ≤ bound)
    (rx : ∀ k u v, xs[k]? = some u → xs[k + 1]? = some v → (v == u) = false) (ry : ∀ k u v, ys[k]? = some u → ys[k + 1]? = some v → (v == u) = false)
    (hq : ∀ fl s', Done f lt xs ys M U W Y (sc79 w.params) env fr g1 g2 ((xs.length - i) + (ys.length - j)) s fl s' → Q fl s') :
    wpAny (model prog w) A (execs (whileBody ((bodyOf w.params 79).drop 3)) env) Q E s := by
  have lmi : mi.length ≤ M.length := by rw [← hM]; simp
  have lun : un.length ≤ U.length := by rw [← hU]; simp
  have bx : xs.length ≤ bound := by omega
  have by' : ys.length ≤ bound := by omega
  have OW := C.O.sub
  have ktY : ∀ {h h' : Heap}, KX Y h h' → KT (Xs (env :: fr)) (Zs Y g1 g2) h h' := fun k => KT.kx k fun b hb => List.mem_append_left _ hb
  have kt1 : ∀ {h h' : Heap}, KX [g1] h h' → KT (Xs (env :: fr)) (Zs Y g1 g2) h h' := fun k => KT.kx k fun b hb => by simp at hb; simp [hb]
  have kt2 : ∀ {h h' : Heap}, KX [g2] h h' → KT (Xs (env :: fr)) (Zs Y g1 g2) h h' := fun k => KT.kx k fun b hb => by simp at hb; simp [hb]
  have ktK : ∀ {h h' : Heap}, (∀ b o, h.get? b = some o → h'.get? b = some o) → KT (Xs (env :: fr)) (Zs Y g1 g2) h h' := fun k => KT.kx (KX.of k) (Z' := []) (by simp)
  refine ec (wpAny_Try_except ?_)
  show wpAny (model prog w) A (execs _ env) _ (EH prog w A env (Nx prog w A env [] Q E) E) s
  generalize hQ1 : Nx prog w A env [] Q E = Q1
  have hbrk : ∀ s', Done f lt xs ys M U W Y (sc79 w.params) env fr g1 g2 ((xs.length - i) + (ys.length - j)) s .brk s' → Q1 .brk s' := fun s' d => by rw [← hQ1]; exact hq .brk s' d
  have hnext : ∀ s', Done f lt xs ys M U W Y (sc79 w.params) env fr g1 g2 ((xs.length - i) + (ys.length - j)) s .next s' → wpAny (model prog w) A (execs [] env) Q1 E s' := fun s' d => by rw [← hQ1]; exact wpAny_execs_nil (wpAny_execs_nil (hq .next s' d))
  by_cases hilt : i < xs.length
  · have hx : xs[i]? = some xs[i] := List.getElem?_eq_getElem hilt
    generalize xs[i] = x at hx
    -- e = expected[i]
    refine ec (asgN (get_in (h₀ := h₀) S.F T S.ex S.ci (by decide) (by decide) (by simpa using bx) (d := f x) (by rw [List.getElem?_map, hx]; rfl) fun v => kfor fun h₁ tk₁ hk₁ r₁ => ?_) (swap_no rfl _ _ _ _))
    refine FR.store (s := { s with heap := h₁, toks := tk₁ }) (S.F.keep hk₁) (storable_or C.se) r₁ fun h₂ tk₂ F₂ kx₂ hb₂ => ?_
    have ky₂ := own_store (O := C.O) hb₂
    have S₂ := (S.keep hk₁).set F₂ ky₂ OW C.n1 C.n2 (by decide)
    have kt₂ : KT (Xs (env :: fr)) (Zs Y g1 g2) s.heap h₂ := (ktK hk₁).trans (ktY ky₂)
    have T₂ := C.tp T kt₂
    by_cases hjlt : j < ys.length
    · have hy : ys[j]? = some ys[j] := List.getElem?_eq_getElem hjlt
      generalize ys[j] = y at hy
      refine ec (asgN (get_in (s := { s with heap := h₂, toks := tk₂ }) (h₀ := h₀) S₂.F T₂ S₂.ac S₂.cj (by decide) (by decide) (by simpa using by') (d := f y) (by rw [List.getElem?_map, hy]; rfl) fun v => kfor fun h₃ tk₃ hk₃ r₃ => ?_) (swap_no rfl _ _ _ _))
      refine FR.store (s := { s with heap := h₃, toks := tk₃ }) (S₂.F.keep hk₃) (storable_or C.sa) r₃ fun h₄ tk₄ F₄ kx₄ hb₄ => ?_
      have ky₄ := own_store (O := C.O) hb₄
      have S₄ := (S₂.keep hk₃).set F₄ ky₄ OW C.n1 C.n2 (by decide)
      have kt₄ : KT (Xs (env :: fr)) (Zs Y g1 g2) s.heap h₄ := kt₂.trans ((ktK hk₃).trans (ktY ky₄))
      have T₄ := C.tp T kt₄
      have he : (("a", f y) :: ("e", f x) :: m : Mp).lookup ("e" : Str) = some (f x) := by rw [lookup_cons_ne (by decide), lookup_cons_self]
      have ha : (("a", f y) :: ("e", f x) :: m : Mp).lookup ("a" : Str) = some (f y) := lookup_cons_self
      -- if e < a
      refine ec (wpAny_If (wpAny_isTrue_Compare1 (ev0_ok (h₀ := h₀) (s := { s with heap := h₄, toks := tk₄ }) (ev0_name he (by decide)) S₄.F T₄ fun v1 s₅ k₅ r₅ => ev0_ok (h₀ := h₀) (ev0_name ha (by decide)) (S₄.F.keep (kall k₅)) (T₄.keep (kall k₅)) fun v2 s₆ k₆ r₆ => K.lt' (r₅.mono (KX.of (kall k₆))) r₆ (wpAny_truthy_bool ?_)) rfl))
      have k46 := ktr k₅ k₆
      obtain ⟨h₆, tk₆, rfl, hk₆⟩ := k46
      dsimp only at hk₆
      have S₆ := S₄.keep hk₆
      have kt₆ : KT (Xs (env :: fr)) (Zs Y g1 g2) s.heap h₆ := kt₄.trans (ktK hk₆)
      have T₆ := C.tp T kt₆
      cases hlt : lt x y with
      | true =>
        have hd := dif_lt hx hy hlt
        rw [hd] at hM hU
        -- missing.append(e); i += 1
        refine ec (own_append (s := { s with heap := h₆, toks := tk₆ }) (RR := fun d => d = f x) C.O S₆.F S₆.ms (by decide) S₆.o1 C.n1 (by rw [List.length_map]; omega) rfl (by kernel_rfl) (fun Q' hq' => ev0_ok (h₀ := h₀) (s := { s with heap := h₆, toks := tk₆ }) (ev0_name he (by decide)) S₆.F T₆ (hq' _ rfl)) fun d h₇ tk₇ hd7 F₇ o₇ k₇ => ?_)
        subst hd7
        have S₇ : SL f W (sc79 w.params) env h₇ (("a", f y) :: ("e", f x) :: m) xs ys i j g1 g2 (mi ++ [x]) un := ⟨F₇, S₆.ex, S₆.ac, S₆.ci, S₆.cj, S₆.ms, S₆.us, by simpa using o₇, S₆.o2.mono k₇ (by simpa using C.w1) (by simpa using C.n12.symm)⟩
        have kt₇ := kt₆.trans (kt1 k₇)
        refine ec (inc_ok (s := { s with heap := h₇, toks := tk₇ }) C.O S₇.F S₇.ci (by decide) C.si fun h₈ tk₈ F₈ ky₈ => ?_)
        have S₈ := S₇.seti (k := i + 1) F₈ ky₈ OW C.n1 C.n2
        have kt₈ := kt₇.trans (ktY ky₈)
        have T₈ := C.tp T kt₈
        have he₈ : (("i", .int ((i + 1 : Nat) : Int)) :: ("a", f y) :: ("e", f x) :: m : Mp).lookup ("e" : Str) = some (f x) := by rw [lookup_cons_ne (by decide)]; exact he
        have hM' : mi ++ [x] ++ (dif lt (xs.drop (i + 1)) (ys.drop j)).1 = M := by simpa using hM
        by_cases hi1 : i + 1 < xs.length
        · have hx1 : xs[i + 1]? = some xs[i + 1] := List.getElem?_eq_getElem hi1
          refine ec (while_in (s := { s with heap := h₈, toks := tk₈ }) (h₀ := h₀) K S₈.F T₈ S₈.ex S₈.ci he₈ (by decide) (by decide) (by decide) bx hx1 (rx i _ _ hx hx1) (kfor fun h₉ tk₉ hk₉ => ?_))
          exact wpAny_execs_nil (wpAny_execs_nil (hnext _ ⟨h₉, tk₉, rfl, kt₈.trans (ktK hk₉), _, i + 1, j, _, un, S₈.keep hk₉, hilt, hj, sub_l hilt, hM', hU⟩))
        · have hie : i + 1 = xs.length := end_eq hilt hi1
          have hend : dif lt (xs.drop (i + 1)) (ys.drop j) = (xs.drop (i + 1), ys.drop j) := dif_end (.inl (by rw [hie]; exact List.drop_of_length_le (Nat.le_refl _)))
          rw [hend] at hM' hU
          exact ec (while_out (s := { s with heap := h₈, toks := tk₈ }) (h₀ := h₀) S₈.F T₈ ((fo.kt kt₈).frs S₈.F C.hf C.hA) C.hf (.inl C.hh) S₈.ex S₈.ci (by decide) (by decide) bx hie
            (eh_flown (lt := lt) (s := s) (s₁ := { s with heap := h₈, toks := tk₈ }) C _ ⟨_, _, rfl⟩ S₈ kt₈ T hM' hU b1 b2 hbrk A))
      | false =>
        refine ec (wpAny_If (wpAny_isTrue_Compare1 (ev0_ok (h₀ := h₀) (s := { s with heap := h₆, toks := tk₆ }) (ev0_name he (by decide)) S₆.F T₆ fun v1 sa ka ra => ev0_ok (h₀ := h₀) (ev0_name ha (by decide)) (S₆.F.keep (kall ka)) (T₆.keep (kall ka)) fun v2 sb kb rb => K.gt' (ra.mono (KX.of (kall kb))) rb (wpAny_truthy_bool ?_)) rfl))
        have k6b := ktr ka kb
        obtain ⟨hb, tkb, rfl, hkb⟩ := k6b
        dsimp only at hkb
        have S₆ := S₆.keep hkb
        have kt₆ : KT (Xs (env :: fr)) (Zs Y g1 g2) s.heap hb := kt₆.trans (ktK hkb)
        have T₆ := C.tp T kt₆
        cases hgt : lt y x with
        | true =>
          have hd := dif_gt hx hy hlt hgt
          rw [hd] at hM hU
          refine ec (own_append (s := { s with heap := hb, toks := tkb }) (RR := fun d => d = f y) C.O S₆.F S₆.us (by decide) S₆.o2 C.n2 (by rw [List.length_map]; omega) rfl (by kernel_rfl) (fun Q' hq' => ev0_ok (h₀ := h₀) (s := { s with heap := hb, toks := tkb }) (ev0_name ha (by decide)) S₆.F T₆ (hq' _ rfl)) fun d h₇ tk₇ hd7 F₇ o₇ k₇ => ?_)
          subst hd7
          have S₇ : SL f W (sc79 w.params) env h₇ (("a", f y) :: ("e", f x) :: m) xs ys i j g1 g2 mi (un ++ [y]) := ⟨F₇, S₆.ex, S₆.ac, S₆.ci, S₆.cj, S₆.ms, S₆.us, S₆.o1.mono k₇ (by simpa using C.w2) (by simpa using C.n12), by simpa using o₇⟩
          have kt₇ := kt₆.trans (kt2 k₇)
          refine ec (inc_ok (s := { s with heap := h₇, toks := tk₇ }) C.O S₇.F S₇.cj (by decide) C.sj fun h₈ tk₈ F₈ ky₈ => ?_)
          have S₈ := S₇.setj (k := j + 1) F₈ ky₈ OW C.n1 C.n2
          have kt₈ := kt₇.trans (ktY ky₈)
          have T₈ := C.tp T kt₈
          have ha₈ : (("j", .int ((j + 1 : Nat) : Int)) :: ("a", f y) :: ("e", f x) :: m : Mp).lookup ("a" : Str) = some (f y) := by rw [lookup_cons_ne (by decide)]; exact ha
          have hU' : un ++ [y] ++ (dif lt (xs.drop i) (ys.drop (j + 1))).2 = U := by simpa using hU
          by_cases hj1 : j + 1 < ys.length
          · have hy1 : ys[j + 1]? = some ys[j + 1] := List.getElem?_eq_getElem hj1
            refine ec (while_in (s := { s with heap := h₈, toks := tk₈ }) (h₀ := h₀) K S₈.F T₈ S₈.ac S₈.cj ha₈ (by decide) (by decide) (by decide) by' hy1 (ry j _ _ hy hy1) (kfor fun h₉ tk₉ hk₉ => ?_))
            exact wpAny_execs_nil (wpAny_execs_nil (wpAny_execs_nil (hnext _ ⟨h₉, tk₉, rfl, kt₈.trans (ktK hk₉), _, i, j + 1, mi, _, S₈.keep hk₉, hi, hjlt, sub_r hjlt, hM, hU'⟩)))
          · have hje : j + 1 = ys.length := end_eq hjlt hj1
            have hend : dif lt (xs.drop i) (ys.drop (j + 1)) = (xs.drop i, ys.drop (j + 1)) := dif_end (.inr (by rw [hje]; exact List.drop_of_length_le (Nat.le_refl _)))
            rw [hend] at hM hU'
            exact ec (while_out (s := { s with heap := h₈, toks := tk₈ }) (h₀ := h₀) S₈.F T₈ ((fo.kt kt₈).frs S₈.F C.hf C.hA) C.hf (.inl C.hh) S₈.ac S₈.cj (by decide) (by decide) by' hje
              (eh_flown (lt := lt) (s := s) (s₁ := { s with heap := h₈, toks := tk₈ }) C _ ⟨_, _, rfl⟩ S₈ kt₈ T hM hU' b1 b2 hbrk A))
        | false =>
          have hd := dif_eq hx hy hlt hgt
          rw [hd] at hM hU
          refine ec (inc_ok (s := { s with heap := hb, toks := tkb }) C.O S₆.F S₆.ci (by decide) C.si fun h₇ tk₇ F₇ ky₇ => ?_)
          have S₇ := S₆.seti (k := i + 1) F₇ ky₇ OW C.n1 C.n2
          have kt₇ := kt₆.trans (ktY ky₇)
          have T₇ := C.tp T kt₇
          have he₇ : (("i", .int ((i + 1 : Nat) : Int)) :: ("a", f y) :: ("e", f x) :: m : Mp).lookup ("e" : Str) = some (f x) := by rw [lookup_cons_ne (by decide)]; exact he
          have ha₇ : (("j", .int ((j + 1 : Nat) : Int)) :: ("i", .int ((i + 1 : Nat) : Int)) :: ("a", f y) :: ("e", f x) :: m : Mp).lookup ("a" : Str) = some (f y) := by rw [lookup_cons_ne (by decide), lookup_cons_ne (by decide)]; exact ha
          refine ec (wpAny_Try_finally ?_)
          by_cases hi1 : i + 1 < xs.length
          · have hx1 : xs[i + 1]? = some xs[i + 1] := List.getElem?_eq_getElem hi1
            refine ec (while_in (s := { s with heap := h₇, toks := tk₇ }) (h₀ := h₀) K S₇.F T₇ S₇.ex S₇.ci he₇ (by decide) (by decide) (by decide) bx hx1 (rx i _ _ hx hx1) fun s₈ k₈ => wpAny_execs_nil (wpAny_execs_nil ?_))
            obtain ⟨h₈, tk₈, rfl, hk₈⟩ := k₈
            have S₈ := S₇.keep hk₈
            have kt₈ := kt₇.trans (ktK hk₈)
            refine ec (inc_ok (s := { s with heap := h₈, toks := tk₈ }) C.O S₈.F S₈.cj (by decide) C.sj fun h₉ tk₉ F₉ ky₉ => ?_)
            have S₉ := S₈.setj (k := j + 1) F₉ ky₉ OW C.n1 C.n2
            have kt₉ := kt₈.trans (ktY ky₉)
            have T₉ := C.tp T kt₉
            by_cases hj1 : j + 1 < ys.length
            · have hy1 : ys[j + 1]? = some ys[j + 1] := List.getElem?_eq_getElem hj1
              refine ec (while_in (s := { s with heap := h₉, toks := tk₉ }) (h₀ := h₀) K S₉.F T₉ S₉.ac S₉.cj ha₇ (by decide) (by decide) (by decide) by' hy1 (ry j _ _ hy hy1) (kfor fun h₁₀ tk₁₀ hk₁₀ => ?_))
              exact wpAny_execs_nil (wpAny_execs_nil (wpAny_execs_nil (wpAny_execs_nil (hnext _ ⟨h₁₀, tk₁₀, rfl, kt₉.trans (ktK hk₁₀), _, i + 1, j + 1, mi, un, S₉.keep hk₁₀, hilt, hjlt, Nat.lt_trans (sub_l hilt) (sub_r hjlt), hM, hU⟩))))
            · have hje : j + 1 = ys.length := end_eq hjlt hj1
              have hend : dif lt (xs.drop (i + 1)) (ys.drop (j + 1)) = (xs.drop (i + 1), ys.drop (j + 1)) := dif_end (.inr (by rw [hje]; exact List.drop_of_length_le (Nat.le_refl _)))
              rw [hend] at hM hU
              exact ec (while_out (s := { s with heap := h₉, toks := tk₉ }) (h₀ := h₀) S₉.F T₉ ((fo.kt kt₉).frs S₉.F C.hf C.hA) C.hf (.inl C.hh) S₉.ac S₉.cj (by decide) (by decide) by' hje
                (flown_lift C.hf (eh_flown (lt := lt) (s := s) (s₁ := { s with heap := h₉, toks := tk₉ }) C _ ⟨_, _, rfl⟩ S₉ kt₉ T hM hU b1 b2 hbrk A)))
          · have hie : i + 1 = xs.length := end_eq hilt hi1
            have hend : dif lt (xs.drop (i + 1)) (ys.drop (j + 1)) = (xs.drop (i + 1), ys.drop (j + 1)) := dif_end (.inl (by rw [hie]; exact List.drop_of_length_le (Nat.le_refl _)))
            rw [hend] at hM hU
            refine ec (while_out (s := { s with heap := h₇, toks := tk₇ }) (h₀ := h₀) S₇.F T₇ ((fo.kt kt₇).frs S₇.F C.hf C.hA) C.hf (.inl C.hh) S₇.ex S₇.ci (by decide) (by decide) bx hie ?_)
            intro h₈ tk₈ ex Tb ctx xc hn hT ks hctx
            have hctx' : ctx = .none := hctx C.hh
            subst hctx'
            refine note_again (s := { s with heap := h₈, toks := tk₈ }) C.hf xc ⟨ref_ne_byPass _, note_again (s := { s with heap := h₈, toks := tk₈ }) C.hf xc ?_⟩
            refine flight (s := { s with heap := h₈, toks := tk₈ }) (f := none) xc fun h₉ xc₉ k₉ => ?_
            have kx₉ : KX [Tb] h₈ h₉ := fun b o nb e => k₉ b o (by simpa using nb) e
            have ks₉ := ks.skip kx₉ hT
            have al₉ : ∃ o, h₉.get? Tb = some o := let ⟨oT, _, e, _⟩ := xc₉.tb; ⟨oT, e⟩
            have S₉ := S₇.ksT ks₉ C.xw C.x1 C.x2 hT al₉
            have kt₉ := kt₇.trans (KT.ks ks₉)
            have hTW : Tb ∉ W := fun q => by obtain ⟨o, e⟩ := S₇.F.live Tb q; rw [hT] at e; cases e
            have hexW : ex ∉ W := fun q => by obtain ⟨o, e⟩ := S₇.F.live ex q; rw [hn] at e; cases e
            have O₉ : Own h₀ Y (Tb :: W) env := C.O.grow (X := [Tb])
            refine ec (inc_ok (s := { s with heap := h₉, toks := tk₈ }) O₉ S₉.F S₉.cj (by decide) C.sj fun h₁₀ tk₁₀ F₁₀ ky₁₀ => ?_)
            have S₁₀ := S₉.setj (k := j + 1) F₁₀ ky₁₀ O₉.sub C.n1 C.n2
            have hLW : env.locals ∈ W := OW _ C.O.loc
            have hcW : ∀ x c, env.cells.lookup x = some c → c ∈ W := fun x c e => OW _ (C.O.cin x c e)
            have S₁₀W := S₁₀.shrink hLW hcW C.w1 C.w2
            have kt₁₀ := kt₉.trans (ktY ky₁₀)
            have T₁₀ := C.tp T kt₁₀
            have xc₁₀ : Exc h₁₀ ex Tb .none .none := xc₉.keep (fun o e => ky₁₀ ex o (fun q => hexW (OW _ q)) e) (fun o e => ky₁₀ Tb o (fun q => hTW (OW _ q)) e)
            by_cases hj1 : j + 1 < ys.length
            · have hy1 : ys[j + 1]? = some ys[j + 1] := List.getElem?_eq_getElem hj1
              refine ec (while_in (s := { s with heap := h₁₀, toks := tk₁₀ }) (h₀ := h₀) K S₁₀.F T₁₀ S₁₀.ac S₁₀.cj ha₇ (by decide) (by decide) (by decide) by' hy1 (ry j _ _ hy hy1) fun s₁₁ k₁₁ => wpAny_execs_nil ?_)
              obtain ⟨h₁₁, tk₁₁, rfl, hk₁₁⟩ := k₁₁
              have S₁₁ := S₁₀.keep hk₁₁
              have kt₁₁ := kt₁₀.trans (ktK hk₁₁)
              have xc₁₁ : Exc h₁₁ ex Tb .none .none := xc₁₀.keep (fun o e => hk₁₁ ex o e) (fun o e => hk₁₁ Tb o e)
              refine pass_on (s := { s with heap := h₁₁, toks := tk₁₁ }) C.hf xc₁₁ fun h₁₂ xc₁₂ k₁₂ => ?_
              have kx₁₂ : KX [Tb] h₁₁ h₁₂ := fun b o nb e => k₁₂ b o (by simpa using nb) e
              exact eh_fly (lt := lt) (s := s) C _ (fun h' kx al => S₁₁.butT (kx₁₂.trans kx) al hTW hLW hcW C.w1 C.w2) (fun h' kx => kt₁₁.skip (kx₁₂.trans kx) (kt₇.absent hT)) T xc₁₂ (T₇.gone hT) hM hU b1 b2 hbrk
            · have hje : j + 1 = ys.length := end_eq hjlt hj1
              refine ec (while_out (A := A.mark (some (.ref ex))) (s := { s with heap := h₁₀, toks := tk₁₀ }) (h₀ := h₀) S₁₀W.F T₁₀ ((fo.kt kt₁₀).frs S₁₀W.F C.hf C.hA) C.hf ?_ S₁₀W.ac S₁₀W.cj (by decide) (by decide) by' hje
                (flown_lift C.hf (eh_flown (lt := lt) (s := s) (s₁ := { s with heap := h₁₀, toks := tk₁₀ }) C _ ⟨_, _, rfl⟩ S₁₀W kt₁₀ T hM hU b1 b2 hbrk _)))
              obtain ⟨oe, vs, e1, e2, e3, e4, e5⟩ := xc₁₀.obj
              exact .inr ⟨ex, oe, vs, rfl, e1, e3, e5⟩
    · -- actual[j] is beyond
      have hje : j = ys.length := end_eq hj hjlt
      have hend : dif lt (xs.drop i) (ys.drop j) = (xs.drop i, ys.drop j) := dif_end (.inr (by rw [hje]; exact List.drop_of_length_le (Nat.le_refl _)))
      rw [hend] at hM hU
      refine ec (asgN (get_out (s := { s with heap := h₂, toks := tk₂ }) (h₀ := h₀) S₂.F T₂ S₂.ac S₂.cj (by decide) (by decide) (by simpa using by') (by simpa using hje) (.inl C.hh) fun h₃ tk₃ ex ctx hk n xn _ => ?_) (swap_no rfl _ _ _ _))
      exact eh_new (lt := lt) (s := s) (s₁ := { s with heap := h₂, toks := tk₂ }) C _ ⟨_, _, rfl⟩ S₂ (fo.kt kt₂) kt₂ T hk n xn hM hU b1 b2 hbrk
  · -- expected[i] is beyond
    have hie : i = xs.length := end_eq hi hilt
    have hend : dif lt (xs.drop i) (ys.drop j) = (xs.drop i, ys.drop j) := dif_end (.inl (by rw [hie]; exact List.drop_of_length_le (Nat.le_refl _)))
    rw [hend] at hM hU
    refine ec (asgN (get_out (h₀ := h₀) S.F T S.ex S.ci (by decide) (by decide) (by simpa using bx) (by simpa using hie) (.inl C.hh) fun h₃ tk₃ ex ctx hk n xn _ => ?_) (swap_no rfl _ _ _ _))
    exact eh_new (lt := lt) (s := s) (s₁ := s) C _ ⟨s.heap, s.toks, rfl⟩ S fo (KT.refl _ _ _) T hk n xn hM hU b1 b2 hbrk
end
end Mine
end

-- SldK
section
open PySem PySem.W PyProof.Rows PySem.Calls PySem.SeqAt
set_option maxRecDepth 100000
namespace Mine
theorem at79 (P : Params) : ∃ o, (K P).lookup 79 = some o ∧ o.data = .func (fdOf P 79) := ⟨_, rfl, rfl⟩
theorem bd79 (P : Params) : (fdOf P 79).body = .stmts (bodyOf P 79) := rfl
theorem ok79 (P : Params) : fnOk ["expected", "actual"] (fdOf P 79) = true := by kernel_rfl
theorem cd79 (P : Params) : codeIn (K P) (fdOf P 79).code (fdOf P 79).qualname = true := by kernel_rfl
theorem bi79 (P : Params) (vs : List Value) (h : vs.length = 2) : bindArgs (fdOf P 79) ⟨vs, []⟩ = pure ((["expected", "actual"] : List Str).zip vs) := by
  obtain ⟨a, b, rfl⟩ := len2 h
  kernel_rfl
theorem gl79 (P : Params) : nsIn (K P) mainGlobals "sorted_list_difference" = some (some (.ref 79)) := by kernel_rfl

/-- the contract of a call that may write the slots of the frames around it -/
noncomputable abbrev CallF (prog : Program) (w : World) (h₀ : Heap) (k : Nat) (a : Addr) (ds : List D) (d : D) : Prop :=
  ∀ (A : Around) (W : List Addr) (s : Shared) (vs : List Value) (fr : List Env) (Q E : Value → Shared → Prop), Room A k → Frs A W s.heap fr → (∀ b ∈ Xs fr, h₀.get? b = none) → Tp h₀ s.heap → Live W s.heap → Reps W s.heap ds vs →
    (∀ v s', (∃ h' tk, s' = { s with heap := h', toks := tk } ∧ KS (Xs fr) s.heap h') → Rep W s'.heap d v → Q v s') → wpAny (model prog w) A (call (.ref a) vs) Q E s

section
variable {prog : Program} {w : World} {h₀ : Heap} {k : Nat}
variable {α : Type} [BEq α] {f : α → D} {lt : α → α → Bool} {xs ys : List α}
theorem sld_call (K : OrdK f lt) (B : Base w.params h₀) (b1 : (dif lt xs ys).1.length + xs.length ≤ bound) (b2 : (dif lt xs ys).2.length + ys.length ≤ bound)
    (rx : ∀ k u v, xs[k]? = some u → xs[k + 1]? = some v → (v == u) = false) (ry : ∀ k u v, ys[k]? = some u → ys[k + 1]? = some v → (v == u) = false) :
    CallF prog w h₀ (k + 1) 79 [.lst (xs.map f), .lst (ys.map f)] (.tup [.lst ((dif lt xs ys).1.map f), .lst ((dif lt xs ys).2.map f)]) := by
  intro A W s vs fr Q E R fs hfz T lv hr hq
  obtain ⟨o, h1, h2⟩ := at79 w.params
  refine call_frame (ps := ["expected", "actual"]) B R T lv h1 h2 (cd79 _) (bd79 _) (ok79 _) (bi79 _ vs hr.length) hr fun Y env h₁ tk₁ hY henv O Fr hk₁ hYn => ?_
  have R' := R.deeper env
  have T₁ := T.keep hk₁
  have hf : env.frame = some env.locals := by rw [henv]; rfl
  have hA : (A.deeper env).frames = some (env :: fr) := by show A.frames.map _ = _; rw [fs.eq]; rfl
  have xe : ∀ b ∈ Xs (env :: fr), b = env.locals ∨ b ∈ Xs fr := fun b hb => by
    rw [Xs, List.filterMap_cons, hf] at hb
    exact List.mem_cons.mp hb
  have hfrY : ∀ b ∈ Xs fr, b ∉ Y := fun b hb q => by
    obtain ⟨o, e⟩ := lv b (fs.sub b hb)
    rw [hYn b q] at e; cases e
  -- i = j = 0
  refine ec (wpAny_Assign_two (wpAny_Constant_int (wpAny_assign_Name (FR.store (s := { s with heap := h₁, toks := tk₁ + 1 }) Fr (.inl (by kernel_rfl)) (d := .int (0 : Nat)) rep_int fun h₂ tk₂ F₂ kx₂ hb₂ => wpAny_assign_Name (FR.store (s := { s with heap := h₂, toks := tk₂ }) F₂ (.inl (by kernel_rfl)) (d := .int (0 : Nat)) rep_int fun h₃ tk₃ F₃ kx₃ hb₃ => ?_)))))
  have ky₃ : KX Y h₁ h₃ := (own_store (O := O) hb₂).trans (own_store (O := O) hb₃)
  refine ec (own_new (s := { s with heap := h₃, toks := tk₃ }) O F₃ (by kernel_rfl) fun g1 h₄ tk₄ hg1 F₄ o₄ k₄ => ?_)
  have O₄ : Own h₀ Y (g1 :: (Y ++ W)) env := O.grow (X := [g1])
  refine ec (own_new (s := { s with heap := h₄, toks := tk₄ }) O₄ F₄ (by kernel_rfl) fun g2 h₅ tk₅ hg2 F₅ o₅ k₅ => ?_)
  have O₅ : Own h₀ Y (g2 :: g1 :: (Y ++ W)) env := O₄.grow (X := [g2])
  have T₃ := T₁.kx ky₃ O.new
  have T₄ := T₃.kx k₄ O.new
  have T₅ := T₄.kx k₅ O.new
  have nY1 : g1 ∉ Y := fun q => by obtain ⟨o, e⟩ := F₃.live g1 (O.sub g1 q); rw [hg1] at e; cases e
  have nY2 : g2 ∉ Y := fun q => by obtain ⟨o, e⟩ := F₄.live g2 (O₄.sub g2 q); rw [hg2] at e; cases e
  have n12 : g1 ≠ g2 := fun q => by obtain ⟨o, e⟩ := F₄.live g1 List.mem_cons_self; rw [q, hg2] at e; cases e
  have nW1 : g1 ∉ Y ++ W := fun q => by obtain ⟨o, e⟩ := F₃.live g1 q; rw [hg1] at e; cases e
  have nW2 : g2 ∉ g1 :: (Y ++ W) := fun q => by obtain ⟨o, e⟩ := F₄.live g2 q; rw [hg2] at e; cases e
  have xW : ∀ b ∈ Xs (env :: fr), b ∈ Y ++ W := fun b hb => by
    rcases xe b hb with rfl | hb
    · exact List.mem_append_left _ O.loc
    · exact List.mem_append_right _ (fs.sub b hb)
  have C : Cx w h₀ (A.deeper env) (sc79 w.params) env (g2 :: g1 :: (Y ++ W)) Y fr g1 g2 :=
    ⟨B, O₅, hf, hA, R'.hd, nY1, nY2, n12, List.mem_cons_of_mem _ List.mem_cons_self, List.mem_cons_self, fun q => nW1 (xW _ q), fun q => nW2 (List.mem_cons_of_mem _ (xW _ q)), T₃.gone hg1, T₄.gone hg2,
      fun b hb => List.mem_cons_of_mem _ (List.mem_cons_of_mem _ (xW b hb)), fun b hb => by
        rcases xe b hb with rfl | hb
        · exact O.new _ O.loc
        · exact hfz b hb, by kernel_rfl, by kernel_rfl, by kernel_rfl, by kernel_rfl, by kernel_rfl⟩
  have o1₅ : OwnL (g2 :: g1 :: (Y ++ W)) h₅ g1 [] := by
    have o' := o₄.mono k₅ (fun b hb => O₄.sub b hb) nY1
    obtain ⟨ys', a1, a2⟩ := o'.lst
    exact ⟨List.mem_cons_of_mem _ List.mem_cons_self, ys', a1, by simp only [Reps] at a2 ⊢; exact a2⟩
  have S₅ : SL f (g2 :: g1 :: (Y ++ W)) (sc79 w.params) env h₅ (("unexpected", .raw (.ref g2)) :: ("missing", .raw (.ref g1)) :: ("j", .int (0 : Nat)) :: ("i", .int (0 : Nat)) :: (["expected", "actual"] : List Str).zip [.lst (xs.map f), .lst (ys.map f)]) xs ys 0 0 g1 g2 [] [] :=
    ⟨F₅, rfl, rfl, rfl, rfl, rfl, rfl, o1₅, o₅⟩
  have up5 : ∀ b o, b ∉ Y → h₁.get? b = some o → h₅.get? b = some o := fun b o nb e => k₅ b o nb (k₄ b o nb (ky₃ b o nb e))
  have fo₅ : FO (g2 :: g1 :: (Y ++ W)) (Zs Y g1 g2) h₅ fr := fun e he => by
    obtain ⟨q0, L, oL, q1, q2, q3, q4⟩ := fs.ok e he
    have hLX : L ∈ Xs fr := List.mem_filterMap.mpr ⟨e, he, q1⟩
    refine ⟨q0, L, oL, q1, List.mem_cons_of_mem _ (List.mem_cons_of_mem _ (List.mem_append_right _ q2)), fun q => ?_, up5 L oL (hfrY L hLX) (hk₁ L oL q3), q4⟩
    rcases List.mem_append.mp q with q | q
    · exact hfrY L hLX q
    · simp at q
      rcases q with rfl | rfl
      · exact nW1 (List.mem_append_right _ q2)
      · exact nW2 (List.mem_cons_of_mem _ (List.mem_append_right _ q2))
  -- the loop
  refine ec (wpAny_While (codeAny_whileLoop (fun n s' => ∃ m i j mi un h tk, s' = { s with heap := h, toks := tk } ∧ SL f (g2 :: g1 :: (Y ++ W)) (sc79 w.params) env h m xs ys i j g1 g2 mi un ∧ KT (Xs (env :: fr)) (Zs Y g1 g2) h₅ h ∧ i ≤ xs.length ∧ j ≤ ys.length ∧ n = (xs.length - i) + (ys.length - j) ∧
      mi ++ (dif lt (xs.drop i) (ys.drop j)).1 = (dif lt xs ys).1 ∧ un ++ (dif lt (xs.drop i) (ys.drop j)).2 = (dif lt xs ys).2) (fun n s' hI => ?_) _ ⟨_, 0, 0, [], [], h₅, tk₅, rfl, S₅, KT.refl _ _ _, Nat.zero_le _, Nat.zero_le _, rfl, rfl, rfl⟩))
  obtain ⟨m, i, j, mi, un, h, tk, rfl, S, kt, hi, hj, rfl, hM, hU⟩ := hI
  refine wpAny_isTrue_value (wpAny_Constant_bool (wpAny_truthy_bool ?_))
  simp only [if_true]
  refine sld_turn K C (s := { s with heap := h, toks := tk }) S (fo₅.kt kt) (C.tp T₅ kt) hi hj hM hU b1 b2 rx ry fun fl s' hd => ?_
  obtain ⟨h', tk', rfl, kt', hd⟩ := hd
  cases fl with
  | next =>
    obtain ⟨m', i', j', mi', un', S', hi', hj', hlt, hM', hU'⟩ := hd
    exact ⟨_, hlt, m', i', j', mi', un', h', tk', rfl, S', kt.trans kt', hi', hj', rfl, hM', hU'⟩
  | brk =>
    obtain ⟨m', F', l1, l2, p1, p2⟩ := hd
    have ktA := kt.trans kt'
    have T' := C.tp T₅ ktA
    obtain ⟨EV, _⟩ := ev_sound (prog := prog) (k := k) (F := M0) (M := M0) B F0_ok M0_ok 5
    refine ec (wpAny_Return_some (EV R' (d := .tup [.raw (.ref g1), .raw (.ref g2)]) (v_tuple (by decide) (evs_cons (v_name l1 (by decide)) (evs_cons (v_name l2 (by decide)) evs0))) F' T' fun v => kfor fun h₇ tk₇ hk₇ r₇ => ?_))
    simp only [Rep, Reps] at r₇
    obtain ⟨a, its, rfl, ha, ht, u1, _, e1, rfl, u2, _, e2, rfl, e3⟩ := r₇
    subst e2 e3
    have old : ∀ b o, s.heap.get? b = some o → b ∉ Y := fun b o e q => by rw [hYn b q] at e; cases e
    have up3 : ∀ b o, s.heap.get? b = some o → h₃.get? b = some o := fun b o e => ky₃ b o (old b o e) (hk₁ b o e)
    have up4 : ∀ b o, s.heap.get? b = some o → h₄.get? b = some o := fun b o e => k₄ b o (old b o e) (up3 b o e)
    have up5' : ∀ b o, s.heap.get? b = some o → h₅.get? b = some o := fun b o e => k₅ b o (old b o e) (up4 b o e)
    have zs : ∀ b o, s.heap.get? b = some o → b ∉ Zs Y g1 g2 := fun b o e q => by
      rcases List.mem_append.mp q with q | q
      · exact old b o e q
      · simp at q
        rcases q with rfl | rfl
        · have := up3 b o e; rw [hg1] at this; cases this
        · have := up4 b o e; rw [hg2] at this; cases this
    refine hq (.ref a) _ ⟨h₇, tk₇, rfl, fun b o nb e => ?_, fun b o mb e => ?_⟩ ?_
    · exact hk₇ b o (ktA.out b o (zs b o e) (fun q => by
        rcases xe b q with q | q
        · exact old b o e (q ▸ O.loc)
        · exact nb q) (up5' b o e))
    · obtain ⟨sl, e'⟩ := ktA.ins b o (zs b o e) (by rw [Xs, List.filterMap_cons, hf]; exact List.mem_cons_of_mem _ mb) (up5' b o e)
      exact ⟨sl, hk₇ b _ e'⟩
    · have sub : ∀ {b}, b ∈ W → b ∈ g2 :: g1 :: (Y ++ W) := fun hb => List.mem_cons_of_mem _ (List.mem_cons_of_mem _ (List.mem_append_right _ hb))
      have fin : ∀ {g : Addr} {ds : List D}, g ∉ W → OwnL (g2 :: g1 :: (Y ++ W)) h' g ds → Rep W h₇ (.lst ds) (.ref g) := fun {g ds} hg o => by
        obtain ⟨zs', z1, z2⟩ := o.lst
        simp only [Rep]
        exact ⟨g, zs', rfl, hg, (z1.at fun o e => hk₇ _ o e).isList, (z2.mono (KX.of hk₇)).off fun b hb => .inl (sub hb)⟩
      have r1 := fin (fun q => nW1 (List.mem_append_right _ q)) p1
      have r2 := fin (fun q => nW2 (List.mem_cons_of_mem _ (List.mem_append_right _ q))) p2
      show Rep W h₇ (.tup _) (.ref a)
      rw [Rep]
      exact ⟨a, its, rfl, fun q => ha (sub q), ht, by rw [e1]; exact Reps.cons r1 (Reps.one r2)⟩
  | cont => exact hd.elim
  | ret v => exact hd.elim
end
end Mine
end

-- PlainD
section
open PySem PySem.W PyProof.Rows PySem.Calls PySem.SeqAt
set_option maxRecDepth 100000
namespace Mine
/-- a strict linear order -/
structure Lin {α : Type} (lt : α → α → Bool) : Prop where
  irr : ∀ a, lt a a = false
  tr : ∀ a b c, lt a b = true → lt b c = true → lt a c = true
  tri : ∀ a b, lt a b = false → lt b a = false → a = b
noncomputable abbrev Rising {α : Type} (lt : α → α → Bool) (l : List α) : Prop := l.Pairwise fun a b => lt a b = true
section
variable {α : Type} [BEq α] [LawfulBEq α] {lt : α → α → Bool}
theorem dif_filter (H : Lin lt) : ∀ (xs ys : List α), Rising lt xs → Rising lt ys → dif lt xs ys = (xs.filter fun x => !ys.contains x, ys.filter fun y => !xs.contains y)
  | [], ys, _, _ => by
    rw [dif_end (.inl rfl)]
    simp [filter_true']
  | x :: xs, [], _, _ => by
    rw [dif_end (.inr rfl)]
    simp [filter_true']
  | x :: xs, y :: ys, hx, hy => by
    have hx1 := List.pairwise_cons.mp hx
    have hy1 := List.pairwise_cons.mp hy
    have ne : ∀ {a b : α}, lt a b = true → a ≠ b := fun {a b} h q => by rw [q, H.irr] at h; cases h
    rw [dif]
    cases hlt : lt x y with
    | true =>
      rw [if_pos rfl, dif_filter H xs (y :: ys) hx1.2 hy]
      have n1 : (y :: ys).contains x = false := by
        rw [Bool.eq_false_iff]; intro q
        rw [List.contains_iff_mem] at q
        rcases List.mem_cons.mp q with q | q
        · exact ne hlt q
        · exact ne (H.tr _ _ _ hlt (hy1.1 x q)) rfl
      have n2 : ∀ b ∈ y :: ys, (!(x :: xs).contains b) = (!xs.contains b) := fun b hb => by
        have : b ≠ x := by
          rcases List.mem_cons.mp hb with rfl | hb
          · exact Ne.symm (ne hlt)
          · exact Ne.symm (ne (H.tr _ _ _ hlt (hy1.1 b hb)))
        rw [List.contains_cons]
        have : (b == x) = false := by simpa using this
        rw [this]; rfl
      rw [List.filter_congr n2]
      congr 1
      exact (List.filter_cons_of_pos (by rw [n1]; rfl)).symm
    | false =>
      rw [if_neg (by decide)]
      cases hgt : lt y x with
      | true =>
        rw [if_pos rfl, dif_filter H (x :: xs) ys hx hy1.2]
        have n1 : (x :: xs).contains y = false := by
          rw [Bool.eq_false_iff]; intro q
          rw [List.contains_iff_mem] at q
          rcases List.mem_cons.mp q with q | q
          · exact ne hgt q
          · exact ne (H.tr _ _ _ hgt (hx1.1 y q)) rfl
        have n2 : ∀ b ∈ x :: xs, (!(y :: ys).contains b) = (!ys.contains b) := fun b hb => by
          have : b ≠ y := by
            rcases List.mem_cons.mp hb with rfl | hb
            · exact Ne.symm (ne hgt)
            · exact Ne.symm (ne (H.tr _ _ _ hgt (hx1.1 b hb)))
          rw [List.contains_cons]
          have : (b == y) = false := by simpa using this
          rw [this]; rfl
        rw [List.filter_congr n2]
        congr 1
        exact (List.filter_cons_of_pos (by rw [n1]; rfl)).symm
      | false =>
        have hxy := H.tri x y hlt hgt
        subst hxy
        rw [if_neg (by decide), dif_filter H xs ys hx1.2 hy1.2]
        have n1 : ∀ b ∈ xs, (!(x :: ys).contains b) = (!ys.contains b) := fun b hb => by
          have : (b == x) = false := by simpa using Ne.symm (ne (hx1.1 b hb))
          rw [List.contains_cons, this]; rfl
        have n2 : ∀ b ∈ ys, (!(x :: xs).contains b) = (!xs.contains b) := fun b hb => by
          have : (b == x) = false := by simpa using Ne.symm (ne (hy1.1 b hb))
          rw [List.contains_cons, this]; rfl
        rw [List.filter_cons_of_neg (by simp), List.filter_cons_of_neg (by simp), List.filter_congr n1, List.filter_congr n2]
termination_by xs ys => xs.length + ys.length

theorem rising_step (H : Lin lt) {l : List α} (h : Rising lt l) : ∀ k u v, l[k]? = some u → l[k + 1]? = some v → (v == u) = false := fun k u v hu hv => by
  obtain ⟨h1, rfl⟩ := List.getElem?_eq_some_iff.mp hu
  obtain ⟨h2, rfl⟩ := List.getElem?_eq_some_iff.mp hv
  have := List.pairwise_iff_getElem.mp h k (k + 1) h1 h2 (by omega)
  have ne : l[k + 1] ≠ l[k] := fun q => by rw [q, H.irr] at this; cases this
  simpa using ne
end
theorem linZ : Lin ltZ := ⟨fun a => by simp [ltZ], fun a b c h1 h2 => by simp [ltZ] at *; omega, fun a b h1 h2 => by simp [ltZ] at *; omega⟩
end Mine
end

-- Red1
section
open PySem PySem.W PyProof.Rows PySem.Calls PySem.SeqAt
set_option maxRecDepth 100000
namespace Mine
section
variable {prog : Program} {w : World} {A : Around} {E : Value → Shared → Prop} {s : Shared}
theorem iter_list {l : Addr} {items : Array Value} {Q : Value → Shared → Prop} (hl : s.heap.IsList l items)
    (h : Q (.ref s.heap.objs.size) { s with heap := s.heap.push { cls := .type "list_iterator", data := .fields #[.ref l, .int 0 0] } }) : wpAny (model prog w) A (call (.builtin "iter") [.ref l]) Q E s := by
  refine call_function_entry (by decide +kernel) (by decide +kernel) kdk_entry_iter (kdk_args_iter _) ?_
  unfold Builtin.«iter»
  refine wpAny_bind (m := someArgs "iter" 1 2 _) (wpAny_of_eq (a := [Value.ref l]) (by first | rfl | kernel_rfl!) ?_)
  show wpAny _ _ (pyIter (.ref l) >>= _) _ _ _
  exact wpAny_bind (wpAny_pyIter_list hl (wpAny_pure ⟨_, rfl, h⟩))
theorem next_list {it l : Addr} {i : Nat} {items : Array Value} {x : Value} {Q : Value → Shared → Prop} (hit : s.heap.IsListIter it l i) (hl : s.heap.IsList l items) (hx : items[i]? = some x)
    (h : ∀ h', h'.IsListIter it l (i + 1) → Heap.SameBut it s.heap h' → Q x { s with heap := h' }) : wpAny (model prog w) A (call (.builtin "next") [.ref it]) Q E s := by
  refine call_function_entry (by decide +kernel) (by decide +kernel) kdk_entry_next (kdk_args_next _) ?_
  unfold Builtin.«next»
  refine wpAny_bind (m := someArgs "next" 1 2 _) (wpAny_of_eq (a := [Value.ref it]) (by first | rfl | kernel_rfl!) ?_)
  dsimp only
  refine wpAny_bind (wpAny_specialOf (name := Str.ofString "__next__") hit.typeIs slot_listiter_next.lookup ?_)
  refine wpAny_ite_split (fun hab => absurd hab (by decide)) (fun _ => ?_)
  obtain ⟨o, ho, hc, hd⟩ := id hit
  obtain ⟨ol, hol, _, nl, hdl⟩ := hl
  refine wpAny_bind (wpAny_callSpecial?_slot (name := Str.ofString "__next__") hit.typeIs slot_listiter_next
    (wpAny_call_entry slot_listiter_next hit.typeIs entry_listiter_next ?_ (args_listiter_next _)))
  show wpAny _ _ (field (.ref it) 0 >>= _) _ _ s
  refine wpAny_bind (wpAny_field ho hd (x := .ref l) rfl ?_)
  show wpAny _ _ (if (Value.ref l == Value.none) = true then _ else _) _ _ s
  rw [if_neg (show ¬ ((Value.ref l == Value.none) = true) from Bool.false_ne_true)]
  show wpAny _ _ (field (.ref it) 1 >>= _) _ _ s
  refine wpAny_bind (wpAny_field ho hd (x := .int i 0) rfl ?_)
  show wpAny _ _ (seqItems? (.ref l) >>= _) _ _ s
  refine wpAny_bind (wpAny_seqItems hol hdl ?_)
  simp only [Int.toNat_natCast, hx]
  refine wpAny_bind (wpAny_setField ho hd (by simp) (wpAny_pure ⟨x, rfl, wpAny_pure ⟨x, rfl, h _ ?_ (Heap.SameBut.update ..)⟩⟩))
  exact ⟨_, Heap.get?_update_self _ ho (Obj.isFreed_of_fields (Obj.data_mapFields hd _)), (Obj.cls_mapFields ..).trans hc, by
    rw [Obj.data_mapFields hd]; simp [rawInt]⟩
end
end Mine
end

-- Red2
section
open PySem PySem.W PyProof.Rows PySem.Calls PySem.SeqAt
set_option maxRecDepth 100000
namespace Mine
section
variable {prog : Program} {w : World} {A : Around} {s : Shared}
theorem call_cellsB {R : Result → Shared → Prop} {a : Addr} {o : Obj} {fd : FuncData} {body : List Stmt} {vals : List Value} {binds : List (Str × Value)}
    (hroom : A.depth < recursionLimit) (ho : s.heap.get? a = some o) (hdata : o.data = .func fd) (hlim : s.heap.NoLimit) (hcd : s.heap.CodeRec fd.code fd.qualname)
    (hbody : fd.body = .stmts body) (hbind : ∀ (Q' : List (Str × Value) → Shared → Prop) (E' : Value → Shared → Prop), Q' binds s → wpAny (model prog w) A.in1 (bindArgs fd ⟨vals, []⟩) Q' E' s) (hclo : fd.closure = [])
    (hkind : ∀ x ∈ binds, fd.scope.names.lookup x.1 = some .local ∨ (fd.scope.names.lookup x.1 = some .cell ∧ ((cellsFrom (s.heap.objs.size + 1) fd.scope.names []).lookup x.1).isSome = true))
    (h : ∀ s₁, InCallC s (callEnvC fd s.heap.objs.size a).locals (bindL (callEnvC fd s.heap.objs.size a).kindOf binds fun _ => none) (callEnvC fd s.heap.objs.size a).cells
        (bindC (callEnvC fd s.heap.objs.size a).kindOf binds fun _ => none) s₁ →
      wpAny (model prog w) (A.deeper (callEnvC fd s.heap.objs.size a)) (execs body (callEnvC fd s.heap.objs.size a)) (fun f s' => R (.ok (.ret (match f with | .ret v => v | _ => .none))) s')
        (fun e s' => wpAny (model prog w) (A.deeper (callEnvC fd s.heap.objs.size a)) (leaving (callEnvC fd s.heap.objs.size a) e) (fun _ s'' => R (.error e) s'') (fun e' s'' => R (.error e') s'') s') s₁)
    (hco : fd.scope.isCoroutine = false) (hgen : fd.scope.isGenerator = false) (hk : fd.scope.kind = .function) :
    codeAny (model prog w) A (.call (.ref a) ⟨vals, []⟩) R s := by
  refine codeAny_call_function hroom ho hdata hco hgen hbody hcd ?_
  rw [hclo]
  refine hbind _ _ (wpAny_newFunctionEnv_cells hk hkind fun env he s' x => ?_)
  subst he
  exact ⟨hlim.keeps x.toInCall.keep, codeAny_func (h s' x)⟩
end
section
variable {prog : Program} {w : World} {h₀ : Heap} {k : Nat}
/-- a call of a def: the frame that its body is run in -/
theorem call_frameB (B : Base w.params h₀) {A : Around} {W : List Addr} {s : Shared} {a : Addr} {o : Obj} {fd : FuncData} {body : List Stmt} {ps : List Str} {ds : List D} {args vs : List Value} {Q E : Value → Shared → Prop}
    (R : Room A (k + 1)) (T : Tp h₀ s.heap) (lv : Live W s.heap) (hK : (K w.params).lookup a = some o) (hd : o.data = .func fd) (hcd : codeIn (K w.params) fd.code fd.qualname = true) (hbody : fd.body = .stmts body) (hf : fnOk ps fd = true)
    (hbind : ∀ (Q' : List (Str × Value) → Shared → Prop) (E' : Value → Shared → Prop), Q' (ps.zip vs) s → wpAny (model prog w) A.in1 (bindArgs fd ⟨args, []⟩) Q' E' s) (hr : Reps W s.heap ds vs)
    (h : ∀ Y env h₁ tk₁, Y = ownOf' fd s.heap.objs.size → env = callEnvC fd s.heap.objs.size a → Own h₀ Y (Y ++ W) env → FR (Y ++ W) fd.scope.names env h₁ (ps.zip ds) → (∀ b o, s.heap.get? b = some o → h₁.get? b = some o) → (∀ b ∈ Y, s.heap.get? b = none) →
      wpAny (model prog w) (A.deeper env) (execs body env) (Rq Q) (Le prog w A env E) { s with heap := h₁, toks := tk₁ }) :
    wpAny (model prog w) A (call (.ref a) args) Q E s := by
  obtain ⟨f5, f8, f9, f10, fk⟩ := fn_facts hf
  have lim : s.heap.NoLimit := by
    obtain ⟨mc, hn, hl⟩ := B.lim
    exact ⟨mc, Base.ns T hn (by decide) (by decide), hl⟩
  exact wpAny_call (call_cellsB (fd := fd) (body := body) (binds := ps.zip vs) (by have := R.dp; omega) ((B.kin T) a o hK) hd lim (codeRec_of (B.kin T) hcd) hbody hbind f5 (fk _ _) (fun s₁ C => let ⟨O, F, kk, n⟩ := in_frame T lv hf hr C; kopen (P := fun s₁ => FR _ fd.scope.names _ s₁.heap (ps.zip ds) → _) kk (fun h₁ tk₁ hk F => h _ _ h₁ tk₁ rfl rfl O F hk n) F) f8 f9 f10)

end
end Mine
end

-- Red3
section
open PySem PySem.W PyProof.Rows PySem.Calls PySem.SeqAt
set_option maxRecDepth 100000
namespace Mine
theorem at72 (P : Params) : ∃ o, (K P).lookup 72 = some o ∧ o.data = .func (fdOf P 72) := ⟨_, rfl, rfl⟩
theorem bd72 (P : Params) : (fdOf P 72).body = .stmts (bodyOf P 72) := rfl
theorem ok72 (P : Params) : fnOk ["function", "sequence", "initial"] (fdOf P 72) = true := by kernel_rfl
theorem cd72 (P : Params) : codeIn (K P) (fdOf P 72).code (fdOf P 72).qualname = true := by kernel_rfl
theorem bi72_2 (P : Params) {s : Shared} (X : (K P).In s.heap) (a b : Value) : BindsTo s (fdOf P 72) ⟨[a, b], []⟩ ((["function", "sequence", "initial"] : List Str).zip [a, b, .ref 64]) := kp_binds X (fun S => by kernel_rfl)
theorem bi72_3 (P : Params) {s : Shared} (X : (K P).In s.heap) (a b c : Value) : BindsTo s (fdOf P 72) ⟨[a, b, c], []⟩ ((["function", "sequence", "initial"] : List Str).zip [a, b, c]) := kp_binds X (fun S => by kernel_rfl)
theorem gl72 (P : Params) : nsIn (K P) mainGlobals "reduce" = some (some (.ref 72)) := by kernel_rfl
theorem gl64 (P : Params) : nsIn (K P) mainGlobals "_initial_missing" = some (some (.ref 64)) := by kernel_rfl
end Mine
end

-- Red4
section
open PySem PySem.W PyProof.Rows PySem.Calls PySem.SeqAt
set_option maxRecDepth 100000
namespace Mine
theorem kforS {s : Shared} {K : Heap → Prop} {P : Shared → Prop} (h : ∀ h₁ tk₁, K h₁ → P { s with heap := h₁, toks := tk₁ }) : ∀ s', (∃ h' tk, s' = { s with heap := h', toks := tk } ∧ K h') → P s' :=
  fun _ ⟨h₁, t₁, e, hk⟩ => e ▸ h h₁ t₁ hk
/-- objects that stand -/
noncomputable abbrev Stand (Ls : List (Addr × Obj)) (h : Heap) : Prop := ∀ p ∈ Ls, h.get? p.1 = some p.2
/-- the contract of the function that reduce is handed: one step -/
noncomputable abbrev FunC (prog : Program) (w : World) (h₀ : Heap) (k : Nat) (fa : Addr) (Ls : List (Addr × Obj)) (Step : D → D → D → Prop) (Inv : Nat → D → Prop) (Pe : D → Prop) (N : Nat) : Prop :=
  ∀ (A : Around) (W : List Addr) (s : Shared) (va ve : Value) (acc el : D) (j : Nat) (fr : List Env) (Q E : Value → Shared → Prop), j < N → Inv j acc → Pe el → Room A k → Frs A W s.heap fr → (∀ b ∈ Xs fr, h₀.get? b = none) → Tp h₀ s.heap → Live W s.heap → Stand Ls s.heap → Rep W s.heap acc va → Rep W s.heap el ve →
    (∀ acc', Step acc el acc' → Inv (j + 1) acc' → ∀ v s', (∃ h' tk, s' = { s with heap := h', toks := tk } ∧ KS (Xs fr) s.heap h') → Rep W s'.heap acc' v → Q v s') → wpAny (model prog w) A (call (.ref fa) [va, ve]) Q E s
/-- what the steps make -/
inductive Folds (Step : D → D → D → Prop) : D → List D → D → Prop
  | nil {a} : Folds Step a [] a
  | cons {a b c e es} : Step a e b → Folds Step b es c → Folds Step a (e :: es) c
theorem Folds.snoc {Step : D → D → D → Prop} {a b c e : D} {es : List D} (h : Folds Step a es b) (h2 : Step b e c) : Folds Step a (es ++ [e]) c := by
  induction h with
  | nil => exact .cons h2 .nil
  | cons h1 t ih => exact .cons h1 (ih h2)
end Mine
end

-- Red5
section
open PySem PySem.W PyProof.Rows PySem.Calls PySem.SeqAt
set_option maxRecDepth 100000
namespace Mine
noncomputable abbrev sc72 (P : Params) := (fdOf P 72).scope.names
section
variable {prog : Program} {w : World} {h₀ : Heap} {k : Nat} {A : Around} {env : Env} {W Y : List Addr} {fr : List Env}

/-- the for of reduce, from place j0 of the list on -/
theorem red_for {Step : D → D → D → Prop} {Inv : Nat → D → Prop} {Pe : D → Prop} {fa I l : Addr} {fo' : Obj} {fd : FuncData} {Ls : List (Addr × Obj)} {ds : List D} {items : Array Value} {j0 : Nat} {acc0 : D} {m : Mp} {s : Shared} {Q : Flow → Shared → Prop} {E : Value → Shared → Prop}
    (R : Room A k) (O : Own h₀ Y W env) (hf : env.frame = some env.locals) (hA : A.frames = some (env :: fr)) (fo : FO W (Y ++ [I]) s.heap fr) (hz : ∀ b ∈ Xs (env :: fr), h₀.get? b = none) (hI0 : h₀.get? I = none)
    (FC : FunC prog w h₀ k fa Ls Step Inv Pe ds.length) (hI : Inv j0 acc0) (hP : ∀ d ∈ ds, Pe d) (hLs : (fa, fo') ∈ Ls) (hfd : fo'.data = .func fd) (hst : Stand Ls s.heap) (hLW : ∀ p ∈ Ls, p.1 ∉ W)
    (F : FR W (sc72 w.params) env s.heap m) (T : Tp h₀ s.heap) (m1 : m.lookup ("function" : Str) = some (.raw (.ref fa))) (m2 : m.lookup ("value" : Str) = some acc0) (m3 : m.lookup ("it" : Str) = some (.raw (.ref I)))
    (hIW : I ∈ W) (hIY : I ∉ Y) (hIX : I ∉ Xs (env :: fr)) (hit : s.heap.IsListIter I l j0) (hl : s.heap.IsList l items) (hlW : l ∉ W) (hrs : Reps W s.heap ds items.toList) (hj0 : j0 ≤ ds.length)
    {W0 : List Addr} (hW0 : W = I :: W0) (hIW0 : I ∉ W0) (hL0 : env.locals ∈ W0) (hc0 : ∀ x c, env.cells.lookup x = some c → c ∈ W0)
    (hq : ∀ acc' m' h' tk, Folds Step acc0 (ds.drop j0) acc' → FR W0 (sc72 w.params) env h' m' → m'.lookup ("value" : Str) = some acc' → KT (Xs (env :: fr)) (Y ++ [I]) s.heap h' → Q .next { s with heap := h', toks := tk }) :
    wpAny (model prog w) A (exec (((bodyOf w.params 72).drop 2).headD (.Pass ⟨0, 0, 0, 0⟩)) env) Q E s := by
  have len := hrs.length
  rw [Array.length_toList] at len
  have xW : ∀ b ∈ Xs (env :: fr), b ∈ W := fun b hb => by
    rw [Xs, List.filterMap_cons, hf] at hb
    rcases List.mem_cons.mp hb with rfl | hb
    · exact O.sub _ O.loc
    · exact (fo.sub b hb).1
  have zW : ∀ b ∈ Y ++ [I], b ∈ W := fun b hb => by
    rcases List.mem_append.mp hb with hb | hb
    · exact O.sub b hb
    · simp at hb; rw [hb]; exact hIW
  have ktW : ∀ {h'}, KT (Xs (env :: fr)) (Y ++ [I]) s.heap h' → KX W s.heap h' := fun k b o nb e => k.out b o (fun q => nb (zW b q)) (fun q => nb (xW b q)) e
  have tpK : ∀ {h'}, KT (Xs (env :: fr)) (Y ++ [I]) s.heap h' → Tp h₀ h' := fun kt => T.kx (Y := (Y ++ [I]) ++ Xs (env :: fr)) (fun b o nb e => kt.out b o (fun q => nb (List.mem_append_left _ q)) (fun q => nb (List.mem_append_right _ q)) e) fun b hb => by
    rcases List.mem_append.mp hb with hb | hb
    · rcases List.mem_append.mp hb with hb | hb
      · exact O.new b hb
      · simp at hb; rw [hb]; exact hI0
    · exact hz b hb
  have ktY : ∀ {h h' : Heap}, KX Y h h' → KT (Xs (env :: fr)) (Y ++ [I]) h h' := fun k => KT.kx k fun b hb => List.mem_append_left _ hb
  have ktI : ∀ {h h' : Heap}, KX [I] h h' → KT (Xs (env :: fr)) (Y ++ [I]) h h' := fun k => KT.kx k fun b hb => List.mem_append_right _ hb
  have ktK : ∀ {h h' : Heap}, (∀ b o, h.get? b = some o → h'.get? b = some o) → KT (Xs (env :: fr)) (Y ++ [I]) h h' := fun k => KT.kx (KX.of k) (Z' := []) (by simp)
  have IW1 : ∀ b ∈ [I], b ∈ W := by simpa using hIW
  refine wpAny_For (wpAny_Name (FR.load F m3 (by decide) fun v r => ?_) (by decide)) (folded_eq rfl env)
  simp only [Rep] at r
  subst r
  refine wpAny_pyIter_listiter hit ?_
  refine codeAny_forLoop (fun n s' => ∃ j m' h' tk acc', s' = { s with heap := h', toks := tk } ∧ j0 ≤ j ∧ j ≤ ds.length ∧ n = ds.length + 1 - j ∧ h'.IsListIter I l j ∧ FR W (sc72 w.params) env h' m' ∧ m'.lookup ("function" : Str) = some (.raw (.ref fa)) ∧ m'.lookup ("value" : Str) = some acc' ∧ Folds Step acc0 ((ds.drop j0).take (j - j0)) acc' ∧ Inv j acc' ∧ KT (Xs (env :: fr)) (Y ++ [I]) s.heap h') ?_ _
    ⟨j0, m, s.heap, s.toks, acc0, rfl, Nat.le_refl _, hj0, rfl, hit, F, m1, m2, by simpa using Folds.nil, hI, KT.refl _ _ _⟩
  rintro n s' ⟨j, m', h', tk, acc', rfl, hj1, hj2, rfl, hit', F', l1, l2, fol, inv, kt⟩
  have hl' : h'.IsList l items := hl.at fun o e => ktW kt l o hlW e
  have hrs' : Reps W h' ds items.toList := hrs.mono (ktW kt)
  by_cases hlt : j < ds.length
  · have hx : items[j]? = some items[j] := Array.getElem?_eq_getElem (by omega)
    generalize items[j] = x at hx
    obtain ⟨d, hd, rd⟩ := hrs'.getV (i := j) (v := x) (by rw [Array.getElem?_toList]; exact hx)
    refine wpAny_pyNext_list_item (s := { s with heap := h', toks := tk }) hit' hl' hx fun h₁ hit₁ hs₁ => ?_
    have kI₁ : KX [I] h' h₁ := fun b o nb e => hs₁.extBut b o (by simpa using nb) e
    have F₁ : FR W (sc72 w.params) env h₁ m' := F'.but (X := [I]) kI₁ IW1 (fun q => hIY (by simp at q; exact q ▸ O.loc)) (fun y c hc q => hIY (by simp at q; exact q ▸ O.cin y c hc)) (fun b hb => by simp at hb; subst hb; obtain ⟨o, e, _⟩ := hit₁; exact ⟨o, e⟩)
    refine wpAny_assign_Name (FR.store (s := { s with heap := h₁, toks := tk }) F₁ (.inl (by kernel_rfl)) (rd.mono (kI₁.mono IW1)) fun h₂ tk₂ F₂ kx₂ hb₂ => ?_)
    have ky₂ := own_store (O := O) hb₂
    have kt₂ := (kt.trans (ktI kI₁)).trans (ktY ky₂)
    have T₂ := tpK kt₂
    have hit₂ : h₂.IsListIter I l (j + 1) := hit₁.at fun o e => ky₂ I o hIY e
    have fo₂ := fo.kt kt₂
    have hfo : h₂.get? fa = some fo' := ktW kt₂ fa fo' (hLW _ hLs) (hst _ hLs)
    have l1' : (("element", d) :: m' : Mp).lookup ("function" : Str) = some (.raw (.ref fa)) := by rw [lookup_cons_ne (by decide)]; exact l1
    have l2' : (("element", d) :: m' : Mp).lookup ("value" : Str) = some acc' := by rw [lookup_cons_ne (by decide)]; exact l2
    refine ec (asgN ?_ (swap_no rfl _ _ _ _))
    rw [arm_eval_Call_Name']
    refine wpAny_bind (wpAny_Name (FR.load (s := { s with heap := h₂, toks := tk₂ }) F₂ l1' (by decide) fun v r => ?_) (by decide))
    simp only [Rep] at r
    subst r
    refine callWith_function (o := fo') (fd := fd) (evalArgs_ok (h₀ := h₀) (ev := ev0 (("element", d) :: m')) ev0_ok rfl (ds := [acc', d]) (evs_cons (ev0_name l2' (by decide)) (evs_cons (ev0_name lookup_cons_self (by decide)) evs0)) F₂ T₂ fun vs => kfor fun h₃ tk₃ hk₃ r₃ => ?_)
    simp only [Reps] at r₃
    obtain ⟨v1, _, rfl, rv1, v2, _, rfl, rv2, rfl⟩ := r₃
    have kt₃ := kt₂.trans (ktK hk₃)
    refine ⟨⟨hk₃ _ _ hfo, hfd⟩, ?_⟩
    refine FC A W { s with heap := h₃, toks := tk₃ } v1 v2 acc' d j (env :: fr) _ _ hlt inv (hP d (List.mem_of_getElem? hd)) R ((fo.kt kt₃).frs (F₂.keep hk₃) hf hA) hz (tpK kt₃) (F₂.keep hk₃).live (fun p hp => ktW kt₃ p.1 p.2 (hLW p hp) (hst p hp)) rv1 rv2 fun acc'' hstep inv'' v => kforS fun h₄ tk₄ ks₄ r₄ => ?_
    have F₄ := (F₂.keep hk₃).ks ks₄ xW
    refine FR.store (s := { s with heap := h₄, toks := tk₄ }) F₄ (.inl (by kernel_rfl)) r₄ fun h₅ tk₅ F₅ kx₅ hb₅ => wpAny_execs_nil ?_
    have ky₅ := own_store (O := O) hb₅
    have kt₅ := (kt₃.trans (KT.ks ks₄)).trans (ktY ky₅)
    refine ⟨ds.length + 1 - (j + 1), by omega, j + 1, _, h₅, tk₅, acc'', rfl, by omega, hlt, rfl, ?_, F₅, ?_, lookup_cons_self, ?_, inv'', kt₅⟩
    · exact ((hit₂.at fun o e => hk₃ I o e).at fun o e => ks₄.out I o hIX e).at fun o e => ky₅ I o hIY e
    · rw [lookup_cons_ne (by decide)]; exact l1'
    · have : (ds.drop j0).take (j + 1 - j0) = (ds.drop j0).take (j - j0) ++ [d] := by
        rw [show j + 1 - j0 = (j - j0) + 1 by omega, List.take_add_one, List.getElem?_drop, show j0 + (j - j0) = j by omega, hd]; rfl
      rw [this]
      exact fol.snoc hstep
  · have hje : j = ds.length := by omega
    refine wpAny_pyNext_list_end (s := { s with heap := h', toks := tk }) R.hd hit' hl' (Array.getElem?_eq_none (by omega)) fun h₁ hx₁ => wpAny_execs_nil ?_
    have kI₁ : KX [I] h' h₁ := fun b o nb e => hx₁ b o (by simpa using nb) e
    subst hW0
    refine hq acc' m' h₁ tk ?_ (FR.dropL (X := [I]) F' hL0 hc0 (fun b hb q => by simp at q; exact hIW0 (q ▸ hb)) kI₁) l2 (kt.trans (ktI kI₁))
    rw [hje, List.take_of_length_le (by simp)] at fol
    exact fol
end
end Mine
end

-- Red6
section
open PySem PySem.W PyProof.Rows PySem.Calls PySem.SeqAt
set_option maxRecDepth 100000
namespace Mine
theorem size_none (h : Heap) : h.get? h.objs.size = none := by
  cases e : h.get? h.objs.size with
  | none => rfl
  | some o => exact absurd (Heap.lt_size e) (Nat.lt_irrefl _)
section
variable {prog : Program} {w : World} {h₀ : Heap} {k : Nat} {A : Around} {env : Env} {W Y : List Addr} {fr : List Env} {m : Mp} {s : Shared}

/-- it = iter(sequence) -/
theorem red_iter {ds : List D} {Q : Flow → Shared → Prop} {E : Value → Shared → Prop} (B : Base w.params h₀) (O : Own h₀ Y W env) (F : FR W (sc72 w.params) env s.heap m) (T : Tp h₀ s.heap) (m1 : m.lookup ("sequence" : Str) = some (.lst ds))
    (hq : ∀ I l items h' tk, s.heap.get? I = none → FR (I :: W) (sc72 w.params) env h' (("it", .raw (.ref I)) :: m) → h'.IsListIter I l 0 → h'.IsList l items → l ∉ I :: W → Reps (I :: W) h' ds items.toList → KX Y s.heap h' → Q .next { s with heap := h', toks := tk }) :
    wpAny (model prog w) A (exec ((bodyOf w.params 72).headD (.Pass ⟨0, 0, 0, 0⟩)) env) Q E s := by
  refine asgN ?_ (swap_no rfl _ _ _ _)
  rw [arm_eval_Call_Name']
  refine wpAny_bind (glob_blt B F T (by kernel_rfl) (by decide) (by decide) (v := .builtin "iter") (by kernel_rfl) (by kernel_rfl) ?_)
  refine callWith_method1 (rest := []) (wpAny_items_cons (rest := []) (wpAny_Name (FR.load F m1 (by decide) fun v r => wpAny_items_nil ?_) (by decide)) rfl) rfl rfl
  simp only [Rep] at r
  obtain ⟨l, items, rfl, hlW, hl, hrs⟩ := r
  refine iter_list hl ?_
  have hg := size_none s.heap
  have nY : s.heap.objs.size ∉ Y := fun q => by obtain ⟨o, e⟩ := F.live _ (O.sub _ q); rw [hg] at e; cases e
  have k1 : ∀ b o, s.heap.get? b = some o → (s.heap.push { cls := .type "list_iterator", data := .fields #[.ref l, .int 0 0] }).get? b = some o := fun b o e => Heap.get?_push_of_some _ e
  have F₂ : FR (s.heap.objs.size :: W) (sc72 w.params) env (s.heap.push { cls := .type "list_iterator", data := .fields #[.ref l, .int 0 0] }) m := F.grow (X := [s.heap.objs.size]) k1 (by simpa using hg) fun b hb => by
    simp at hb; subst hb; exact ⟨_, Heap.get?_push_size _ rfl⟩
  have hit : (s.heap.push { cls := .type "list_iterator", data := .fields #[.ref l, .int 0 0] }).IsListIter s.heap.objs.size l 0 := ⟨_, Heap.get?_push_size _ rfl, rfl, rfl⟩
  refine FR.store (s := { s with heap := s.heap.push { cls := .type "list_iterator", data := .fields #[.ref l, .int 0 0] } }) F₂ (.inl (by kernel_rfl)) (d := .raw (.ref s.heap.objs.size)) (by simp only [Rep]) fun h₃ tk₃ F₃ kx₃ hb₃ => ?_
  have ky := own_store (O := O) hb₃
  have hl0 : l ≠ s.heap.objs.size := fun q => by obtain ⟨o, e, _⟩ := hl; rw [q, hg] at e; cases e
  have lW : l ∉ s.heap.objs.size :: W := fun q => by
    rcases List.mem_cons.mp q with q | q
    · exact hl0 q
    · exact hlW q
  have kxW : KX (s.heap.objs.size :: W) s.heap h₃ := ((KX.of k1).trans ky).mono fun b hb => List.mem_cons_of_mem _ (O.sub b hb)
  refine hq _ l items h₃ tk₃ hg F₃ (hit.at fun o e => ky _ o nY e) (hl.at fun o e => kxW l o lW e) lW ((hrs.off (W' := s.heap.objs.size :: W) fun b hb => ?_).mono kxW) ((KX.of k1).trans ky)
  rcases List.mem_cons.mp hb with rfl | hb
  · exact .inr hg
  · exact .inl hb

/-- the for and the return -/
theorem red_tail {Step : D → D → D → Prop} {Inv : Nat → D → Prop} {Pe : D → Prop} {fa I l : Addr} {fo' : Obj} {fd : FuncData} {Ls : List (Addr × Obj)} {ds : List D} {items : Array Value} {j0 : Nat} {acc0 : D} {W0 : List Addr} {Q : Flow → Shared → Prop} {E : Value → Shared → Prop}
    (R : Room A k) (O : Own h₀ Y (I :: W0) env) (O' : Own h₀ Y W0 env) (hf : env.frame = some env.locals) (hA : A.frames = some (env :: fr)) (fo : FO (I :: W0) (Y ++ [I]) s.heap fr) (hz : ∀ b ∈ Xs (env :: fr), h₀.get? b = none) (hI0 : h₀.get? I = none)
    (FC : FunC prog w h₀ k fa Ls Step Inv Pe ds.length) (hInv : Inv j0 acc0) (hP : ∀ d ∈ ds, Pe d) (hLs : (fa, fo') ∈ Ls) (hfd : fo'.data = .func fd) (hst : Stand Ls s.heap) (hLW : ∀ p ∈ Ls, p.1 ∉ I :: W0)
    (F : FR (I :: W0) (sc72 w.params) env s.heap m) (T : Tp h₀ s.heap) (m1 : m.lookup ("function" : Str) = some (.raw (.ref fa))) (m2 : m.lookup ("value" : Str) = some acc0) (m3 : m.lookup ("it" : Str) = some (.raw (.ref I)))
    (hIW0 : I ∉ W0) (hIX : I ∉ Xs (env :: fr)) (hit : s.heap.IsListIter I l j0) (hl : s.heap.IsList l items) (hlW : l ∉ I :: W0) (hrs : Reps (I :: W0) s.heap ds items.toList) (hj0 : j0 ≤ ds.length)
    (hc0 : ∀ x c, env.cells.lookup x = some c → c ∈ W0)
    (hq : ∀ acc' v h' tk, Folds Step acc0 (ds.drop j0) acc' → Rep W0 h' acc' v → KT (Xs (env :: fr)) (Y ++ [I]) s.heap h' → Q (.ret v) { s with heap := h', toks := tk }) :
    wpAny (model prog w) A (execs ((bodyOf w.params 72).drop 2) env) Q E s := by
  have nIY : I ∉ Y := fun q => hIW0 (O'.sub I q)
  refine ec (red_for (W0 := W0) R O hf hA fo hz hI0 FC hInv hP hLs hfd hst hLW F T m1 m2 m3 List.mem_cons_self nIY hIX hit hl hlW hrs hj0 rfl hIW0 (O'.sub _ O'.loc) hc0 fun acc' m' h' tk fol F' l' kt => ?_)
  exact ec (wpAny_Return_some (wpAny_Name (FR.load (s := { s with heap := h', toks := tk }) F' l' (by decide) fun z rz => hq acc' z h' tk fol rz kt) (by decide)))
end
section
variable {prog : Program} {w : World} {h₀ : Heap} {k : Nat} {A : Around} {W : List Addr} {fr : List Env} {s : Shared}

/-- reduce(f, list) of a list that is not empty, and reduce(f, list, initial) -/
theorem red_call {Step : D → D → D → Prop} {Inv : Nat → D → Prop} {Pe : D → Prop} {fa : Addr} {fo' : Obj} {fd : FuncData} {Ls : List (Addr × Obj)} {ds : List D} {vl vi : Value} {args : List Value} {dI acc0 : D} {j0 : Nat} {Q E : Value → Shared → Prop} (B : Base w.params h₀)
    (R : Room A (k + 1)) (fs : Frs A W s.heap fr) (hfz : ∀ b ∈ Xs fr, h₀.get? b = none) (T : Tp h₀ s.heap) (lv : Live W s.heap) (FC : FunC prog w h₀ k fa Ls Step Inv Pe ds.length) (hInv : Inv j0 acc0) (hP : ∀ d ∈ ds, Pe d) (hLs : (fa, fo') ∈ Ls) (hfd : fo'.data = .func fd) (hst : Stand Ls s.heap) (hLW : ∀ p ∈ Ls, p.1 ∉ W)
    (rl : Rep W s.heap (.lst ds) vl) (ri : Rep W s.heap dI vi) (hbind : BindsTo s (fdOf w.params 72) ⟨args, []⟩ ((["function", "sequence", "initial"] : List Str).zip [.ref fa, vl, vi]))
    (hcase : (dI = .raw (.ref 64) ∧ j0 = 1 ∧ ds[0]? = some acc0) ∨ (dI = acc0 ∧ j0 = 0 ∧ ∃ l, acc0 = .lst l))
    (hq : ∀ acc', Folds Step acc0 (ds.drop j0) acc' → ∀ v s', (∃ h' tk, s' = { s with heap := h', toks := tk } ∧ KS (Xs fr) s.heap h') → Rep W s'.heap acc' v → Q v s') :
    wpAny (model prog w) A (call (.ref 72) args) Q E s := by
  obtain ⟨o, h1, h2⟩ := at72 w.params
  refine call_frameB (ps := ["function", "sequence", "initial"]) (ds := [.raw (.ref fa), .lst ds, dI]) B R T lv h1 h2 (cd72 _) (bd72 _) (ok72 _) (fun Q' E' hq' => hbind _ _ _ _ hq') (Reps.cons (by simp only [Rep]) (Reps.cons rl (Reps.one ri))) fun Y env h₁ tk₁ hY henv O Fr hk₁ hYn => ?_
  have R' := R.deeper env
  have T₁ := T.keep hk₁
  have hf : env.frame = some env.locals := by rw [henv]; rfl
  have hA : (A.deeper env).frames = some (env :: fr) := by show A.frames.map _ = _; rw [fs.eq]; rfl
  have xe : ∀ b ∈ Xs (env :: fr), b = env.locals ∨ b ∈ Xs fr := fun b hb => by
    rw [Xs, List.filterMap_cons, hf] at hb
    exact List.mem_cons.mp hb
  have hfrY : ∀ b ∈ Xs fr, b ∉ Y := fun b hb q => by
    obtain ⟨o, e⟩ := lv b (fs.sub b hb)
    rw [hYn b q] at e; cases e
  have old : ∀ b o, s.heap.get? b = some o → b ∉ Y := fun b o e q => by rw [hYn b q] at e; cases e
  refine ec (red_iter (s := { s with heap := h₁, toks := tk₁ }) B O Fr T₁ rfl fun I l items h₂ tk₂ hI F₂ hit₂ hl₂ hlW₂ hrs₂ k₂ => ?_)
  have T₂ := T₁.kx k₂ O.new
  have O₂ : Own h₀ Y (I :: (Y ++ W)) env := O.grow (X := [I])
  have nIW : I ∉ Y ++ W := fun q => by obtain ⟨o, e⟩ := Fr.live I q; rw [hI] at e; cases e
  have nIY : I ∉ Y := fun q => nIW (List.mem_append_left _ q)
  have xW : ∀ b ∈ Xs (env :: fr), b ∈ Y ++ W := fun b hb => by
    rcases xe b hb with rfl | hb
    · exact List.mem_append_left _ O.loc
    · exact List.mem_append_right _ (fs.sub b hb)
  have hz : ∀ b ∈ Xs (env :: fr), h₀.get? b = none := fun b hb => by
    rcases xe b hb with rfl | hb
    · exact O.new _ O.loc
    · exact hfz b hb
  have oldI : ∀ b o, s.heap.get? b = some o → b ≠ I := fun b o e q => by have := hk₁ b o e; rw [q, hI] at this; cases this
  have up2 : ∀ b o, s.heap.get? b = some o → h₂.get? b = some o := fun b o e => k₂ b o (old b o e) (hk₁ b o e)
  -- what stands behind the choice of the first value
  have rest : ∀ m h₃ tk₃, FR (I :: (Y ++ W)) (sc72 w.params) env h₃ m → KX (Y ++ [I]) h₂ h₃ → m.lookup ("function" : Str) = some (.raw (.ref fa)) → m.lookup ("value" : Str) = some acc0 → m.lookup ("it" : Str) = some (.raw (.ref I)) → h₃.IsListIter I l j0 → j0 ≤ ds.length →
      wpAny (model prog w) (A.deeper env) (execs ((bodyOf w.params 72).drop 2) env) (Rq Q) (Le prog w A env E) { s with heap := h₃, toks := tk₃ } := by
    intro m h₃ tk₃ F₃ k₃ m1 m2 m3 hit₃ hj
    have zsub : ∀ b ∈ Y ++ [I], b ∈ I :: (Y ++ W) := fun b hb => by
      rcases List.mem_append.mp hb with hb | hb
      · exact List.mem_cons_of_mem _ (List.mem_append_left _ hb)
      · simp at hb; rw [hb]; exact List.mem_cons_self
    have oldZ : ∀ b o, s.heap.get? b = some o → b ∉ Y ++ [I] := fun b o e q => by
      rcases List.mem_append.mp q with q | q
      · exact old b o e q
      · simp at q; exact oldI b o e q
    have up3 : ∀ b o, s.heap.get? b = some o → h₃.get? b = some o := fun b o e => k₃ b o (oldZ b o e) (up2 b o e)
    have lZ : l ∉ Y ++ [I] := fun q => hlW₂ (zsub l q)
    have T₃ : Tp h₀ h₃ := T₂.kx k₃ fun b hb => by
      rcases List.mem_append.mp hb with hb | hb
      · exact O.new b hb
      · simp at hb; rw [hb]; exact T₁.gone hI
    have fo₃ : FO (I :: (Y ++ W)) (Y ++ [I]) h₃ fr := fun e he => by
      obtain ⟨q0, L, oL, q1, q2, q3, q4⟩ := fs.ok e he
      exact ⟨q0, L, oL, q1, List.mem_cons_of_mem _ (List.mem_append_right _ q2), oldZ L oL q3, up3 L oL q3, q4⟩
    have hst₃ : Stand Ls h₃ := fun p hp => up3 p.1 p.2 (hst p hp)
    have hLW₃ : ∀ p ∈ Ls, p.1 ∉ I :: (Y ++ W) := fun p hp q => by
      rcases List.mem_cons.mp q with q | q
      · exact oldI p.1 p.2 (hst p hp) q
      · rcases List.mem_append.mp q with q | q
        · exact old p.1 p.2 (hst p hp) q
        · exact hLW p hp q
    refine red_tail (s := { s with heap := h₃, toks := tk₃ }) (W0 := Y ++ W) R' O₂ O hf hA fo₃ hz (T₁.gone hI) FC hInv hP hLs hfd hst₃ hLW₃ F₃ T₃ m1 m2 m3 nIW (fun q => nIW (xW I q)) hit₃ (hl₂.at fun o e => k₃ l o lZ e) hlW₂ (hrs₂.mono (k₃.mono zsub)) hj (fun x c e => List.mem_append_left _ (O.cin x c e)) fun acc' v h' tk fol r' kt => ?_
    refine hq acc' fol v _ ⟨h', tk, rfl, fun b o nb e => ?_, fun b o mb e => ?_⟩ (r'.off fun b hb => .inl (List.mem_append_right _ hb))
    · exact kt.out b o (oldZ b o e) (fun q => by
        rcases xe b q with q | q
        · exact old b o e (q ▸ O.loc)
        · exact nb q) (up3 b o e)
    · exact kt.ins b o (oldZ b o e) (by rw [Xs, List.filterMap_cons, hf]; exact List.mem_cons_of_mem _ mb) (up3 b o e)
  -- if initial is _initial_missing
  have kin := B.kin T₂
  refine ec (wpAny_If (wpAny_isTrue_Compare1 (wpAny_Name (FR.load (s := { s with heap := h₂, toks := tk₂ }) F₂ (x := "initial") (d := dI) rfl (by decide) fun z rz => glob_val (s := { s with heap := h₂, toks := tk₂ }) B F₂ T₂ (by kernel_rfl) (by decide) (gl64 _) ?_) (by decide))))
  rcases hcase with ⟨rfl, rfl, hd0⟩ | ⟨rfl, rfl, l0, rfl⟩
  · simp only [Rep] at rz
    subst rz
    refine wpAny_is_ref_self (wpAny_truthy_bool ?_)
    simp only [if_true]
    refine ec (wpAny_Try_except (ec (asgN ?_ (swap_no rfl _ _ _ _))))
    rw [arm_eval_Call_Name']
    refine wpAny_bind (glob_blt (s := { s with heap := h₂, toks := tk₂ }) B F₂ T₂ (by kernel_rfl) (by decide) (by decide) (v := .builtin "next") (by kernel_rfl) (by kernel_rfl) ?_)
    refine callWith_method1 (rest := []) (wpAny_items_cons (rest := []) (wpAny_Name (FR.load (s := { s with heap := h₂, toks := tk₂ }) F₂ (x := "it") (d := .raw (.ref I)) rfl (by decide) fun v r => wpAny_items_nil ?_) (by decide)) rfl) rfl rfl
    simp only [Rep] at r
    subst r
    obtain ⟨x0, hx0, rx0⟩ := hrs₂.get hd0
    rw [Array.getElem?_toList] at hx0
    refine next_list (s := { s with heap := h₂, toks := tk₂ }) hit₂ hl₂ hx0 fun h₃ hit₃ sb => ?_
    have kI : KX [I] h₂ h₃ := fun b o nb e => sb.extBut b o (by simpa using nb) e
    have I1 : ∀ b ∈ [I], b ∈ I :: (Y ++ W) := by simp
    have F₃ : FR (I :: (Y ++ W)) (sc72 w.params) env h₃ _ := F₂.but (X := [I]) kI I1 (fun q => nIY (by simp at q; exact q ▸ O.loc)) (fun y c hc q => nIY (by simp at q; exact q ▸ O.cin y c hc)) (fun b hb => by simp at hb; subst hb; obtain ⟨o, e, _⟩ := hit₃; exact ⟨o, e⟩)
    refine FR.store (s := { s with heap := h₃, toks := tk₂ }) F₃ (.inl (by kernel_rfl)) (rx0.mono (kI.mono I1)) fun h₄ tk₄ F₄ kx₄ hb₄ => wpAny_execs_nil (wpAny_execs_nil (wpAny_execs_nil ?_))
    have ky₄ := own_store (O := O) hb₄
    refine rest _ h₄ tk₄ F₄ ((kI.mono fun b hb => List.mem_append_right _ hb).trans (ky₄.mono fun b hb => List.mem_append_left _ hb)) rfl rfl rfl (hit₃.at fun o e => ky₄ I o nIY e) ?_
    have := List.getElem?_eq_some_iff.mp hd0
    obtain ⟨q, _⟩ := this
    omega
  · have rz' := rz
    simp only [Rep] at rz
    obtain ⟨a, its, rfl, haW, ⟨oa, ha, hca, _⟩, _⟩ := rz
    have h64 : ∃ o, (K w.params).lookup 64 = some o ∧ o.cls = .type "object" := ⟨_, rfl, rfl⟩
    obtain ⟨o64, e64, c64⟩ := h64
    refine wpAny_is_ref_other (fun q => ?_) ha (kin 64 o64 e64) (by rw [hca]; decide) (wpAny_truthy_bool ?_)
    · rw [q, kin 64 o64 e64] at ha
      cases ha
      rw [c64] at hca
      exact absurd hca (by decide)
    rw [if_neg (by decide)]
    refine ec (asgN (wpAny_Name (FR.load (s := { s with heap := h₂, toks := tk₂ }) F₂ (x := "initial") (d := .lst l0) rfl (by decide) fun v r => ?_) (by decide)) (swap_no rfl _ _ _ _))
    refine FR.store (s := { s with heap := h₂, toks := tk₂ }) F₂ (.inl (by kernel_rfl)) r fun h₄ tk₄ F₄ kx₄ hb₄ => wpAny_execs_nil ?_
    have ky₄ := own_store (O := O) hb₄
    exact rest _ h₄ tk₄ F₄ (ky₄.mono fun b hb => List.mem_append_left _ hb) rfl rfl rfl (hit₂.at fun o e => ky₄ I o nIY e) (Nat.zero_le _)
end
end Mine
end

-- ForX
section
open PySem PySem.W PyProof.Rows PySem.Calls PySem.SeqAt
set_option maxRecDepth 100000
namespace Mine
section
variable {prog : Program} {w : World} {h₀ : Heap} {A : Around} {s : Shared}
variable {W Y : List Addr} {sc : List (Str × NameKind)} {env : Env} {m : Mp}

end
end Mine
end

-- Lam
section
open PySem PySem.W PyProof.Rows PySem.Calls PySem.SeqAt
set_option maxRecDepth 100000
namespace Mine
section
variable {prog : Program} {w : World} {A : Around} {s : Shared}
theorem call_cellsE {R : Value → Shared → Prop} {E : Value → Shared → Prop} {a : Addr} {o : Obj} {fd : FuncData} {body : Expr} {vals : List Value} {binds : List (Str × Value)}
    (hroom : A.depth < recursionLimit) (ho : s.heap.get? a = some o) (hdata : o.data = .func fd) (hlim : s.heap.NoLimit) (hcd : s.heap.CodeRec fd.code fd.qualname)
    (hbody : fd.body = .expr body) (hbind : bindArgs fd ⟨vals, []⟩ = pure binds) (hclo : fd.closure = [])
    (hkind : ∀ x ∈ binds, fd.scope.names.lookup x.1 = some .local ∨ (fd.scope.names.lookup x.1 = some .cell ∧ ((cellsFrom (s.heap.objs.size + 1) fd.scope.names []).lookup x.1).isSome = true))
    (h : ∀ s₁, InCallC s (callEnvC fd s.heap.objs.size a).locals (bindL (callEnvC fd s.heap.objs.size a).kindOf binds fun _ => none) (callEnvC fd s.heap.objs.size a).cells
        (bindC (callEnvC fd s.heap.objs.size a).kindOf binds fun _ => none) s₁ →
      wpAny (model prog w) (A.deeper (callEnvC fd s.heap.objs.size a)) (eval body (callEnvC fd s.heap.objs.size a)) R
        (fun e s' => wpAny (model prog w) (A.deeper (callEnvC fd s.heap.objs.size a)) (leaving (callEnvC fd s.heap.objs.size a) e) (fun _ s'' => E e s'') (fun e' s'' => E e' s'') s') s₁)
    (hco : fd.scope.isCoroutine = false) (hgen : fd.scope.isGenerator = false) (hk : fd.scope.kind = .function) :
    wpAny (model prog w) A (call (.ref a) vals) R E s := by
  refine wpAny_call (kla_callFunE hroom ho hdata hco hgen hbody hcd ?_)
  rw [hclo, hbind]
  refine wpAny_pure (wpAny_newFunctionEnv_cells hk hkind fun env he s' x => ?_)
  subst he
  exact ⟨hlim.keeps x.toInCall.keep, kla_codeExpr (wpAny_mono (h s' x) (fun v s' q => q) fun e s' q => q)⟩
end
section
variable {prog : Program} {w : World} {h₀ : Heap} {k : Nat}
/-- a call of a lambda: the frame that its body is run in -/
theorem call_frameE (B : Base w.params h₀) {A : Around} {W : List Addr} {s : Shared} {a : Addr} {o : Obj} {fd : FuncData} {body : Expr} {ps : List Str} {ds : List D} {args vs : List Value} {Q E : Value → Shared → Prop}
    (R : Room A (k + 1)) (T : Tp h₀ s.heap) (lv : Live W s.heap) (ho : s.heap.get? a = some o) (hd : o.data = .func fd) (hcd : s.heap.CodeRec fd.code fd.qualname) (hbody : fd.body = .expr body) (hf : fnOk ps fd = true)
    (hbind : bindArgs fd ⟨args, []⟩ = pure (ps.zip vs)) (hr : Reps W s.heap ds vs)
    (h : ∀ Y env h₁ tk₁, Y = ownOf' fd s.heap.objs.size → env = callEnvC fd s.heap.objs.size a → Own h₀ Y (Y ++ W) env → FR (Y ++ W) fd.scope.names env h₁ (ps.zip ds) → (∀ b o, s.heap.get? b = some o → h₁.get? b = some o) → (∀ b ∈ Y, s.heap.get? b = none) →
      wpAny (model prog w) (A.deeper env) (eval body env) Q (Le prog w A env E) { s with heap := h₁, toks := tk₁ }) :
    wpAny (model prog w) A (call (.ref a) args) Q E s := by
  obtain ⟨f5, f8, f9, f10, fk⟩ := fn_facts hf
  have lim : s.heap.NoLimit := by
    obtain ⟨mc, hn, hl⟩ := B.lim
    exact ⟨mc, Base.ns T hn (by decide) (by decide), hl⟩
  exact (call_cellsE (fd := fd) (body := body) (binds := ps.zip vs) (by have := R.dp; omega) ho hd lim hcd hbody hbind f5 (fk _ _) (fun s₁ C => let ⟨O, F, kk, n⟩ := in_frame T lv hf hr C; kopen (P := fun s₁ => FR _ fd.scope.names _ s₁.heap (ps.zip ds) → _) kk (fun h₁ tk₁ hk F => h _ _ h₁ tk₁ rfl rfl O F hk n) F) f8 f9 f10)

end
end Mine
end

-- Lam2
section
open PySem PySem.W PyProof.Rows PySem.Calls PySem.SeqAt
set_option maxRecDepth 100000
namespace Mine
/-- the base, with its two tables still empty -/
structure BaseT (P : Params) (h₀ : Heap) : Prop extends Base P h₀ where
  tab1 : h₀.get? 137 = some (tabObj #[])
  tab2 : h₀.get? 147 = some (tabObj #[])
  bat : ∃ mg bm ob, h₀.Ns mainGlobals mg ∧ mg "__builtins__" = some (.ref bm) ∧ bm ≠ builtinsNs ∧ bm ≠ mainGlobals ∧ bm ≠ 137 ∧ bm ≠ 147 ∧ h₀.get? bm = some ob ∧ ob.cls = .type "module" ∧ ob.dict = some builtinsNs ∧ ob.data = .plain
theorem cdHd1 {P : Params} {h : Heap} (X : (K P).In h) : CodeHd h 139 137 := by
  have : ∃ o vs file tf flags tg inF text tt, (K P).lookup 139 = some o ∧ o.cls = .type "code" ∧ o.data = .fields vs ∧ vs[11]? = some (.ref 137) ∧ vs.getD 11 .none = .ref 137 ∧ vs.getD 18 .none = .str file tf ∧
    vs.getD 7 .none = .int flags tg ∧ vs.getD 9 .none = .bool inF ∧ vs.getD 10 .none = .int text tt ∧ (139 : Addr) ≠ 137 := ⟨_, _, _, _, _, _, _, _, _, rfl, rfl, rfl, rfl, rfl, rfl, rfl, rfl, rfl, by decide⟩
  obtain ⟨o, vs, file, tf, flags, tg, inF, text, tt, h1, h2⟩ := this
  exact ⟨o, vs, file, tf, flags, tg, inF, text, tt, X 139 o h1, h2⟩
theorem cdHd2 {P : Params} {h : Heap} (X : (K P).In h) : CodeHd h 149 147 := by
  have : ∃ o vs file tf flags tg inF text tt, (K P).lookup 149 = some o ∧ o.cls = .type "code" ∧ o.data = .fields vs ∧ vs[11]? = some (.ref 147) ∧ vs.getD 11 .none = .ref 147 ∧ vs.getD 18 .none = .str file tf ∧
    vs.getD 7 .none = .int flags tg ∧ vs.getD 9 .none = .bool inF ∧ vs.getD 10 .none = .int text tt ∧ (149 : Addr) ≠ 147 := ⟨_, _, _, _, _, _, _, _, _, rfl, rfl, rfl, rfl, rfl, rfl, rfl, rfl, rfl, by decide⟩
  obtain ⟨o, vs, file, tf, flags, tg, inF, text, tt, h1, h2⟩ := this
  exact ⟨o, vs, file, tf, flags, tg, inF, text, tt, X 149 o h1, h2⟩
/-- a code record -/
noncomputable def CRec (q : Str) (oc : Obj) : Prop := ∃ vs t, oc.data = .fields vs ∧ vs[1]? = some (.str q t)
/-- the table knows the lambda at pos, or does not -/
noncomputable def Known (pos : Pos) (q : Str) (ps : Array Value) (h : Heap) (W : List Addr) : Prop :=
  TriplesOk ps.toList ∧ (codeAmong pos ps.toList = none ∨ ∃ c' oc, codeAmong pos ps.toList = some (.ref c') ∧ h.get? c' = some oc ∧ CRec q oc ∧ c' ∉ W ∧ c' ≠ 137 ∧ c' ≠ 147)
section
variable {prog : Program} {w : World} {h₀ : Heap} {A : Around} {s : Shared}
variable {W : List Addr} {sc : List (Str × NameKind)} {env : Env} {m : Mp}

theorem lam_make {c P : Addr} {ps : Array Value} {params : Arguments} {body : Expr} {scope : Scope} {pos : Pos} {Q E : Value → Shared → Prop} (BT : BaseT w.params h₀) (T : Tp h₀ s.heap) (F : FR W sc env s.heap m) (hP : P = 137 ∨ P = 147) (hcode : env.code = .ref c) (C : CodeHd s.heap c P)
    (hcl : closureFor scope env = pure []) (hdef : defaultsOf params env = ([], [])) (hps : s.heap.get? P = some (tabObj ps)) (kn : Known pos (env.qual ++ "<lambda>") ps s.heap W) (hL : env.locals ≠ P) (hc : ∀ y c, env.cells.lookup y = some c → c ≠ P) (hPW : P ∈ W)
    (hq : ∀ f c' oc ps' pm ctv h' tk, s.heap.get? f = none → h'.get? f = some (kla_obj "<lambda>" (env.qual ++ "<lambda>") params body scope [] pm c' ctv) → h'.get? c' = some oc → CRec (env.qual ++ "<lambda>") oc → c' ∉ W → c' ≠ 137 → c' ≠ 147 → KX [P] s.heap h' → FR W sc env h' m → h'.get? P = some (tabObj ps') → Known pos (env.qual ++ "<lambda>") ps' h' W → Q (.ref f) { s with heap := h', toks := tk }) :
    wpAny (model prog w) A (eval (.Lambda params body scope pos) env) Q E s := by
  obtain ⟨mg, bm, ob, b1, b2, b3, b4, b5, b6, b7, b8, b9, b10⟩ := BT.bat
  have hg : s.heap.Ns mainGlobals mg := Base.ns T b1 (by decide) (by decide)
  have hbm : s.heap.get? bm = some ob := T.all bm ob b5 b6 b7
  have hgP : mainGlobals ≠ P := by rcases hP with rfl | rfl <;> decide
  have hbP : bm ≠ P := by rcases hP with rfl | rfl <;> assumption
  have hBA : s.heap.BuiltinsAt mg P := ⟨bm, ob, b2, b3, b4, hbP, hbm, b8, b9, b10⟩
  obtain ⟨ht, hkn⟩ := kn
  have Fof : ∀ {h' : Heap}, KX [P] s.heap h' → (∃ o, h'.get? P = some o) → FR W sc env h' m := fun kx al => F.but (X := [P]) kx (by simpa using hPW) (by simpa using hL) (fun y c e => by simpa using hc y c e) (by simpa using al)
  refine kla_eval hdef ?_
  rcases hkn with hnf | ⟨c', oc, hf, hoc, hrec, hcW, hc1, hc2⟩
  · refine kla_makeFunction hcl F.globs hg hcode C hps ht hnf hgP hBA fun c' ctv h' tk hx hge hlt hrec htb => ?_
    obtain ⟨c₂, oc, vs, t, e2, hoc, hd, hv⟩ := hrec
    cases e2
    have nol : ∀ {b}, s.heap.objs.size ≤ b → s.heap.get? b = none := fun {b} hb => by
      cases e : s.heap.get? b with
      | none => rfl
      | some o => exact absurd (Heap.lt_size e) (Nat.not_lt.mpr hb)
    have hf : s.heap.get? h'.objs.size = none := nol (Nat.le_trans hge (Nat.le_of_lt hlt))
    have hcW : c' ∉ W := fun q => by obtain ⟨o, e⟩ := F.live c' q; rw [nol hge] at e; cases e
    have kx : KX [P] s.heap (h'.push (kla_obj "<lambda>" (env.qual ++ "<lambda>") params body scope [] ((mg "__name__").getD .none) c' ctv)) := fun b o nb e => Heap.get?_push_of_some _ (hx b o (by simpa using nb) e)
    have hc1 : c' ≠ 137 := fun q => by obtain ⟨o, e⟩ := T.l1; rw [← q, nol hge] at e; cases e
    have hc2 : c' ≠ 147 := fun q => by obtain ⟨o, e⟩ := T.l2; rw [← q, nol hge] at e; cases e
    refine hq _ c' oc _ _ ctv _ tk hf (Heap.get?_push_size _ rfl) (Heap.get?_push_of_some _ hoc) ⟨vs, t, hd, hv⟩ hcW hc1 hc2 kx (Fof kx ⟨_, Heap.get?_push_of_some _ htb⟩) (Heap.get?_push_of_some _ htb) ⟨?_, .inr ⟨c', oc, ?_, Heap.get?_push_of_some _ hoc, ⟨vs, t, hd, hv⟩, hcW, hc1, hc2⟩⟩
    · simp only [Array.toList_append]
      exact TriplesOk_snoc _ _ _ ps.toList ht
    · simp only [Array.toList_append]
      exact codeAmong_snoc ps.toList ht hnf
  · refine kla_makeFunctionHit hcl F.globs hg hcode C hps ht hf hBA fun ctv h' tk hk hsz => ?_
    have hf' : s.heap.get? h'.objs.size = none := by
      cases e : s.heap.get? h'.objs.size with
      | none => rfl
      | some o => exact absurd (Heap.lt_size e) (Nat.not_lt.mpr hsz)
    have kp : ∀ b o, s.heap.get? b = some o → (h'.push { cls := .type "function", data := .func (kla_fn "<lambda>" (env.qual ++ "<lambda>") params body scope [] ((mg "__name__").getD .none) (.ref c') ctv) }).get? b = some o := fun b o e => Heap.get?_push_of_some _ (hk b o e)
    exact hq _ c' oc ps _ ctv _ tk hf' (Heap.get?_push_size _ rfl) (kp _ _ hoc) hrec hcW hc1 hc2 (KX.of kp) (F.keep kp) (kp _ _ hps) ⟨ht, .inr ⟨c', oc, hf, kp _ _ hoc, hrec, hcW, hc1, hc2⟩⟩
end
end Mine
end

-- Lam3
section
open PySem PySem.W PyProof.Rows PySem.Calls PySem.SeqAt
set_option maxRecDepth 100000
namespace Mine
theorem linS : Lin ltS where
  irr := fun a => by simp [ltS]
  tr := fun a b c h1 h2 => by simp only [ltS, decide_eq_true_eq] at *; exact List.lt_trans h1 h2
  tri := fun a b h1 h2 => by
    simp only [ltS, decide_eq_false_iff_not] at *
    have := List.le_antisymm h2 h1
    cases a; cases b
    simp only [Str.mk.injEq] at *
    exact Array.toList_inj.mp this
theorem Frs.enter {A : Around} {W Y : List Addr} {h h₁ : Heap} {fr : List Env} {sc : List (Str × NameKind)} {env : Env} {m : Mp} (fs : Frs A W h fr) (F : FR (Y ++ W) sc env h₁ m) (hk : ∀ b o, h.get? b = some o → h₁.get? b = some o) (hf : env.frame = some env.locals) : Frs (A.deeper env) (Y ++ W) h₁ (env :: fr) := by
  have fo : FO (Y ++ W) [] h₁ fr := fun e he => by
    obtain ⟨q0, L, oL, q1, q2, q3, q4⟩ := fs.ok e he
    exact ⟨q0, L, oL, q1, List.mem_append_right _ q2, by simp, hk L oL q3, q4⟩
  exact fo.frs F hf (by show A.frames.map _ = _; rw [fs.eq]; rfl)
theorem Frs.ks {A : Around} {W X : List Addr} {h h' : Heap} {fr : List Env} (f : Frs A W h fr) (k : KS X h h') : Frs A W h' fr :=
  f.keep (fun _ hb => hb) fun b o _ e => by obtain ⟨sl, e'⟩ := k.any e; exact ⟨_, e', rfl⟩
theorem Tp.ks {h₀ h h' : Heap} {X : List Addr} (T : Tp h₀ h) (k : KS X h h') (hX : ∀ b ∈ X, h₀.get? b = none) : Tp h₀ h' := T.kx (Y := X) (fun b o nb e => k.out b o nb e) hX
theorem xs_enter {h₀ : Heap} {Y W : List Addr} {fr : List Env} {env : Env} (O : Own h₀ Y (Y ++ W) env) (hf : env.frame = some env.locals) (hz : ∀ b ∈ Xs fr, h₀.get? b = none) : ∀ b ∈ Xs (env :: fr), h₀.get? b = none := fun b hb => by
  rw [Xs, List.filterMap_cons, hf] at hb
  rcases List.mem_cons.mp hb with rfl | hb
  · exact O.new _ O.loc
  · exact hz b hb
/-- what a frame leaves, seen from outside -/
theorem KS.leave {Y : List Addr} {fr : List Env} {env : Env} {h h₁ h' : Heap} (hf : env.frame = some env.locals) (hL : env.locals ∈ Y) (hY : ∀ b ∈ Y, h.get? b = none) (hk : ∀ b o, h.get? b = some o → h₁.get? b = some o) (k : KS (Xs (env :: fr)) h₁ h') : KS (Xs fr) h h' where
  out := fun b o nb e => k.out b o (fun q => by
    rw [Xs, List.filterMap_cons, hf] at q
    rcases List.mem_cons.mp q with q | q
    · rw [q, hY _ hL] at e; cases e
    · exact nb q) (hk b o e)
  ins := fun b o mb e => k.ins b o (by rw [Xs, List.filterMap_cons, hf]; exact List.mem_cons_of_mem _ mb) (hk b o e)
section
variable {prog : Program} {w : World} {A : Around} {h₀ : Heap} {k : Nat}
variable {W Y : List Addr} {sc : List (Str × NameKind)} {env : Env} {m : Mp} {s : Shared} {fr : List Env}

theorem call_fnF {ev : Expr → Option D} (H : ES prog w A W sc env m h₀ ev) (B : Base w.params h₀) (R : Room A k) (Fr : FR W sc env s.heap m) (T : Tp h₀ s.heap) (fs : Frs A W s.heap fr) (hz : ∀ b ∈ Xs fr, h₀.get? b = none)
    {f : Str} {p pos : Pos} {args : List Expr} {ds : List D} {a : Addr} {o : Obj} {fd : FuncData} {d : D} {Q E : Value → Shared → Prop} (hn : nsIn (K w.params) mainGlobals f = some (some (.ref a))) (hl : (K w.params).lookup a = some o) (hdat : o.data = .func fd)
    (hc : CallF prog w h₀ k a ds d) (hf : sc.lookup f = some .globalImplicit) (hd : f ≠ "__debug__") (hs : args.all noStar = true) (ha : pevs ev args = some ds)
    (hq : ∀ v h' tk, KS (Xs fr) s.heap h' → FR W sc env h' m → Rep W h' d v → Q v { s with heap := h', toks := tk }) :
    wpAny (model prog w) A (eval (.Call (.Name f p) args [] pos) env) Q E s := by
  rw [arm_eval_Call_Name']
  refine wpAny_bind (glob_val B Fr T hf hd hn ?_)
  refine callWith_function (o := o) (fd := fd) (evalArgs_ok H hs ha Fr T fun vs s' k1 r1 => ⟨⟨B.kin (T.keep (kall k1)) a o hl, hdat⟩, ?_⟩)
  obtain ⟨h₁, tk₁, rfl, hk₁⟩ := k1
  refine hc A W _ _ fr _ _ R (fs.ks (KS.of hk₁ : KS [] _ _)) hz (T.keep hk₁) (Live.keep Fr.live hk₁) (by simpa using r1) fun v => kforS fun h₂ tk₂ ks₂ r2 => ?_
  have ks : KS (Xs fr) s.heap h₂ := (KS.of hk₁).trans ks₂
  exact hq v h₂ tk₂ ks (Fr.ks ks fs.sub) r2
end

/-- lambda left, part: sorted_list_difference(left, part)[0] -/
noncomputable def SldStep (acc el acc' : D) : Prop := ∃ xs ys, acc = S xs ∧ el = S ys ∧ acc' = S (dif ltS xs ys).1
noncomputable def SldInv (_ : Nat) (d : D) : Prop := ∃ xs, d = S xs ∧ Rising ltS xs ∧ xs.length ≤ 1000
theorem dif_len {xs ys : List Str} (hx : Rising ltS xs) (hy : Rising ltS ys) : (dif ltS xs ys).1.length ≤ xs.length ∧ (dif ltS xs ys).2.length ≤ ys.length ∧ Rising ltS (dif ltS xs ys).1 := by
  rw [dif_filter linS xs ys hx hy]
  exact ⟨List.length_filter_le _ _, List.length_filter_le _ _, hx.filter _⟩
noncomputable def lamBody (e : Expr) : Expr := exH e
noncomputable def lamScope (e : Expr) : Scope := (exX e).2.2.1
noncomputable def lamParams (e : Expr) : Arguments := (exX e).2.2.2
section
variable {prog : Program} {w : World} {h₀ : Heap} {k : Nat}
theorem sldS_call (B : Base w.params h₀) {xs ys : List Str} (hx : Rising ltS xs) (hy : Rising ltS ys) (lx : xs.length ≤ 1000) (ly : ys.length ≤ 1000) : CallF prog w h₀ (k + 1) 79 [S xs, S ys] (.tup [S (dif ltS xs ys).1, S (dif ltS xs ys).2]) := by
  obtain ⟨a, b, _⟩ := dif_len hx hy
  exact sld_call ordS B (by unfold bound; omega) (by unfold bound; omega) (rising_step linS hx) (rising_step linS hy)
theorem sldZ_call (B : Base w.params h₀) {xs ys : List Int} (hx : Rising ltZ xs) (hy : Rising ltZ ys) (lx : xs.length ≤ 1000) (ly : ys.length ≤ 1000) : CallF prog w h₀ (k + 1) 79 [Z xs, Z ys] (.tup [Z (dif ltZ xs ys).1, Z (dif ltZ xs ys).2]) := by
  have e := dif_filter linZ xs ys hx hy
  exact sld_call ordZ B (by rw [e]; have := List.length_filter_le (fun x => !ys.contains x) xs; unfold bound; dsimp only; omega) (by rw [e]; have := List.length_filter_le (fun x => !xs.contains x) ys; unfold bound; dsimp only; omega) (rising_step linZ hx) (rising_step linZ hy)
end
end Mine
end

-- Lam4
section
open PySem PySem.W PyProof.Rows PySem.Calls PySem.SeqAt
set_option maxRecDepth 100000
namespace Mine
noncomputable abbrev lamE1 (P : Params) : Expr := (callArgs (asgVal ((forBody ((bodyOf P 140).drop 1)).drop 2))).headD default
section
variable {prog : Program} {w : World} {h₀ : Heap} {k : Nat}
theorem lam1_fun (B : Base w.params h₀) {fa c' : Addr} {oc : Obj} {q : Str} {pm ctv : Value} {params : Arguments} {body : Expr} {scope : Scope} (e1 : params = lamParams (lamE1 w.params)) (e2 : body = lamBody (lamE1 w.params)) (e3 : scope = lamScope (lamE1 w.params)) (hr : CRec q oc) {N : Nat} :
    FunC prog w h₀ (k + 2) fa [(fa, kla_obj "<lambda>" q params body scope [] pm c' ctv), (c', oc)] SldStep SldInv (SldInv 0) N := by
  intro A W s va ve acc el j fr Q E _ hacc hel R fs hz T lv st ra re hq
  obtain ⟨xs, rfl, hx, lx⟩ := hacc
  obtain ⟨ys, rfl, hy, ly⟩ := hel
  have ho := st (fa, _) List.mem_cons_self
  have hoc := st (c', oc) (List.mem_cons_of_mem _ List.mem_cons_self)
  obtain ⟨cv, ct, hcd, hcq⟩ := hr
  refine call_frameE (fd := kla_fn "<lambda>" q params body scope [] pm (.ref c') ctv) (body := body) (ps := ["left", "part"]) (ds := [S xs, S ys]) (vs := [va, ve]) B R T lv ho rfl ⟨c', oc, cv, ct, rfl, hoc, hcd, hcq⟩ rfl (by subst e3; kernel_rfl) (by subst e1; kernel_rfl) (Reps.cons ra (Reps.one re)) fun Y env h₁ tk₁ hY henv O Fr hk₁ hYn => ?_
  subst e1 e2 e3
  have R' := R.deeper env
  have T₁ := T.keep hk₁
  have hf : env.frame = some env.locals := by rw [henv]; rfl
  have fs₁ := fs.enter Fr hk₁ hf
  obtain ⟨o79, a79, b79⟩ := at79 w.params
  obtain ⟨EV, _⟩ := ev_sound (prog := prog) (k := k + 1) (F := M0) (M := M0) B F0_ok M0_ok 5
  refine sub_rule (call_fnF (s := { s with heap := h₁, toks := tk₁ }) (d := .tup [S (dif ltS xs ys).1, S (dif ltS xs ys).2]) (k := k + 1) (EV R') B R' Fr T₁ fs₁ (xs_enter O hf hz) (gl79 _) a79 b79 (sldS_call B hx hy lx ly) (by kernel_rfl) (by decide) rfl (evs_cons (v_name rfl (by decide)) (evs_cons (v_name rfl (by decide)) evs0)) fun v h₂ tk₂ ks₂ F₂ r₂ => wpAny_Constant_int ?_)
  refine idx_ok (s := { s with heap := h₂, toks := tk₂ + 1 }) (a := .tup [S (dif ltS xs ys).1, S (dif ltS xs ys).2]) (b := .int 0) (d := S (dif ltS xs ys).1) rfl r₂ rep_int fun v' => kfor fun h₃ tk₃ hk₃ r₃ => ?_
  obtain ⟨l1, _, l3⟩ := dif_len hx hy
  refine hq _ ⟨xs, ys, rfl, rfl, rfl⟩ ⟨_, rfl, l3, by omega⟩ v' _ ⟨h₃, tk₃, rfl, (KS.leave hf O.loc hYn hk₁ ks₂).trans (KS.of hk₃)⟩ (r₃.off fun b hb => .inl (List.mem_append_right _ hb))
end
end Mine
end

-- Pairs
section
open PySem PySem.W PyProof.Rows PySem.Calls PySem.SeqAt
set_option maxRecDepth 100000
namespace Mine
noncomputable def tup2 (p : D × D) : D := .tup [p.1, p.2]
section
variable {prog : Program} {w : World} {A : Around} {s : Shared} {W Y : List Addr} {sc : List (Str × NameKind)} {env : Env} {m : List (Str × D)} {h₀ : Heap}

theorem src_pairs {s₁ : Shared} {ds : List (D × D)} {v : Value} {Q E : Value → Shared → Prop} (hh : A.handled = none) (lv : Live W s.heap) (k1 : Keeps s s₁) (r : Rep W s₁.heap (.lst (ds.map tup2)) v) (hq : ∀ it s₂ wr, SrcP prog w A W s ds it s₂ wr → Q it s₂) :
    wpAny (model prog w) A (pyIter v) Q E s₁ := by
  simp only [Rep] at r
  obtain ⟨l, its, rfl, hlW, hl, hrs⟩ := r
  refine wpAny_pyIter_list hl ?_
  obtain ⟨h₁, tk, rfl, hk⟩ := k1
  dsimp only at hl hrs hk ⊢
  have hI₁ := size_none h₁
  have hI : s.heap.get? h₁.objs.size = none := by
    cases e : s.heap.get? h₁.objs.size with
    | none => rfl
    | some o => rw [hk _ _ e] at hI₁; cases hI₁
  have hne : l ≠ h₁.objs.size := by
    rintro rfl
    obtain ⟨o, e, _⟩ := hl
    rw [hI₁] at e; cases e
  have len := hrs.length
  rw [Array.length_toList, List.length_map] at len
  have each : ∀ j, ∃ tv : Addr × Array Value, j < its.size → its[j]? = some (.ref tv.1) ∧ tv.1 ∉ W ∧ h₁.IsTuple tv.1 tv.2 ∧ ∃ d, ds[j]? = some d ∧ Reps W h₁ [d.1, d.2] tv.2.toList := fun j => by
    by_cases hj : j < its.size
    · have hd : ds[j]? = some (ds[j]'(by omega)) := List.getElem?_eq_getElem (by omega)
      generalize ds[j]'(by omega) = d at hd
      obtain ⟨u, hu, ru⟩ := hrs.get (i := j) (d := tup2 d) (by rw [List.getElem?_map, hd]; rfl)
      rw [Array.getElem?_toList] at hu
      simp only [tup2, Rep] at ru
      obtain ⟨T, vs, rfl, hT, ht, rs⟩ := ru
      exact ⟨(T, vs), fun _ => ⟨hu, hT, ht, d, hd, rs⟩⟩
    · exact ⟨(0, #[]), fun q => absurd q hj⟩
  obtain ⟨tv, htv⟩ := Classical.axiomOfChoice each
  have nI : ∀ j, j < its.size → (tv j).1 ≠ h₁.objs.size := fun j hj q => by
    obtain ⟨_, _, ⟨o, e, _⟩, _⟩ := htv j hj
    rw [q, hI₁] at e; cases e
  have kp : ∀ b o, h₁.get? b = some o → (h₁.push { cls := .type "list_iterator", data := .fields #[.ref l, .int 0 0] }).get? b = some o := fun b o e => Heap.get?_push_of_some _ e
  refine hq _ _ [h₁.objs.size] ⟨h₁.objs.size, _, its.size, _, _, _, rfl, WalksU.listOfTuples hh h₁.objs.size l hne its (fun j => (tv j).1) (fun j => (tv j).2) (fun j hj => (htv j hj).1) nI, ?_, len.symm, ⟨⟨_, Heap.get?_push_size _ rfl, rfl, rfl⟩, hl.push _, fun j hj => (htv j hj).2.2.1.push _⟩, ⟨_, _, rfl, fun b o e => kp b o (hk b o e)⟩, by simpa using hI, ?_, ?_⟩
  · intro i h st b hb
    simp at hb; subst hb
    obtain ⟨⟨o, e, _⟩, _⟩ := st
    exact ⟨o, e⟩
  · intro b hb
    rcases List.mem_cons.mp hb with rfl | hb
    · exact ⟨fun q => (by obtain ⟨o, e⟩ := lv _ q; rw [hI] at e; cases e), ⟨_, Heap.get?_push_size _ rfl⟩⟩
    · rcases List.mem_cons.mp hb with rfl | hb
      · obtain ⟨o, e, _⟩ := hl
        exact ⟨hlW, o, kp _ _ e⟩
      · obtain ⟨j, hj, rfl⟩ := List.mem_map.mp hb
        obtain ⟨_, q, ⟨o, e, _⟩, _⟩ := htv j (List.mem_range.mp hj)
        exact ⟨q, o, kp _ _ e⟩
  · intro i vals hi hv
    subst hv
    obtain ⟨_, _, _, d, hd, rs⟩ := htv i hi
    simp only [Reps] at rs
    obtain ⟨u, _, e1, ru, v, _, rfl, rv, rfl⟩ := rs
    refine ⟨u, v, d, Array.toList_inj.mp e1, hd, ?_, ?_⟩
    · exact (ru.off fun b hb => by
        rcases List.mem_append.mp hb with hb | hb
        · simp at hb; rw [hb]; exact .inr hI₁
        · exact .inl hb).mono (KX.of kp)
    · exact (rv.off fun b hb => by
        rcases List.mem_append.mp hb with hb | hb
        · simp at hb; rw [hb]; exact .inr hI₁
        · exact .inl hb).mono (KX.of kp)
end
theorem at145 (P : Params) : ∃ o, (K P).lookup 145 = some o ∧ o.data = .func (fdOf P 145) := ⟨_, rfl, rfl⟩
theorem bd145 (P : Params) : (fdOf P 145).body = .stmts (bodyOf P 145) := rfl
theorem ok145 (P : Params) : fnOk ["let"] (fdOf P 145) = true := by kernel_rfl
theorem cd145 (P : Params) : codeIn (K P) (fdOf P 145).code (fdOf P 145).qualname = true := by kernel_rfl
theorem bi145 (P : Params) (vs : List Value) (h : vs.length = 1) : bindArgs (fdOf P 145) ⟨vs, []⟩ = pure ((["let"] : List Str).zip vs) := by
  obtain ⟨a, rfl⟩ := len1 h
  kernel_rfl
theorem gl145 (P : Params) : nsIn (K P) mainGlobals "_law_pairs_are_right" = some (some (.ref 145)) := by kernel_rfl
noncomputable abbrev sc145 (P : Params) := (fdOf P 145).scope.names
noncomputable def letD (lt : List (List Int)) : D := .lst (lt.map Z)
noncomputable def pairsL (a b c : List Int) : List (List Int × List Int) := [(a, b), (b, c), (c, a)]
noncomputable def pairZ (p : List Int × List Int) : D × D := (Z p.1, Z p.2)
noncomputable def minus (a b : List Int) : List Int := a.filter fun x => !b.contains x
theorem peq_tupZ (a b c d : List Int) : pcmp .NotEq (.tup [Z a, Z b]) (.tup [Z c, Z d]) = some (!((a == c) && (b == d))) := by
  show Option.map (!·) (if [Z a, Z b].length = [Z c, Z d].length then peqs (peq 7) [Z a, Z b] [Z c, Z d] else none) = _
  rw [if_pos (show [Z a, Z b].length = [Z c, Z d].length from rfl)]
  have e : peqs (peq 7) [Z a, Z b] [Z c, Z d] = some ((a == c) && ((b == d) && true)) := by
    simp only [peqs, peq_Z 5 a c, peq_Z 5 b d]
  rw [e]
  simp
theorem iter145 {F M : Str → List D → Option D} (P : Params) (a b c : List Int) : pev F M 40 (sc145 P) [(("let" : Str), letD [a, b, c])] (stH (bodyOf P 145)).1 = some (.lst (((pairsL a b c).map pairZ).map tup2)) := by
  kernel_rfl
theorem due145 {F M : Str → List D → Option D} (P : Params) (a b : List Int) (m : Mp) (la : a.length ≤ bound) (lb : b.length ≤ bound) : pev F M 40 (sc145 P) (("other", Z b) :: ("one", Z a) :: m) (asgVal (forBody (bodyOf P 145))) = some (.tup [Z (minus a b), Z (minus b a)]) := by
  refine v_tuple (by decide) (evs_cons ?_ (evs_cons ?_ evs0))
  · rw [show Z (minus a b) = .lst ((a.filter fun x => !b.contains x).map D.int) from rfl]
    exact v_comp (f := D.int) (L := a) (fun x => !b.contains x) D.int ⟨by kernel_rfl, .inl (by kernel_rfl), rfl⟩ (by kernel_rfl) la (fun x _ => ts1 (t_cmp (b := Z b) rfl (by kernel_rfl) (by kernel_rfl) (notIn_Z x b))) (fun x _ _ => by kernel_rfl)
  · rw [show Z (minus b a) = .lst ((b.filter fun x => !a.contains x).map D.int) from rfl]
    exact v_comp (f := D.int) (L := b) (fun x => !a.contains x) D.int ⟨by kernel_rfl, .inl (by kernel_rfl), rfl⟩ (by kernel_rfl) lb (fun x _ => ts1 (t_cmp (b := Z a) rfl (by kernel_rfl) (by kernel_rfl) (notIn_Z x a))) (fun x _ _ => by kernel_rfl)
end Mine
end

-- PairsC
section
open PySem PySem.W PyProof.Rows PySem.Calls PySem.SeqAt
set_option maxRecDepth 100000
namespace Mine
theorem FO.wide {W W' Z : List Addr} {h : Heap} {fr : List Env} (f : FO W Z h fr) (hW : ∀ b ∈ W, b ∈ W') : FO W' Z h fr := fun env he => by
  obtain ⟨q0, L, o, q1, q2, q3⟩ := f env he
  exact ⟨q0, L, o, q1, hW L q2, q3⟩
theorem Frs.fo {A : Around} {W Y : List Addr} {h h₁ : Heap} {fr : List Env} {Z : List Addr} (fs : Frs A W h fr) (hk : ∀ b o, h.get? b = some o → h₁.get? b = some o) (hZ : ∀ b ∈ Z, b ∈ Xs fr → h.get? b = none) : FO (Y ++ W) Z h₁ fr := fun e he => by
  obtain ⟨q0, L, oL, q1, q2, q3, q4⟩ := fs.ok e he
  refine ⟨q0, L, oL, q1, List.mem_append_right _ q2, fun q => ?_, hk L oL q3, q4⟩
  rw [hZ L q (List.mem_filterMap.mpr ⟨e, he, q1⟩)] at q3; cases q3
theorem KT.leave {Y Zs : List Addr} {fr : List Env} {env : Env} {h h₁ h' : Heap} (hf : env.frame = some env.locals) (hL : env.locals ∈ Y) (hY : ∀ b ∈ Y, h.get? b = none) (hk : ∀ b o, h.get? b = some o → h₁.get? b = some o) (k : KT (Xs (env :: fr)) (Y ++ Zs) h₁ h') : KT (Xs fr) Zs h h' where
  out := fun b o nz nb e => k.out b o (fun q => by
    rcases List.mem_append.mp q with q | q
    · rw [hY b q] at e; cases e
    · exact nz q) (fun q => by
    rw [Xs, List.filterMap_cons, hf] at q
    rcases List.mem_cons.mp q with q | q
    · rw [q, hY _ hL] at e; cases e
    · exact nb q) (hk b o e)
  ins := fun b o nz mb e => k.ins b o (fun q => by
    rcases List.mem_append.mp q with q | q
    · rw [hY b q] at e; cases e
    · exact nz q) (by rw [Xs, List.filterMap_cons, hf]; exact List.mem_cons_of_mem _ mb) (hk b o e)
theorem KT.toKS {X : List Addr} {h h' : Heap} (k : KT X [] h h') : KS X h h' := ⟨fun b o nb e => k.out b o (by simp) nb e, fun b o mb e => k.ins b o (by simp) mb e⟩
/-- what is written afresh, or by the frame itself, does not break KT -/
theorem KT.fresh {X Y Z F : List Addr} {h h₁ h₂ : Heap} (k : KT X Z h h₁) (kx : KX (F ++ Y) h₁ h₂) (hF : ∀ b ∈ F, h.get? b = none) (hY : ∀ b ∈ Y, b ∈ Z) : KT X Z h h₂ where
  out := fun b o nz nb e => kx b o (fun q => by
    rcases List.mem_append.mp q with q | q
    · rw [hF b q] at e; cases e
    · exact nz (hY b q)) (k.out b o nz nb e)
  ins := fun b o nz mb e => by
    obtain ⟨sl, e'⟩ := k.ins b o nz mb e
    exact ⟨sl, kx b _ (fun q => by
      rcases List.mem_append.mp q with q | q
      · rw [hF b q] at e; cases e
      · exact nz (hY b q)) e'⟩
noncomputable def Good (a b c : List Int) : Prop := ∀ l ∈ [a, b, c], Rising ltZ l ∧ l.length ≤ 16
section
variable {prog : Program} {w : World} {h₀ : Heap} {k : Nat}
theorem pairs_call (B : Base w.params h₀) {a b c : List Int} (hg : Good a b c) : CallF prog w h₀ (k + 2) 145 [letD [a, b, c]] (.bool true) := by
  intro A W s vs fr Q E R fs hfz T lv hr hq
  obtain ⟨o, h1, h2⟩ := at145 w.params
  refine call_frame (ps := ["let"]) B R T lv h1 h2 (cd145 _) (bd145 _) (ok145 _) (bi145 _ vs hr.length) hr fun Y env h₁ tk₁ hY henv O Fr hk₁ hYn => ?_
  have R' := R.deeper env
  have T₁ := T.keep hk₁
  have hf : env.frame = some env.locals := by rw [henv]; rfl
  have hA : (A.deeper env).frames = some (env :: fr) := by show A.frames.map _ = _; rw [fs.eq]; rfl
  have hz := xs_enter O hf hfz
  have fo₁ : FO (Y ++ W) Y h₁ fr := fs.fo hk₁ fun b hb _ => hYn b hb
  obtain ⟨EV, TS⟩ := ev_sound (prog := prog) (k := k + 1) (F := M0) (M := M0) B F0_ok M0_ok 40
  obtain ⟨o79, a79, b79⟩ := at79 w.params
  have xsW : ∀ b ∈ Xs fr, b ∈ Y ++ W := fun b hb => List.mem_append_right _ (fs.sub b hb)
  have xe : ∀ b ∈ Xs (env :: fr), b = env.locals ∨ b ∈ Xs fr := fun b hb => by
    rw [Xs, List.filterMap_cons, hf] at hb
    exact List.mem_cons.mp hb
  refine ec (for_pair (s := { s with heap := h₁, toks := tk₁ }) (ds := (pairsL a b c).map pairZ) (Xs fr) (fun _ _ _ h => KT (Xs (env :: fr)) Y h₁ h) (fun _ _ => False) O R'.hd Fr (by kernel_rfl) (by kernel_rfl) rfl xsW ?_ ?_ ?_ ?_ ?_ ?_)
  · intro Q' hq'
    exact EV R' (iter145 w.params a b c) Fr T₁ fun v s₂ k₂ r₂ => src_pairs R'.hd Fr.live k₂ r₂ hq'
  · intro X j m h h' hX kt kx
    exact kt.fresh kx hX fun b hb => hb
  · intro X h' _ hk
    exact KT.kx (KX.of hk) (Z' := []) (by simp)
  · intro X j d m' s₂ E' hX hd kt F₂ hs₂ kx₂
    obtain ⟨h₂, tk₂, rfl⟩ := hs₂
    dsimp only at hX kt F₂ kx₂
    obtain ⟨p, hp, rfl⟩ : ∃ p ∈ pairsL a b c, d = pairZ p := by
      have := List.mem_of_getElem? hd
      obtain ⟨p, hp, rfl⟩ := List.mem_map.mp this
      exact ⟨p, hp, rfl⟩
    have gp : (Rising ltZ p.1 ∧ p.1.length ≤ 16) ∧ (Rising ltZ p.2 ∧ p.2.length ≤ 16) := by
      simp only [pairsL, List.mem_cons, List.not_mem_nil, or_false] at hp
      rcases hp with rfl | rfl | rfl
      · exact ⟨hg a (by simp), hg b (by simp)⟩
      · exact ⟨hg b (by simp), hg c (by simp)⟩
      · exact ⟨hg c (by simp), hg a (by simp)⟩
    obtain ⟨⟨r1, l1⟩, r2, l2⟩ := gp
    have tp : ∀ {h'}, KT (Xs (env :: fr)) Y h₁ h' → Tp h₀ h' := fun kt => T₁.kx (Y := Y ++ Xs (env :: fr)) (fun b o nb e => kt.out b o (fun q => nb (List.mem_append_left _ q)) (fun q => nb (List.mem_append_right _ q)) e) fun b hb => by
      rcases List.mem_append.mp hb with hb | hb
      · exact O.new b hb
      · exact hz b hb
    have O₂ : Own h₀ Y (X ++ (Y ++ W)) env := O.grow
    -- due
    refine ec (assign_ok (s := { s with heap := h₂, toks := tk₂ }) (n := 40) (d := .tup [Z (minus p.1 p.2), Z (minus p.2 p.1)]) (k := k + 1) B (F := M0) (M := M0) F0_ok M0_ok R' O₂ F₂ (tp kt) (by kernel_rfl) (due145 w.params p.1 p.2 m' (Nat.le_trans l1 (by decide)) (Nat.le_trans l2 (by decide))) fun h₃ tk₃ F₃ k₃ => ?_)
    have kt₃ : KT (Xs (env :: fr)) Y h₁ h₃ := kt.fresh (F := []) k₃ (by simp) fun b hb => hb
    have fs₃ : Frs (A.deeper env) (X ++ (Y ++ W)) h₃ (env :: fr) := ((fo₁.kt kt₃).wide fun b hb => List.mem_append_right _ hb).frs F₃ hf hA
    refine ec (wpAny_If (wpAny_isTrue_Compare1 (call_fnF (s := { s with heap := h₃, toks := tk₃ }) (d := .tup [Z (dif ltZ p.1 p.2).1, Z (dif ltZ p.1 p.2).2]) (k := k + 1) (EV R') B R' F₃ (tp kt₃) fs₃ hz (gl79 _) a79 b79 (sldZ_call B r1 r2 (by omega) (by omega)) (by kernel_rfl) (by decide) rfl (evs_cons (v_name rfl (by decide)) (evs_cons (v_name rfl (by decide)) evs0)) fun v h₄ tk₄ ks₄ F₄ r₄ => wpAny_Name (FR.load (s := { s with heap := h₄, toks := tk₄ }) F₄ (x := "due") (d := .tup [Z (minus p.1 p.2), Z (minus p.2 p.1)]) rfl (by decide) fun z rz => ?_) (by decide))))
    have ec : pcmp .NotEq (.tup [Z (dif ltZ p.1 p.2).1, Z (dif ltZ p.1 p.2).2]) (.tup [Z (minus p.1 p.2), Z (minus p.2 p.1)]) = some false := by
      rw [peq_tupZ, dif_filter linZ p.1 p.2 r1 r2]
      simp [minus]
    refine cmp_ok (s := { s with heap := h₄, toks := tk₄ }) R'.cmp ec r₄ rz (wpAny_truthy_bool ?_)
    rw [if_neg (by decide)]
    refine wpAny_execs_nil (wpAny_execs_nil ⟨h₄, tk₄, rfl, fun b o nb e => ?_, _, F₄, kt₃.trans (KT.ks ks₄)⟩)
    refine ks₄.out b o (fun q => ?_) (k₃ b o (fun q => nb (List.mem_append_left _ q)) e)
    rcases xe b q with rfl | q
    · exact nb (List.mem_append_left _ O.loc)
    · exact nb (List.mem_append_right _ q)
  · intro X h' tk m' F' kt kx
    refine ec (wpAny_Return_some (wpAny_Constant_bool ?_))
    refine hq _ _ ⟨h', tk, rfl, (KT.leave (Zs := []) hf O.loc hYn hk₁ (by simpa using kt)).toKS⟩ rep_bool
  · intro v h' tk hR
    exact hR.elim
end
end Mine
end

-- Parts
section
open PySem PySem.W PyProof.Rows PySem.Calls PySem.SeqAt
set_option maxRecDepth 100000
namespace Mine
theorem at140 (P : Params) : ∃ o, (K P).lookup 140 = some o ∧ o.data = .func (fdOf P 140) := ⟨_, rfl, rfl⟩
theorem bd140 (P : Params) : (fdOf P 140).body = .stmts (bodyOf P 140) := rfl
theorem ok140 (P : Params) : fnOk ["let", "wishes", "names"] (fdOf P 140) = true := by kernel_rfl
theorem cd140 (P : Params) : codeIn (K P) (fdOf P 140).code (fdOf P 140).qualname = true := by kernel_rfl
theorem cod140 (P : Params) : (fdOf P 140).code = .ref 139 := rfl
theorem bi140 (P : Params) (vs : List Value) (h : vs.length = 3) : bindArgs (fdOf P 140) ⟨vs, []⟩ = pure ((["let", "wishes", "names"] : List Str).zip vs) := by
  obtain ⟨a, b, c, rfl⟩ := len3 h
  kernel_rfl
theorem gl140 (P : Params) : nsIn (K P) mainGlobals "_law_parts_are_right" = some (some (.ref 140)) := by kernel_rfl
noncomputable abbrev sc140 (P : Params) := (fdOf P 140).scope.names
noncomputable abbrev for140 (P : Params) : List Stmt := forBody ((bodyOf P 140).drop 1)
noncomputable def namesD : D := .lst ((i16.map lettersL).map S)
theorem names_at {i : Int} (hi : i ∈ i16) : pidx namesD (.int i) = some (S (lettersL i)) := by
  simp only [i16, List.mem_cons, List.not_mem_nil, or_false] at hi
  rcases hi with rfl | rfl | rfl | rfl | rfl | rfl | rfl | rfl | rfl | rfl | rfl | rfl | rfl | rfl | rfl | rfl <;> kernel_rfl
theorem letters_rising {i : Int} (hi : i ∈ i16) : Rising ltS (lettersL i) ∧ (lettersL i).length ≤ 4 := by
  simp only [i16, List.mem_cons, List.not_mem_nil, or_false] at hi
  rcases hi with rfl | rfl | rfl | rfl | rfl | rfl | rfl | rfl | rfl | rfl | rfl | rfl | rfl | rfl | rfl | rfl <;> decide +kernel
noncomputable def commonL (a b c : List Int) : List Int := a.filter fun x => b.contains x && c.contains x
noncomputable def partsOf (cm : List Int) (which : Int) : List (List Str) := (cm.filter fun p => Builtin.bitAnd p which == p).map lettersL
noncomputable def fallenL (letters : List Str) (ps : List (List Str)) : List Str := ps.foldl (fun l p => (dif ltS l p).1) letters
noncomputable def minusS (a b : List Str) : List Str := a.filter fun x => !b.contains x
noncomputable def five : List Int := [7, 11, 13, 14, 15]
theorem five_sub {i : Int} (h : i ∈ five) : i ∈ i16 := by simp [five] at h; rcases h with rfl | rfl | rfl | rfl | rfl <;> decide

section
variable {F M : Str → List D → Option D} {n : Nat}
theorem free_lookup {scope : Scope} {m : Mp} {x : Str} {d : D} (hf : scope.names.lookup x = some .free) (h : m.lookup x = some d) : (freeOf scope m).lookup x = some d := by
  unfold freeOf
  rw [lookup_filter (q := fun y => scope.names.lookup y == some .free)]
  rw [hf]; simpa using h
theorem common140 (P : Params) (a b c : List Int) (ws nm : D) (ha : a.length ≤ bound) : pev F M 40 (sc140 P) ((["let", "wishes", "names"] : List Str).zip [letD [a, b, c], ws, nm]) (asgVal (bodyOf P 140)) = some (Z (commonL a b c)) := by
  refine v_comp (f := D.int) (L := a) (fun x => b.contains x && c.contains x) D.int ⟨by kernel_rfl, .inl (by kernel_rfl), rfl⟩ (by kernel_rfl) ha (fun x _ => ts1 (t_and (t_cmp (b := Z b) rfl (by kernel_rfl) (by kernel_rfl) (in_Z x b)) fun _ => (t_cmp (b := Z c) rfl (by kernel_rfl) (by kernel_rfl) (in_Z x c)))) (fun x _ _ => by kernel_rfl)
theorem iter140 (P : Params) (m : Mp) : psrc (pev F M 40 (sc140 P) m) (sc140 P) (stH ((bodyOf P 140).drop 1)).1 = some (five.map .int) := by kernel_rfl
/-- the names that the loop reads -/
structure At140 (m : Mp) (cm : List Int) (ws : List Wish) : Prop where
  c : m.lookup ("common" : Str) = some (Z cm)
  w : m.lookup ("wishes" : Str) = some (.lst (ws.map wishD))
  n : m.lookup ("names" : Str) = some namesD
theorem At140.cons {m : Mp} {cm : List Int} {ws : List Wish} (h : At140 m cm ws) {x : Str} {d : D} (hx : x ≠ "common" ∧ x ≠ "wishes" ∧ x ≠ "names") : At140 ((x, d) :: m) cm ws :=
  ⟨by rw [lookup_cons_ne (Ne.symm hx.1)]; exact h.c, by rw [lookup_cons_ne (Ne.symm hx.2.1)]; exact h.w, by rw [lookup_cons_ne (Ne.symm hx.2.2)]; exact h.n⟩
theorem letters140 (P : Params) {m : Mp} {i : Int} (hi : i ∈ i16) (hw : m.lookup ("which" : Str) = some (.int i)) (hn : m.lookup ("names" : Str) = some namesD) : pev F M 40 (sc140 P) m (asgVal (for140 P)) = some (S (lettersL i)) :=
  v_idxN (v_name hn (by decide)) (v_name hw (by decide)) (names_at hi)
theorem parts140 (P : Params) {m : Mp} {i : Int} {cm : List Int} (hcm : ∀ x ∈ cm, x ∈ i16) (hl : cm.length ≤ bound) (hw : m.lookup ("which" : Str) = some (.int i)) (hn : m.lookup ("names" : Str) = some namesD) (hc : m.lookup ("common" : Str) = some (Z cm)) : pev F M 40 (sc140 P) m (asgVal ((for140 P).drop 1)) = some (.lst ((partsOf cm i).map S)) := by
  rw [show (partsOf cm i).map S = (cm.filter fun p => Builtin.bitAnd p i == p).map fun p => S (lettersL p) by simp [partsOf, Function.comp]]
  refine v_comp (f := D.int) (L := cm) (fun p => Builtin.bitAnd p i == p) (fun p => S (lettersL p)) ⟨by kernel_rfl, .inl (by kernel_rfl), rfl⟩ ?_ hl (fun x hx => ts1 (t_cmp (a := .int (Builtin.bitAnd x i)) (b := .int x) rfl (v_bin (v_name lookup_cons_self (by decide)) (v_name (d := .int i) ?_ (by decide)) rfl) (v_name lookup_cons_self (by decide)) (eq_int _ _))) (fun x hx _ => v_idxN (v_name (d := namesD) ?_ (by decide)) (v_name lookup_cons_self (by decide)) (names_at (hcm x hx)))
  · exact src_of rfl (v_name hc (by decide))
  · rw [lookup_cons_ne (by decide)]; exact free_lookup (by kernel_rfl) hw
  · rw [lookup_cons_ne (by decide)]; exact free_lookup (by kernel_rfl) hn
theorem minus140 (P : Params) {m : Mp} {L T : List Str} (hl : L.length ≤ bound) (h1 : m.lookup ("letters" : Str) = some (S L)) (h2 : m.lookup ("lasting" : Str) = some (S T)) (e : Expr) (he : e = exH (ifTest ((for140 P).drop 4))) : pev F M 39 (sc140 P) m e = some (S (minusS L T)) := by
  subst he
  refine v_comp (f := D.str) (L := L) (fun x => !T.contains x) D.str ⟨by kernel_rfl, .inl (by kernel_rfl), rfl⟩ ?_ hl (fun x hx => ts1 (t_cmp (a := .str x) (b := S T) rfl (v_name lookup_cons_self (by decide)) (v_name ?_ (by decide)) (notIn_S x T))) (fun x hx _ => v_name lookup_cons_self (by decide))
  · exact src_of rfl (v_name h1 (by decide))
  · rw [lookup_cons_ne (by decide)]; exact free_lookup (by kernel_rfl) h2
end
theorem folds_fallen : ∀ (ps : List (List Str)) (L : List Str) (acc : D), Folds SldStep (S L) (ps.map S) acc → acc = S (fallenL L ps)
  | [], L, acc, h => by cases h; rfl
  | p :: ps, L, acc, h => by
    rw [List.map_cons] at h
    cases h with
    | cons h1 h2 =>
      obtain ⟨xs, ys, e1, e2, rfl⟩ := h1
      have inj : ∀ {a b : List Str}, S a = S b → a = b := fun {a b} e => by
        simp only [S, D.lst.injEq] at e
        have h := strsOf_map a
        rw [e, strsOf_map] at h
        exact (Option.some.inj h).symm
      rw [← inj e1, ← inj e2] at h2
      exact folds_fallen ps _ acc h2
theorem lasting_sub (ws : List Wish) (L : List Str) : ∀ x ∈ lastingL ws L, x ∈ L := fun x hx => by
  unfold lastingL strikeL at hx
  exact (List.mem_filter.mp (List.mem_filter.mp (List.mem_filter.mp hx).1).1).1
theorem lasting_rising (ws : List Wish) (L : List Str) (h : Rising ltS L) : Rising ltS (lastingL ws L) := by
  unfold lastingL strikeL
  exact ((h.filter _).filter _).filter _
theorem lasting_len (ws : List Wish) (L : List Str) : (lastingL ws L).length ≤ L.length := by
  unfold lastingL strikeL
  exact Nat.le_trans (List.length_filter_le _ _) (Nat.le_trans (List.length_filter_le _ _) (List.length_filter_le _ _))
theorem dif_lasting (ws : List Wish) (L : List Str) (h : Rising ltS L) : dif ltS L (lastingL ws L) = (minusS L (lastingL ws L), []) := by
  rw [dif_filter linS L _ h (lasting_rising ws L h)]
  congr 1
  rw [List.filter_eq_nil_iff]
  intro x hx
  have := lasting_sub ws L x hx
  simp [this]
theorem peq_tupS (a b c d : List Str) : pcmp .NotEq (.tup [S a, S b]) (.tup [S c, S d]) = some (!((a == c) && (b == d))) := by
  show Option.map (!·) (if [S a, S b].length = [S c, S d].length then peqs (peq 7) [S a, S b] [S c, S d] else none) = _
  rw [if_pos (show [S a, S b].length = [S c, S d].length from rfl)]
  have e : peqs (peq 7) [S a, S b] [S c, S d] = some ((a == c) && ((b == d) && true)) := by
    simp only [peqs, peq_S 5 a c, peq_S 5 b d]
  rw [e]
  simp
section
variable {prog : Program} {w : World} {A : Around} {s : Shared} {W : List Addr} {sc : List (Str × NameKind)} {env : Env} {m : Mp} {h₀ : Heap}
theorem evalArgs_of {pos : Pos} {f : Value} {es : List Expr} {Q : Args → Shared → Prop} {E : Value → Shared → Prop} (hne : es ≠ []) (hs : es.all noStar = true)
    (sp : wpAny (model prog w) A (spliced (backTo pos (starEach es env))) (fun vs s' => Q ⟨vs, []⟩ s') E s) : wpAny (model prog w) A (evalArgs f true (backTo pos (starEach es env)) []) Q E s := by
  cases es with
  | nil => exact absurd rfl hne
  | cons e r =>
    rw [List.all_cons, Bool.and_eq_true] at hs
    rw [starEach_cons hs.1] at sp ⊢
    exact evalArgs_plain sp
end
end Mine
end

-- PartsC
section
open PySem PySem.W PyProof.Rows PySem.Calls PySem.SeqAt
set_option maxRecDepth 100000
namespace Mine
theorem Known.mono {pos : Pos} {q : Str} {ps : Array Value} {h h' : Heap} {W X : List Addr} (kn : Known pos q ps h W) (kx : KX X h h') (hX : ∀ b ∈ X, b ∈ W ∨ b = 137 ∨ b = 147) : Known pos q ps h' W := by
  obtain ⟨t, kn⟩ := kn
  refine ⟨t, ?_⟩
  rcases kn with q | ⟨c', oc, a1, a2, a3, a4, a5, a6⟩
  · exact .inl q
  · refine .inr ⟨c', oc, a1, kx c' oc (fun q => ?_) a2, a3, a4, a5, a6⟩
    rcases hX c' q with q | q | q
    · exact a4 q
    · exact a5 q
    · exact a6 q
section
variable {prog : Program} {w : World} {A : Around} {s : Shared} {W : List Addr} {sc : List (Str × NameKind)} {env : Env} {m : Mp} {h₀ : Heap} {fr : List Env} {k : Nat}
/-- reduce(lambda.., parts, letters) -/
theorem fallen_ev {c P : Addr} {ps : Array Value} {params : Arguments} {body : Expr} {scope : Scope} {p p1 p2 p3 p4 : Pos} {x1 x2 : Str} {L : List Str} {pl : List (List Str)} {Q E : Value → Shared → Prop} (BT : BaseT w.params h₀) (R : Room A (k + 3)) (T : Tp h₀ s.heap) (F : FR W sc env s.heap m) (fs : Frs A W s.heap fr) (hz : ∀ b ∈ Xs fr, h₀.get? b = none)
    (e1 : params = lamParams (lamE1 w.params)) (e2 : body = lamBody (lamE1 w.params)) (e3 : scope = lamScope (lamE1 w.params)) (hred : sc.lookup ("reduce" : Str) = some .globalImplicit)
    (hP : P = 137 ∨ P = 147) (hcode : env.code = .ref c) (C : CodeHd s.heap c P) (hcl : closureFor scope env = pure []) (hdef : defaultsOf params env = ([], [])) (hps : s.heap.get? P = some (tabObj ps)) (kn : Known p1 (env.qual ++ "<lambda>") ps s.heap W) (hL : env.locals ≠ P) (hc : ∀ y c, env.cells.lookup y = some c → c ≠ P) (hPW : P ∈ W) (hPX : P ∉ Xs fr)
    (hf0 : h₀.get? P ≠ none) (nx1 : x1 ≠ "__debug__" ∧ x1 ≠ "__classdict__") (nx2 : x2 ≠ "__debug__" ∧ x2 ≠ "__classdict__") (l1 : m.lookup x1 = some (.lst (pl.map S))) (l2 : m.lookup x2 = some (S L)) (rL : Rising ltS L) (lL : L.length ≤ 1000) (rp : ∀ y ∈ pl, Rising ltS y ∧ y.length ≤ 1000)
    (hq : ∀ v h' tk ps', KT (Xs fr) [P] s.heap h' → FR W sc env h' m → h'.get? P = some (tabObj ps') → Known p1 (env.qual ++ "<lambda>") ps' h' W → Rep W h' (S (fallenL L pl)) v → Q v { s with heap := h', toks := tk }) :
    wpAny (model prog w) A (eval (.Call (.Name "reduce" p) [.Lambda params body scope p1, .Name x1 p2, .Name x2 p3] [] p4) env) Q E s := by
  have B := BT.toBase
  obtain ⟨o72, a72, b72⟩ := at72 w.params
  rw [arm_eval_Call_Name']
  refine wpAny_bind (glob_val B F T hred (by decide) (gl72 _) ?_)
  refine callWith_function (o := o72) (fd := fdOf w.params 72) (evalArgs_of (by simp) rfl (wpAny_items_cons (lam_make BT T F hP hcode C hcl hdef hps kn hL hc hPW fun f c' oc ps' pm ctv h₁ tk₁ hfn hfo hco hcr hcW hc1 hc2 kx₁ F₁ hps₁ kn₁ => ?_) rfl))
  have T₁ : Tp h₀ h₁ := by
    refine ⟨fun b o n1 n2 e => kx₁ b o (fun q => ?_) (T.all b o n1 n2 e), T.s1, T.s2, ?_, ?_⟩
    · simp at q; subst q; rcases hP with rfl | rfl
      · exact n1 rfl
      · exact n2 rfl
    · rcases hP with rfl | rfl
      · exact ⟨_, hps₁⟩
      · obtain ⟨o, e⟩ := T.l1; exact ⟨o, kx₁ 137 o (by decide) e⟩
    · rcases hP with rfl | rfl
      · obtain ⟨o, e⟩ := T.l2; exact ⟨o, kx₁ 147 o (by decide) e⟩
      · exact ⟨_, hps₁⟩
  refine wpAny_items_cons (wpAny_Name (FR.load (s := { s with heap := h₁, toks := tk₁ }) F₁ l1 (by simpa using nx1.2) fun v1 r1 => wpAny_items_cons (wpAny_Name (FR.load (s := { s with heap := h₁, toks := tk₁ }) F₁ l2 (by simpa using nx2.2) fun v2 r2 => wpAny_items_nil ?_) (by simpa using nx2.1))) (by simpa using nx1.1))
  refine ⟨⟨B.kin T₁ 72 o72 a72, b72⟩, ?_⟩
  have fW : f ∉ W := fun q => by obtain ⟨o, e⟩ := F.live f q; rw [hfn] at e; cases e
  have fs₁ : Frs A W h₁ fr := fs.keep (fun _ h => h) fun b o hb e => ⟨o, kx₁ b o (fun q => by simp at q; exact hPX (q ▸ hb)) e, rfl⟩
  refine red_call (s := { s with heap := h₁, toks := tk₁ }) (k := k + 2) (ds := pl.map S) (dI := S L) (acc0 := S L) (j0 := 0) (args := [.ref f, v1, v2]) (Inv := SldInv) (Pe := SldInv 0) (Step := SldStep) (Ls := [(f, kla_obj "<lambda>" (env.qual ++ "<lambda>") params body scope [] pm c' ctv), (c', oc)]) B R fs₁ hz T₁ F₁.live (lam1_fun B e1 e2 e3 hcr) ⟨L, rfl, rL, lL⟩ (fun d hd => by
      obtain ⟨y, hy, rfl⟩ := List.mem_map.mp hd
      exact ⟨y, rfl, rp y hy⟩) List.mem_cons_self rfl (fun q hq' => ?_) (fun q hq' => ?_) r1 r2 (bi72_3 w.params (B.kin T₁) (.ref f) v1 v2) (.inr ⟨rfl, rfl, _, rfl⟩) fun acc' fol v s' hs' r' => ?_
  · simp only [List.mem_cons, List.not_mem_nil, or_false] at hq'
    rcases hq' with rfl | rfl
    · exact hfo
    · exact hco
  · simp only [List.mem_cons, List.not_mem_nil, or_false] at hq'
    rcases hq' with rfl | rfl
    · exact fW
    · exact hcW
  · obtain ⟨h', tk', rfl, ks⟩ := hs'
    rw [List.drop_zero] at fol
    rw [folds_fallen pl L acc' fol] at r'
    have kt : KT (Xs fr) [P] s.heap h' := (KT.kx kx₁ fun b hb => hb).trans (KT.ks ks)
    refine hq v h' tk' ps' kt (F₁.ks ks fs.sub) (ks.out P _ hPX hps₁) (kn₁.mono ks.kx fun b hb => .inl (fs.sub b hb)) r'
end
end Mine
end

-- PartsK
section
open PySem PySem.W PyProof.Rows PySem.Calls PySem.SeqAt
set_option maxRecDepth 100000
namespace Mine
section
variable {prog : Program} {w : World} {h₀ : Heap} {k : Nat}
theorem CallOk.toR {a : Addr} {ds : List D} {d : D} (h : CallOk prog w h₀ k a ds d) : CallR prog w h₀ k a ds (fun x => x = d) := fun A W s vs Q E R T lv r hq => h A W s vs Q E R T lv r (hq d rfl)
theorem ne_self_S (L : List Str) : pcmp .NotEq (S L) (S L) = some false := by rw [ne_S]; simp
theorem parts_call (BT : BaseT w.params h₀) {a b c : List Int} {ws : List Wish} (hg : Good a b c) (hi : ∀ x ∈ a, x ∈ i16) (hws : ws.length ≤ bound) (H : ∀ i ∈ five, fallenL (lettersL i) (partsOf (commonL a b c) i) = minusS (lettersL i) (lastingL ws (lettersL i)))
    {A : Around} {W : List Addr} {s : Shared} {vs : List Value} {fr : List Env} {Q E : Value → Shared → Prop} (R : Room A (k + 4)) (fs : Frs A W s.heap fr) (hfz : ∀ b ∈ Xs fr, h₀.get? b = none) (T : Tp h₀ s.heap) (lv : Live W s.heap) (hW : 137 ∈ W) (htab : s.heap.get? 137 = some (tabObj #[]))
    (hr : Reps W s.heap [letD [a, b, c], .lst (ws.map wishD), namesD] vs) (hq : ∀ h' tk, KT (Xs fr) [137] s.heap h' → (∃ ps, h'.get? 137 = some (tabObj ps)) → Q (.bool true) { s with heap := h', toks := tk }) : wpAny (model prog w) A (call (.ref 140) vs) Q E s := by
  have B := BT.toBase
  obtain ⟨o, h1, h2⟩ := at140 w.params
  refine call_frame (ps := ["let", "wishes", "names"]) B R T lv h1 h2 (cd140 _) (bd140 _) (ok140 _) (bi140 _ vs hr.length) hr fun Y env h₁ tk₁ hY henv O Fr hk₁ hYn => ?_
  have R' := R.deeper env
  have T₁ := T.keep hk₁
  have hf : env.frame = some env.locals := by rw [henv]; rfl
  have hA : (A.deeper env).frames = some (env :: fr) := by show A.frames.map _ = _; rw [fs.eq]; rfl
  have hcode : env.code = .ref 139 := by rw [henv]; exact cod140 w.params
  have hz := xs_enter O hf hfz
  have t137 : h₀.get? 137 ≠ none := by rw [BT.tab1]; simp
  have n137Y : 137 ∉ Y := fun q => t137 (O.new _ q)
  have n137X : 137 ∉ Xs (env :: fr) := fun q => t137 (hz _ q)
  have fo₁ : FO (Y ++ W) (Y ++ [137]) h₁ fr := fs.fo hk₁ fun b hb hx => by
    rcases List.mem_append.mp hb with hb | hb
    · exact hYn b hb
    · simp at hb; exact absurd (hfz b hx) (hb ▸ t137)
  obtain ⟨EV, TS⟩ := ev_sound (prog := prog) (k := k + 3) (F := M0) (M := M0) B F0_ok M0_ok 40
  obtain ⟨EV5, _⟩ := ev_sound (prog := prog) (k := k + 3) (F := M0) (M := M0) B F0_ok M0_ok 5
  obtain ⟨o79, a79, b79⟩ := at79 w.params
  obtain ⟨o118, a118, b118⟩ := at118 w.params
  have xsW : ∀ b ∈ Xs fr, b ∈ Y ++ W := fun b hb => List.mem_append_right _ (fs.sub b hb)
  have xe : ∀ b ∈ Xs (env :: fr), b = env.locals ∨ b ∈ Xs fr := fun b hb => by
    rw [Xs, List.filterMap_cons, hf] at hb
    exact List.mem_cons.mp hb
  have h137W : 137 ∈ Y ++ W := List.mem_append_right _ hW
  have la := (hg a (by simp)).2
  -- common
  refine ec (assign_ok (s := { s with heap := h₁, toks := tk₁ }) (n := 40) (d := Z (commonL a b c)) (k := k + 3) B (F := M0) (M := M0) F0_ok M0_ok R' O Fr T₁ (by kernel_rfl) (common140 w.params a b c _ _ (Nat.le_trans la (by decide))) fun h₂ tk₂ F₂ k₂ => ?_)
  have T₂ := T₁.kx k₂ O.new
  have kt₂ : KT (Xs (env :: fr)) (Y ++ [137]) h₁ h₂ := KT.kx k₂ fun b hb => List.mem_append_left _ hb
  have fo₂ := fo₁.kt kt₂
  have tab₂ : h₂.get? 137 = some (tabObj #[]) := k₂ 137 _ n137Y (hk₁ 137 _ htab)
  have cm16 : ∀ x ∈ commonL a b c, x ∈ i16 := fun x hx => hi x (List.mem_filter.mp hx).1
  have cml : (commonL a b c).length ≤ bound := Nat.le_trans (List.length_filter_le _ _) (Nat.le_trans la (by decide))
  have tp : ∀ {h'}, KT (Xs (env :: fr)) (Y ++ [137]) h₂ h' → (∃ o, h'.get? 137 = some o) → Tp h₀ h' := fun {h'} kt al => by
    refine ⟨fun b o n1 n2 e => ?_, T₂.s1, T₂.s2, al, ?_⟩
    · refine kt.out b o (fun q => ?_) (fun q => ?_) (T₂.all b o n1 n2 e)
      · rcases List.mem_append.mp q with q | q
        · rw [O.new b q] at e; cases e
        · simp at q; exact n1 q
      · rw [hz b q] at e; cases e
    · obtain ⟨o, e⟩ := T₂.l2
      have t147 : h₀.get? 147 ≠ none := by rw [BT.tab2]; simp
      refine ⟨o, kt.out 147 o (fun q => ?_) (fun q => t147 (hz _ q)) e⟩
      rcases List.mem_append.mp q with q | q
      · exact t147 (O.new _ q)
      · simp at q
  refine ec (for_invX (s := { s with heap := h₂, toks := tk₂ }) (ds := five.map .int) (137 :: Xs fr) (fun X _ m h => At140 m (commonL a b c) ws ∧ KT (Xs (env :: fr)) (Y ++ [137]) h₂ h ∧ ∃ ps, h.get? 137 = some (tabObj ps) ∧ Known ⟨182, 24, 182, 80⟩ (env.qual ++ "<lambda>") ps h (X ++ (Y ++ W))) (fun _ _ => False) O F₂ (by kernel_rfl) rfl (fun b hb => ?_) ?_ ?_ ?_ ?_ ?_ ?_)
  · rcases List.mem_cons.mp hb with rfl | hb
    · exact h137W
    · exact xsW b hb
  · intro Q' hq'
    exact src_ok (EV R') B R'.hd F₂ T₂ (iter140 w.params _) hq'
  · intro X j m h h' hX hJ kx
    obtain ⟨am, kt, ps, hps, kn⟩ := hJ
    refine ⟨am, kt.fresh kx hX fun b hb => List.mem_append_left _ hb, ps, kx 137 _ (fun q => ?_) hps, kn.mono kx fun b hb => .inl ?_⟩
    · rcases List.mem_append.mp q with q | q
      · have := hX _ q; dsimp only at this; rw [tab₂] at this; cases this
      · exact n137Y q
    · rcases List.mem_append.mp hb with hb | hb
      · exact List.mem_append_left _ hb
      · exact List.mem_append_right _ (List.mem_append_left _ hb)
  · intro X h' _ hk
    exact ⟨⟨rfl, rfl, rfl⟩, KT.kx (KX.of hk) (Z' := []) (by simp), #[], hk _ _ tab₂, trivial, .inl rfl⟩
  · intro X j d m' s₂ E' hX hd hJ F₃ hs₂ kx₃
    obtain ⟨h₃, tk₃, rfl⟩ := hs₂
    obtain ⟨am, kt₃, ps, hps, kn⟩ := hJ
    dsimp only at hX kt₃ hps kn F₃ kx₃
    obtain ⟨i, hi5, rfl⟩ : ∃ i ∈ five, d = .int i := by
      have := List.mem_of_getElem? hd
      obtain ⟨p, hp, rfl⟩ := List.mem_map.mp this
      exact ⟨p, hp, rfl⟩
    have hi16 := five_sub hi5
    obtain ⟨rL, lL⟩ := letters_rising hi16
    have O₃ : Own h₀ Y (X ++ (Y ++ W)) env := O.grow
    have Xsub : ∀ b ∈ Xs (env :: fr), b ∈ X ++ (Y ++ W) := fun b hb => by
      rcases xe b hb with rfl | hb
      · exact List.mem_append_right _ (List.mem_append_left _ O.loc)
      · exact List.mem_append_right _ (xsW b hb)
    have n137XX : 137 ∉ X := fun q => by have := hX _ q; rw [tab₂] at this; cases this
    -- letters
    refine ec (assign_ok (s := { s with heap := h₃, toks := tk₃ }) (n := 40) (d := S (lettersL i)) (k := k + 3) B (F := M0) (M := M0) F0_ok M0_ok R' O₃ F₃ (tp kt₃ ⟨_, hps⟩) (by kernel_rfl) (letters140 w.params hi16 lookup_cons_self (by rw [lookup_cons_ne (by decide)]; exact am.n)) fun h₄ tk₄ F₄ k₄ => ?_)
    have am₄ : At140 (("letters", S (lettersL i)) :: ("which", .int i) :: m') (commonL a b c) ws := (am.cons (by decide)).cons (by decide)
    have kt₄ := kt₃.fresh (F := []) k₄ (by simp) fun b hb => List.mem_append_left _ hb
    have hps₄ : h₄.get? 137 = some (tabObj ps) := k₄ 137 _ n137Y hps
    -- parts
    refine ec (assign_ok (s := { s with heap := h₄, toks := tk₄ }) (n := 40) (d := .lst ((partsOf (commonL a b c) i).map S)) (k := k + 3) B (F := M0) (M := M0) F0_ok M0_ok R' O₃ F₄ (tp kt₄ ⟨_, hps₄⟩) (by kernel_rfl) (parts140 w.params cm16 cml (by rw [lookup_cons_ne (by decide)]; exact lookup_cons_self) am₄.n am₄.c) fun h₅ tk₅ F₅ k₅ => ?_)
    have kt₅ := kt₄.fresh (F := []) k₅ (by simp) fun b hb => List.mem_append_left _ hb
    have hps₅ : h₅.get? 137 = some (tabObj ps) := k₅ 137 _ n137Y hps₄
    have T₅ := tp kt₅ ⟨_, hps₅⟩
    have am₅ : At140 (("parts", .lst ((partsOf (commonL a b c) i).map S)) :: ("letters", S (lettersL i)) :: ("which", .int i) :: m') (commonL a b c) ws := am₄.cons (by decide)
    have fs₅ : Frs (A.deeper env) (X ++ (Y ++ W)) h₅ (env :: fr) := ((fo₂.kt kt₅).wide fun b hb => List.mem_append_right _ hb).frs F₅ hf hA
    have sub2 : ∀ b ∈ Y, b ∈ X ++ (Y ++ W) := fun b hb => List.mem_append_right _ (List.mem_append_left _ hb)
    have kn₅ := (kn.mono k₄ fun b hb => .inl (sub2 b hb)).mono k₅ fun b hb => .inl (sub2 b hb)
    -- fallen
    refine ec (asgN (fallen_ev (s := { s with heap := h₅, toks := tk₅ }) (k := k) (L := lettersL i) (pl := partsOf (commonL a b c) i) BT R' T₅ F₅ fs₅ hz (by kernel_rfl) (by kernel_rfl) (by kernel_rfl) (by kernel_rfl) (.inl rfl) hcode (cdHd1 (B.kin T₅)) rfl rfl hps₅ kn₅ (fun q => n137Y (q ▸ O.loc)) (fun y c hc q => n137Y (q ▸ O.cin y c hc)) (List.mem_append_right _ h137W) n137X t137 (by decide) (by decide) lookup_cons_self (by rw [lookup_cons_ne (by decide)]; exact lookup_cons_self) rL (by omega) (fun y hy => ?_) fun v h₆ tk₆ ps₆ kt₆ F₆ hps₆ kn₆ r₆ => ?_) (swap_no rfl _ _ _ _))
    · obtain ⟨p, hp, rfl⟩ := List.mem_map.mp hy
      obtain ⟨q1, q2⟩ := letters_rising (cm16 p (List.mem_filter.mp hp).1)
      exact ⟨q1, by omega⟩
    rw [H i hi5] at r₆
    have kt6 : KT (Xs (env :: fr)) (Y ++ [137]) h₂ h₆ := kt₅.trans ⟨fun b o nz nb e => kt₆.out b o (fun q => nz (List.mem_append_right _ q)) nb e, fun b o nz mb e => kt₆.ins b o (fun q => nz (List.mem_append_right _ q)) mb e⟩
    refine FR.store (s := { s with heap := h₆, toks := tk₆ }) F₆ (storable_or (by kernel_rfl)) r₆ fun h₇ tk₇ F₇ kx₇ hb₇ => ?_
    have ky₇ := own_store (O := O) hb₇
    have kt₇ := kt6.fresh (F := []) ky₇ (by simp) fun b hb => List.mem_append_left _ hb
    have hps₇ : h₇.get? 137 = some (tabObj ps₆) := ky₇ 137 _ n137Y hps₆
    have kn₇ := kn₆.mono ky₇ fun b hb => .inl (sub2 b hb)
    have T₇ := tp kt₇ ⟨_, hps₇⟩
    have am₇ : At140 (("fallen", S (minusS (lettersL i) (lastingL ws (lettersL i)))) :: ("parts", .lst ((partsOf (commonL a b c) i).map S)) :: ("letters", S (lettersL i)) :: ("which", .int i) :: m') (commonL a b c) ws := am₅.cons (by decide)
    -- lasting
    refine ec (asgN (call_fnR (s := { s with heap := h₇, toks := tk₇ }) (k := k + 3) (ds := [S (lettersL i), .lst (ws.map wishD)]) (EV R') B R' F₇ T₇ (gl118 _) a118 b118 (lasting_call (k := k + 1) B hws (Nat.le_trans lL (by decide))).toR (by kernel_rfl) (by decide) rfl (evs_cons (v_name (by rw [lookup_cons_ne (by decide), lookup_cons_ne (by decide)]; exact lookup_cons_self) (by decide)) (evs_cons (v_name am₇.w (by decide)) evs0)) fun d hd v s₈ ks₈ r₈ => ?_) (swap_no rfl _ _ _ _))
    subst hd
    obtain ⟨h₈, tk₈, rfl, hk₈⟩ := ks₈
    dsimp only at hk₈
    refine FR.store (s := { s with heap := h₈, toks := tk₈ }) (F₇.keep hk₈) (storable_or (by kernel_rfl)) r₈ fun h₉ tk₉ F₉ kx₉ hb₉ => ?_
    have ky₉ : KX Y h₇ h₉ := (KX.of hk₈).trans (own_store (O := O) hb₉)
    have kt₉ := kt₇.fresh (F := []) ky₉ (by simp) fun b hb => List.mem_append_left _ hb
    have hps₉ : h₉.get? 137 = some (tabObj ps₆) := ky₉ 137 _ n137Y hps₇
    have kn₉ := kn₇.mono ky₉ fun b hb => .inl (sub2 b hb)
    have T₉ := tp kt₉ ⟨_, hps₉⟩
    -- if fallen != [..]
    have lkL : ∀ {x : D} {y : D}, (("lasting", x) :: ("fallen", y) :: ("parts", .lst ((partsOf (commonL a b c) i).map S)) :: ("letters", S (lettersL i)) :: ("which", .int i) :: m' : Mp).lookup ("letters" : Str) = some (S (lettersL i)) := fun {x y} => by
      rw [lookup_cons_ne (by decide), lookup_cons_ne (by decide), lookup_cons_ne (by decide)]; exact lookup_cons_self
    have lkF : ∀ {x : D} {y : D}, (("lasting", x) :: ("fallen", y) :: ("parts", .lst ((partsOf (commonL a b c) i).map S)) :: ("letters", S (lettersL i)) :: ("which", .int i) :: m' : Mp).lookup ("fallen" : Str) = some y := fun {x y} => by
      rw [lookup_cons_ne (by decide)]; exact lookup_cons_self
    refine ec (wpAny_If (TS R' (b := false) (t_cmp rfl (v_name lkF (by decide)) (minus140 w.params (Nat.le_trans lL (by decide)) lkL lookup_cons_self _ (by kernel_rfl)) (ne_self_S _)) F₉ T₉ (kfor fun h₁₀ tk₁₀ hk₁₀ => ?_)))
    dsimp only at hk₁₀
    rw [if_neg (by decide)]
    refine wpAny_execs_nil ?_
    have F₁₀ := F₉.keep hk₁₀
    have kt₁₀ := kt₉.trans (KT.kx (KX.of hk₁₀) (Z' := []) (by simp))
    have fs₁₀ : Frs (A.deeper env) (X ++ (Y ++ W)) h₁₀ (env :: fr) := ((fo₂.kt kt₁₀).wide fun b hb => List.mem_append_right _ hb).frs F₁₀ hf hA
    have T₁₀ := T₉.keep hk₁₀
    -- if sorted_list_difference(letters, lasting) != (fallen, [])
    refine ec (wpAny_If (wpAny_isTrue_Compare1 (call_fnF (s := { s with heap := h₁₀, toks := tk₁₀ }) (k := k + 3) (EV R') B R' F₁₀ T₁₀ fs₁₀ hz (gl79 _) a79 b79 (sldS_call B rL (lasting_rising ws _ rL) (by omega) (by have := lasting_len ws (lettersL i); omega)) (by kernel_rfl) (by decide) rfl (evs_cons (v_name lkL (by decide)) (evs_cons (v_name lookup_cons_self (by decide)) evs0)) fun v h₁₁ tk₁₁ ks₁₁ F₁₁ r₁₁ => ?_)))
    have T₁₁ := T₁₀.ks ks₁₁ hz
    refine EV5 R' (d := .tup [S (minusS (lettersL i) (lastingL ws (lettersL i))), S []]) (v_tuple (by decide) (evs_cons (v_name lkF (by decide)) (evs_cons (by kernel_rfl) evs0))) (s := { s with heap := h₁₁, toks := tk₁₁ }) F₁₁ T₁₁ fun z => kfor fun h₁₂ tk₁₂ hk₁₂ rz => ?_
    dsimp only at hk₁₂
    have ec : pcmp .NotEq (.tup [S (dif ltS (lettersL i) (lastingL ws (lettersL i))).1, S (dif ltS (lettersL i) (lastingL ws (lettersL i))).2]) (.tup [S (minusS (lettersL i) (lastingL ws (lettersL i))), S []]) = some false := by
      rw [peq_tupS, dif_lasting ws _ rL]
      simp
    refine cmp_ok (s := { s with heap := h₁₂, toks := tk₁₂ }) R'.cmp ec (r₁₁.mono (KX.of hk₁₂)) rz (wpAny_truthy_bool ?_)
    rw [if_neg (by decide)]
    have kt₁₂ := (kt₁₀.trans (KT.ks ks₁₁)).trans (KT.kx (KX.of hk₁₂) (Z' := []) (by simp))
    have hps₁₂ : h₁₂.get? 137 = some (tabObj ps₆) := hk₁₂ _ _ (ks₁₁.out _ _ n137X (hk₁₀ _ _ hps₉))
    have kn₁₂ := ((kn₉.mono (KX.of hk₁₀ : KX [] _ _) (by simp)).mono ks₁₁.kx fun b hb => .inl (Xsub b hb)).mono (KX.of hk₁₂ : KX [] _ _) (by simp)
    refine wpAny_execs_nil (wpAny_execs_nil ⟨h₁₂, tk₁₂, rfl, fun b o nb e => ?_, _, F₁₁.keep hk₁₂, (am₇.cons (by decide)), kt₁₂, ps₆, hps₁₂, kn₁₂⟩)
    have nY : b ∉ Y := fun q => nb (List.mem_append_left _ q)
    have n1 : b ≠ 137 := fun q => nb (List.mem_append_right _ (q ▸ List.mem_cons_self))
    have nX : b ∉ Xs (env :: fr) := fun q => by
      rcases xe b q with rfl | q
      · exact nY O.loc
      · exact nb (List.mem_append_right _ (List.mem_cons_of_mem _ q))
    exact hk₁₂ b o (ks₁₁.out b o nX (hk₁₀ b o (ky₉ b o nY (ky₇ b o nY (kt₆.out b o (by simpa using n1) nX (k₅ b o nY (k₄ b o nY e)))))))
  · intro X h' tk m' F' hJ kx
    obtain ⟨am, kt, ps, hps, kn⟩ := hJ
    refine ec (wpAny_Return_some (wpAny_Constant_bool ?_))
    exact hq h' tk (KT.leave (Zs := [137]) hf O.loc hYn hk₁ (kt₂.trans kt)) ⟨_, hps⟩
  · intro v h' tk hR
    exact hR.elim
end
end Mine
end

-- MSet
section
open PySem PySem.W PyProof.Rows PySem.Calls PySem.SeqAt PySem.Spec
set_option maxRecDepth 100000
namespace Mine
section
variable {prog : Program} {w : World} {A : Around} {R : Result → Shared → Prop} {I : Addr} {fp wr : List Addr} {G : Array GenState → Array GenState → Prop} {n : Nat} {P : Nat → Value → Prop} {St : Nat → Shared → Prop}
/-- a set that holds the first i texts -/
noncomputable def SetStr (prog : Program) (w : World) (h : Heap) (S : Addr) (val : Nat → Str) (i : Nat) : Prop :=
  ∃ M c, h.SetOf (PySem.strKind prog w) S M c ∧ (∀ k, M k = ((List.range i).map val).any (· == k)) ∧ c ≤ i
theorem SetStr.at {h h' : Heap} {S : Addr} {val : Nat → Str} {i : Nat} (x : SetStr prog w h S val i) (hk : ∀ o, h.get? S = some o → h'.get? S = some o) : SetStr prog w h' S val i := by
  obtain ⟨M, c, ⟨o, es, ep, t, ho, rest⟩, q⟩ := x
  exact ⟨M, c, ⟨o, es, ep, t, hk o ho, rest⟩, q⟩
theorem set_loop (Wk : WalksS prog w A.in1 I fp wr G n P St) (S : Addr) (hSf : S ∉ fp) (val : Nat → Str) (hval : ∀ i v, P i v → ∃ t, v = .str (val i) t) (hb : n + 1 < scanBound) :
    ∀ (k i : Nat) (s : Shared), n - i = k → i ≤ n → St i s → SetStr prog w s.heap S val i →
      (∀ s', Moved (S :: wr) G s s' → SetStr prog w s'.heap S val n → R (.ok (.ret .none)) s') →
      codeAny (model prog w) A (.builtin "set.update.loop" ⟨[.ref S, .ref I], []⟩) R s := by
  have hSw : S ∉ wr := fun h => hSf (Wk.sub _ h)
  have hsub : ∀ b ∈ wr, b ∈ S :: wr := fun b hb => List.mem_cons_of_mem _ hb
  intro k
  induction k with
  | zero =>
    intro i s hk hi hst hS hR
    have hin : i = n := by omega
    subst hin
    refine codeAny_builtin PyProof.Rows.F.entry_set_update_loop ?_
    rw [Around.under_plainId PyProof.Rows.F.plain_set_update_loop _]
    show wpAny _ A.in1 (pyNext (.ref I) >>= _) _ _ s
    refine wpAny_bind (Wk.done s _ _ hst fun s' hm => ?_)
    show wpAny _ A.in1 (ret Value.none) _ _ s'
    exact wpAny_pure (hR s' (hm.mono hsub) (hS.at fun o e => hm.heap S o hSw e))
  | succ k ih =>
    intro i s hk hi hst hS hR
    have hlt : i < n := by omega
    refine codeAny_builtin PyProof.Rows.F.entry_set_update_loop ?_
    rw [Around.under_plainId PyProof.Rows.F.plain_set_update_loop _]
    show wpAny _ A.in1 (pyNext (.ref I) >>= _) _ _ s
    refine wpAny_bind (Wk.item i s _ _ hlt hst fun v s' hP hst' hm => ?_)
    obtain ⟨t, rfl⟩ := hval i v hP
    obtain ⟨M, c, hS', hM, hc⟩ := hS.at fun o e => hm.heap S o hSw e
    show wpAny _ A.in1 (holding [Value.str (val i) t] (setAdd S (.str (val i) t)) >>= _) _ _ s'
    refine wpAny_bind (wpAny_holding ?_)
    unfold setAdd
    refine wpAny_holding ?_
    refine wpAny_bind ((PySem.strKind prog w).pyHash (k := val i) (strKind_is _ _ _ _) ?_)
    refine wpAny_setAddHashed_of (knd := PySem.strKind prog w) (s := { s' with toks := s'.toks + 1 }) (strKind_is _ _ _ _) rfl hS' (by omega) fun h' hsb hS2 => ?_
    refine wpAny_pure ⟨plainId_quiet PyProof.Rows.F.plain_set_update_loop _, ih (i + 1) _ (by omega) hlt (Wk.frame _ s' _ _ hst' (Nat.le_succ _) fun b hb o e => ?_) ⟨_, _, hS2, fun k' => ?_, ?_⟩ fun s'' hm'' hS'' => ?_⟩
    · rw [hsb.2 b (fun h : b = S => hSf (by rw [← h]; exact hb))]; exact e
    · rw [hM, List.range_succ, List.map_append, List.any_append]
      congr 1
      simp only [List.map_cons, List.map_nil, List.any_cons, List.any_nil, Bool.or_false]
      by_cases e : k' = val i
      · subst e; simp
      · have : (val i == k') = false := by simpa using Ne.symm e
        simp [e, this]
    · split <;> omega
    · refine hR s'' (Moved.trans Wk.gtrans ((hm.mono hsub).then_heap (Nat.le_succ _) fun b o hb e => ?_) hm'') hS''
      rw [hsb.2 b (fun h : b = S => hb (by rw [h]; exact List.mem_cons_self))]; exact e
end
end Mine
end

-- MSet2
section
open PySem PySem.W PyProof.Rows PySem.Calls PySem.SeqAt PySem.Spec
set_option maxRecDepth 100000
set_option maxHeartbeats 3200000
namespace Mine
section
variable {prog : Program} {w : World} {A : Around} {E : Value → Shared → Prop} {s : Shared}
theorem set_strs {l : Addr} {items : Array Value} {val : Nat → Str} {Q : Value → Shared → Prop} (hh : A.handled = none) (hl : s.heap.IsList l items) (hval : ∀ (i : Nat) (v : Value), items[i]? = some v → ∃ t, v = .str (val i) t) (hb : items.size + 1 < scanBound)
    (h : ∀ (h' : Heap) (tk : Nat), SetStr prog w h' s.heap.objs.size val items.size → (∀ b o, s.heap.get? b = some o → h'.get? b = some o) → Q (.ref s.heap.objs.size) { s with heap := h', toks := tk }) :
    wpAny (model prog w) A (call (.type "set") [.ref l]) Q E s := by
  obtain ⟨c, tl, hmro⟩ := PySem.F.called_set.mro
  have hmade := PySem.F.called_set.made
  have hsub := PySem.F.called_set.sub
  refine wpAny_call (codeAny_of_tree ?_)
  show wpAny _ _ (callAny (.type "set") _) _ _ _
  refine wpAny_pure ⟨Code.quiet_builtin _ (by decide +kernel), codeAny_builtin PySem.F.entry_type_call ?_⟩
  rw [Around.under_plain (weight_type_call_type "set" [.ref l] []) rfl]
  have h1 := PySem.F.called_set.notType
  have h2 := PySem.F.called_set.canCreate
  have hct := PySem.F.typeCall_set_1 (.ref l)
  repeat (any_goals (first | assumption | wp_step))
  refine codeAny_mono (code_set_new_1 (.ref l) (E := E) (Q₁ := fun obj s₁ => ∃ led : Bool, obj = .ref s.heap.objs.size ∧ s₁ = { s with heap := s.heap.push { cls := .type "set", dict := none, data := .set #[] 0 (.fresh 0 0 led) } }) fun led => ⟨led, rfl, rfl⟩) fun r s₁ hr => ?_
  cases r with
  | error e => exact hr
  | ok fl =>
    cases fl with
    | ret obj =>
      obtain ⟨led, rfl, rfl⟩ := hr
      have hS : (s.heap.push { cls := .type "set", dict := none, data := .set #[] 0 (.fresh 0 0 led) }).get? s.heap.objs.size = some { cls := .type "set", dict := none, data := .set #[] 0 (.fresh 0 0 led) } := Heap.get?_push_size _ rfl
      have hT : Shared.TypeIs { s with heap := s.heap.push { cls := .type "set", dict := none, data := .set #[] 0 (.fresh 0 0 led) } } (.ref s.heap.objs.size) "set" := ⟨_, hS, rfl⟩
      have hli := PySem.F.called_set.init.lookup
      have hbi := PySem.F.called_set.init.bind (.ref s.heap.objs.size)
      repeat (any_goals (first | assumption | wp_step))
      refine codeAny_mono (codeAny_call_builtin (R := wants (fun r s₂ => r = .none ∧ ∃ h' tk, s₂ = { s with heap := h', toks := tk } ∧ SetStr prog w h' s.heap.objs.size val items.size ∧ (∀ b o, s.heap.get? b = some o → h'.get? b = some o)) E) PySem.F.called_set.init.plain PySem.F.entry_set_init (check_set_init_1 hT ?_)) fun r₂ s₂ hr₂ => ?_
      · obtain ⟨ol, hol, hcl, nl, hdl⟩ := hl
        obtain ⟨ocls, odict, odata, oslots⟩ := ol
        simp only at hcl hdl
        subst hcl; subst hdl
        have hol' : (s.heap.push { cls := .type "set", dict := none, data := .set #[] 0 (.fresh 0 0 led) }).get? l = some { cls := .type "list", dict := odict, data := .seq items nl, slots := oslots } := Heap.get?_push_of_some _ hol
        have hsls := PySem.F.sub_list_set
        have hslf := PySem.F.sub_list_frozenset
        have hne : (Value.type "list" == Value.type "dict") = false := by decide
        have hl1 : (s.heap.push { cls := .type "set", dict := none, data := .set #[] 0 (.fresh 0 0 led) }).IsList l items := ⟨_, hol', rfl, nl, rfl⟩
        unfold Builtin.«set.__init__» noKeywords Builtin.Frozenset.updateFrom
        generalize hPI : pyIter = PI
        wp_walk
        subst hPI
        refine wpAny_pyIter_list hl1 ?_
        refine wpAny_bind (wpAny_runValue ?_)
        have hlS : l < s.heap.objs.size := Heap.lt_size hol
        have hh3 : A.in1.in1.in1.handled = none := by simp [hh]
        have hneI : l ≠ (s.heap.push { cls := .type "set", dict := none, data := .set #[] 0 (.fresh 0 0 led) }).objs.size := by
          rw [Heap.size_push]; exact Nat.ne_of_lt (Nat.lt_succ_of_lt hlS)
        have hSf : s.heap.objs.size ∉ [(s.heap.push { cls := .type "set", dict := none, data := .set #[] 0 (.fresh 0 0 led) }).objs.size, l] := by
          rw [Heap.size_push]; simp only [List.mem_cons, List.mem_singleton, List.not_mem_nil, or_false, not_or]
          exact ⟨Nat.ne_of_lt (Nat.lt_succ_self _), Nat.ne_of_gt hlS⟩
        refine set_loop ((Walks.list hh3 _ l hneI items).toS) s.heap.objs.size hSf val hval hb (items.size - 0) 0 _ (by omega) (Nat.zero_le _) ⟨⟨_, Heap.get?_push_size _ rfl, rfl, rfl⟩, (hl1.push _)⟩ ?hS0 ?hR
        case hS0 =>
          have hget : ((s.heap.push { cls := .type "set", dict := none, data := .set #[] 0 (.fresh 0 0 led) }).push { cls := .type "list_iterator", data := .fields #[.ref l, .int 0 0] }).get? s.heap.objs.size
              = some { cls := .type "set", dict := none, data := .set #[] 0 (.fresh 0 0 led) } := Heap.get?_push_of_some _ hS
          exact ⟨_, _, (PyProof.Rows.setObjOf_fresh (knd := PySem.strKind prog w) led).setOf hget (by unfold scanBound; omega), fun _ => rfl, Nat.le_refl _⟩
        case hR =>
          intro s' hm hS'
          obtain ⟨h', g', d', tk', os'⟩ := s'
          have eg : g' = s.gens := hm.gens
          have ed : d' = s.drawn := hm.drawn
          have eo : os' = s.os := hm.os
          subst eg; subst ed; subst eo
          show wpAny _ _ _ _ _ _
          refine wpAny_pure ?_
          show wpAny _ _ (ret Value.none) _ _ _
          refine wpAny_pure ⟨rfl, h', tk', rfl, hS', fun b o e => ?_⟩
          have hb := Heap.lt_size e
          have hb1 : b ≠ s.heap.objs.size := Nat.ne_of_lt hb
          have hb2 : b ≠ (s.heap.push { cls := .type "set", dict := none, data := .set #[] 0 (.fresh 0 0 led) }).objs.size := by
            rw [Heap.size_push]; exact Nat.ne_of_lt (Nat.lt_succ_of_lt hb)
          exact hm.heap b o (by simp only [List.mem_cons, List.mem_singleton, List.not_mem_nil, or_false, not_or]; exact ⟨hb1, hb2⟩) (Heap.get?_push_of_some _ (Heap.get?_push_of_some _ e))
      · cases r₂ with
        | error e => exact hr₂
        | ok fl₂ =>
          cases fl₂ with
          | ret r =>
            obtain ⟨rfl, h', tk, rfl, hS', hk'⟩ := hr₂
            repeat (any_goals (first | assumption | wp_step))
            exact h _ _ hS' hk'
          | _ => exact hr₂.elim
    | _ => exact hr.elim
end
end Mine
end

-- MAttr
section
open PySem PySem.W PyProof.Rows PySem.Calls PySem.SeqAt PySem.Spec
set_option maxRecDepth 100000
namespace Mine
theorem slot_set_ga : Slot "set" "__getattribute__" "set.__getattribute__" :=
  .of (owner := "set") (n := "__getattribute__") (by rw [typeLookup_type, builtinLookup_eq_fast]; kernel_rfl) (by decide +kernel) (by decide +kernel) (by decide +kernel)
    (by first | exact .inl (by decide +kernel) | exact .inr (by decide +kernel)) (by rw [isSubtype_type]; kernel_rfl)
theorem entry_set_ga : entryFor table "set.__getattribute__" = some Builtin.«object.__getattribute__» := entryFor_alias (id' := "object.__getattribute__") (by kernel_rfl) rfl (by decide +kernel) (by kernel_rfl)
theorem args_set_ga (a b : Value) : argsOk "set.__getattribute__" ⟨[a, b], []⟩ := by unfold argsOk; kernel_rfl
theorem md_get : typeLookup (.type "method_descriptor") "__get__" = pure (some (.builtin "method_descriptor.__get__")) := by rw [typeLookup_type, builtinLookup_eq_fast]; kernel_rfl
theorem md_set : typeLookup (.type "method_descriptor") "__set__" = pure none := by rw [typeLookup_type, builtinLookup_eq_fast]; kernel_rfl
theorem md_del : typeLookup (.type "method_descriptor") "__delete__" = pure none := by rw [typeLookup_type, builtinLookup_eq_fast]; kernel_rfl
theorem set_con : typeLookup (.type "set") "__contains__" = pure (some (.builtin "set.__contains__")) := by rw [typeLookup_type, builtinLookup_eq_fast]; kernel_rfl
theorem ty_con (s : Shared) : s.TypeIs (.builtin "set.__contains__") "method_descriptor" := by show typeOf (.builtin "set.__contains__") = pure (.type "method_descriptor"); kernel_rfl
theorem slot_md_get : Slot "method_descriptor" "__get__" "method_descriptor.__get__" :=
  .of (owner := "method_descriptor") (n := "__get__") (by rw [typeLookup_type, builtinLookup_eq_fast]; kernel_rfl) (by decide +kernel) (by decide +kernel) (by decide +kernel)
    (by first | exact .inl (by decide +kernel) | exact .inr (by decide +kernel)) (by rw [isSubtype_type]; kernel_rfl)
theorem entry_md_get : entryFor table "method_descriptor.__get__" = some Builtin.«method_descriptor.__get__» := entryFor_of_tree (by kernel_rfl)
theorem args_md_get (a b c : Value) : argsOk "method_descriptor.__get__" ⟨[a, b, c], []⟩ := by unfold argsOk; kernel_rfl
section
variable {prog : Program} {w : World} {A : Around} {E : Value → Shared → Prop} {s : Shared}
theorem set_attr {st : Addr} {es : Array (Int × Value)} {ep : Nat} {t : SetTable} {Q : Value → Shared → Prop} (ho : s.heap.get? st = some { cls := .type "set", dict := none, data := .set es ep t, slots := #[] })
    (h : Q (.ref s.heap.objs.size) { s with heap := s.heap.push { cls := .type "builtin_function_or_method", data := .fields #[.builtin "set.__contains__", .ref st] }, toks := s.toks + 1 }) :
    wpAny (model prog w) A (getAttr (.ref st) "__contains__" true) Q E s := by
  have hT : ∀ t', ({ s with toks := t' } : Shared).TypeIs (.ref st) "set" := fun _ => ⟨_, ho, rfl⟩
  unfold getAttr getAttrBy
  refine wpAny_bind (wpAny_mkText (wpAny_holding (wpAny_bind (wpAny_typeOf (hT _) (wpAny_bind (wpAny_of_eq slot_set_ga.lookup ?_))))))
  show wpAny _ _ (getAttrByItsOwn (.ref st) (.str "__contains__" s.toks) (.type "set") (.builtin "set.__getattribute__") true true) _ _ _
  unfold getAttrByItsOwn hookBefore callGetattribute boundAndCalled
  refine wpAny_bind (wpAny_of_eq (show (if onTheHeap (.type "set") then typeLookup (.type "set") "__getattr__" else pure none) = pure none from rfl) ?_)
  refine wpAny_bind (wpAny_attempt (wpAny_holding ?_))
  show wpAny _ _ (bindSpecial (.builtin "set.__getattribute__") (.ref st) >>= _) _ _ _
  refine wpAny_bind (wpAny_of_eq (slot_set_ga.bind _) ?_)
  refine wpAny_mono (Q := fun v s' => v = .ref s.heap.objs.size ∧ s' = { s with heap := s.heap.push { cls := .type "builtin_function_or_method", data := .fields #[.builtin "set.__contains__", .ref st] }, toks := s.toks + 1 }) (E := fun _ _ => False)
    (wpAny_call_entry slot_set_ga (hT _) entry_set_ga ?_ (args_set_ga _ _)) (fun v s' hv => ?_) fun _ _ z => z.elim
  · unfold Builtin.«object.__getattribute__»
    refine wpAny_bind (m := slotArgs "__getattribute__" 1 _) (wpAny_of_eq (a := (Value.ref st, [Value.str "__contains__" s.toks])) rfl ?_)
    dsimp only
    refine wpAny_bind (wpAny_of_eq (a := Str.ofString "__contains__") rfl ?_)
    refine wpAny_bind (wpAny_typeOf (hT _) ?_)
    refine wpAny_bind (m := Builtin.ObjectAttr.find _ _ _) ?_
    unfold Builtin.ObjectAttr.find
    refine wpAny_bind (wpAny_of_eq set_con ?_)
    refine wpAny_bind (m := Builtin.ObjectAttr.getOf _) (wpAny_specialOf (ty_con _) md_get ?_)
    refine wpAny_bind (m := Builtin.ObjectAttr.dataDescriptor? _ _) ?_
    unfold Builtin.ObjectAttr.dataDescriptor?
    refine wpAny_bind (m := Builtin.ObjectAttr.takesStores _) ?_
    unfold Builtin.ObjectAttr.takesStores
    refine wpAny_bind (wpAny_specialOf (ty_con _) md_set ?_)
    refine wpAny_bind (m := specialOf _ _) (wpAny_specialOf (ty_con _) md_del ?_)
    refine wpAny_pure (wpAny_pure ?_)
    show wpAny _ _ (Builtin.ObjectAttr.ownThenClass _ _ _ _) _ _ _
    unfold Builtin.ObjectAttr.ownThenClass
    refine wpAny_bind (m := Builtin.ObjectAttr.inOwnDict _ _) ?_
    unfold Builtin.ObjectAttr.inOwnDict
    refine wpAny_bind (m := Builtin.ObjectAttr.ownDict _) ?_
    unfold Builtin.ObjectAttr.ownDict loadHead
    refine wpAny_bind (wpAny_loadPart (s := { s with toks := s.toks + 1 }) ho ?_)
    show wpAny _ _ (instanceDict st false) _ _ _
    unfold instanceDict
    refine wpAny_bind (wpAny_loadPart (s := { s with toks := s.toks + 1 }) ho ?_)
    refine wpAny_pure (wpAny_pure ?_)
    show wpAny _ _ (Builtin.ObjectAttr.copiedAttributeGuard _ _ >>= _) _ _ _
    refine wpAny_bind (m := Builtin.ObjectAttr.copiedAttributeGuard _ _) (wpAny_of_eq (a := ()) ?_ ?_)
    · unfold Builtin.ObjectAttr.copiedAttributeGuard
      dsimp only
      rw [if_neg (by decide)]
    show wpAny _ _ (rule _ >>= fun _ => pure (Builtin.ObjectAttr.Found.bind (.builtin "method_descriptor.__get__") (.builtin "set.__contains__"))) _ _ _
    refine wpAny_bind (wpAny_rule (wpAny_pure ?_))
    show wpAny _ _ (Builtin.ObjectAttr.bindTo _ _ _ _) _ _ _
    unfold Builtin.ObjectAttr.bindTo
    show wpAny _ _ (holding [Value.builtin "set.__contains__"] (call (.builtin "method_descriptor.__get__") [.builtin "set.__contains__", .ref st, .type "set"]) >>= fun v => ret v) _ _ _
    refine wpAny_bind (wpAny_holding (wpAny_call_entry slot_md_get (ty_con _) entry_md_get ?_ (args_md_get _ _ _)))
    have hsub : isSubtype (.type "set") (.type "set") = pure true := PySem.F.called_set.sub
    unfold Builtin.«method_descriptor.__get__»
    refine wpAny_bind (wpAny_of_eq (a := (Value.builtin "set.__contains__", some (Value.ref st), some (Value.type "set"))) rfl ?_)
    dsimp only
    rw [show Manifest.toldItsClass.contains "set.__contains__" = false by decide +kernel]
    simp only [Bool.false_eq_true, if_false]
    refine wpAny_bind ?_
    refine wpAny_bind (wpAny_of_eq (a := (Str.ofString "__contains__", Value.type "set")) (by kernel_rfl) ?_)
    refine wpAny_bind (wpAny_isInstance (hT _) hsub ?_)
    refine wpAny_pure ?_
    refine wpAny_bind (wpAny_newObj_type (wpAny_pure ⟨_, rfl, wpAny_pure ⟨_, rfl, rfl, rfl⟩⟩) (by size_fits))
  · obtain ⟨rfl, rfl⟩ := hv
    exact wpAny_pure h
end
end Mine
end

-- MFil
section
open PySem PySem.W PyProof.Rows PySem.Calls PySem.SeqAt PySem.Spec
set_option maxRecDepth 100000
namespace Mine
theorem mro_filter : mroOf (.type "filter") = pure [.type "filter", .type "object"] := by kernel_rfl
theorem lookup_filter_new : typeLookup (.type "filter") "__new__" = pure (some (.builtin "filter.__new__")) := by rw [typeLookup_type, builtinLookup_eq_fast]; kernel_rfl
theorem slot_filter_init : Slot "filter" "__init__" "object.__init__" :=
  .of (owner := "object") (n := "__init__") (by rw [typeLookup_type, builtinLookup_eq_fast]; kernel_rfl) (by decide +kernel) (by decide +kernel) (by decide +kernel)
    (by first | exact .inl (by decide +kernel) | exact .inr (by decide +kernel)) (by rw [isSubtype_type]; kernel_rfl)
theorem called_filter : TypeCalled "filter" "filter.__new__" "object.__init__" :=
  ⟨by decide +kernel, by decide +kernel, ⟨_, _, mro_filter⟩, madeBy_type mro_filter lookup_filter_new (by decide +kernel), by decide +kernel, by rw [isSubtype_type]; kernel_rfl, slot_filter_init⟩
theorem typeCall_filter (a b : Value) : checkTypeCall "filter" ⟨[a, b], []⟩ = pure () := by kernel_rfl
theorem newCall_filter (a b : Value) : checkBuiltinCall "filter.__new__" ⟨[.type "filter", a, b], []⟩ = pure () := by kernel_rfl
theorem entry_filter_new : entryFor table "filter.__new__" = some Builtin.«filter.__new__» := entryFor_of_tree (by kernel_rfl)
theorem meets_filter_new (f : Value) (l : Addr) (items : Array Value) (n : Nat) (dct : Option Addr) (sl : Array (Option Value)) :
    Meets (Builtin.«filter.__new__» ⟨[.type "filter", f, .ref l], []⟩) (fun _ R s => s.heap.get? l = some { cls := .type "list", dict := dct, data := .seq items n, slots := sl } ∧
      R (.ok (.ret (.ref (s.heap.push { cls := .type "list_iterator", data := .fields #[.ref l, .int 0 0] }).objs.size)))
        { s with heap := (s.heap.push { cls := .type "list_iterator", data := .fields #[.ref l, .int 0 0] }).push { cls := .type "filter", data := .fields #[f, .ref s.heap.objs.size] } }) :=
  .of_wp fun prog w A R s h => by
    obtain ⟨hp, g, d, tk, os⟩ := s; obtain ⟨hl, h⟩ := h
    have hsub : isSubtype (.type "filter") (.type "filter") = pure true := called_filter.sub
    have hL : Heap.IsList (Shared.heap ⟨hp, g, d, tk, os⟩) l items := ⟨_, hl, rfl, n, rfl⟩
    unfold Builtin.«filter.__new__»
    refine wpAny_bind (m := Builtin.SmallTypes.newClass _ _) (wpAny_of_eq (a := (Value.type "filter", [f, Value.ref l])) ?_ ?_)
    · unfold Builtin.SmallTypes.newClass
      dsimp only
      rw [hsub]
      kernel_rfl
    refine wpAny_bind (m := Builtin.SmallTypes.refuseKeywords _ _ _) (wpAny_of_eq (a := ()) (by kernel_rfl) ?_)
    refine wpAny_bind (wpAny_of_eq (a := ()) (by kernel_rfl) ?_)
    dsimp only
    refine wpAny_bind (wpAny_pyIter_list hL ?_)
    refine wpAny_bind (m := Builtin.SmallTypes.newRecord _ _) ?_
    show wpAny _ _ (newObj (.type "filter") (.fields [f, Value.ref hp.objs.size].toArray)) _ _ _
    refine wpAny_newObj_type ?_ (by size_fits)
    exact wpAny_pure ⟨_, rfl, h⟩
section
variable {prog : Program} {w : World} {A : Around} {E : Value → Shared → Prop} {s : Shared}
noncomputable abbrev IsFilt (h : Heap) (fo : Addr) (f : Value) (it : Addr) : Prop := h.get? fo = some { cls := .type "filter", data := .fields #[f, .ref it] }
theorem filter_new {f : Value} {l : Addr} {items : Array Value} {Q : Value → Shared → Prop} (hL : s.heap.IsList l items)
    (h : ∀ h', IsFilt h' (s.heap.objs.size + 1) f s.heap.objs.size → h'.IsListIter s.heap.objs.size l 0 → (∀ b o, s.heap.get? b = some o → h'.get? b = some o) → Q (.ref (s.heap.objs.size + 1)) { s with heap := h' }) :
    wpAny (model prog w) A (call (.type "filter") [f, .ref l]) Q E s := by
  obtain ⟨⟨c, dct, dt, sl⟩, hl, hc, n, hd⟩ := hL
  replace hc : c = .type "list" := hc
  replace hd : dt = .seq items n := hd
  subst hc hd
  refine callType_new called_filter (by decide) (typeCall_filter _ _) (newCall_filter _ _) (fun obj => PySem.F.args_object_init_3 obj _ _) entry_filter_new (meets_filter_new f l items n dct sl) ⟨hl, ?_⟩
  have hz : (s.heap.push { cls := .type "list_iterator", data := .fields #[.ref l, .int 0 0] }).objs.size = s.heap.objs.size + 1 := Heap.size_push ..
  show _ ∧ _
  rw [hz]
  have he : IsFilt ((s.heap.push { cls := .type "list_iterator", data := .fields #[.ref l, .int 0 0] }).push { cls := .type "filter", data := .fields #[f, .ref s.heap.objs.size] }) (s.heap.objs.size + 1) f s.heap.objs.size := by
    have := Heap.get?_push_size (s.heap.push { cls := .type "list_iterator", data := .fields #[.ref l, .int 0 0] }) (o := { cls := .type "filter", data := .fields #[f, .ref s.heap.objs.size] }) rfl
    rw [hz] at this; exact this
  exact ⟨⟨_, he, rfl⟩, h _ he ⟨_, Heap.get?_push_of_some _ (Heap.get?_push_size _ rfl), rfl, rfl⟩ fun b o x => Heap.get?_push_of_some _ (Heap.get?_push_of_some _ x)⟩
end
end Mine
end

-- MCall
section
open PySem PySem.W PyProof.Rows PySem.Calls PySem.SeqAt PySem.Spec
set_option maxRecDepth 100000
namespace Mine
noncomputable abbrev IsBm (h : Heap) (bm st : Addr) : Prop := h.get? bm = some { cls := .type "builtin_function_or_method", data := .fields #[.builtin "set.__contains__", .ref st] }
theorem plain_set_contains : plainId "set.__contains__" = true := by decide +kernel
theorem sig_con : Manifest.signature? "set.__contains__" = some ⟨.oneArg, "set.__contains__", "__contains__", .self, [⟨"object", .posOnly, true⟩]⟩ := by
  rw [signature?_of (id := "set.__contains__") (n := ['_', '_', 's', 'n', 'i', 'a', 't', 'n', 'o', 'c', '_', '_']) (o := ['t', 'e', 's']) (by kernel_rfl) PySem.F.owner_set]; kernel_rfl
theorem kind_con : builtinKind "set.__contains__" = some .method := by decide +kernel
theorem va_con : Manifest.varargsMethods.contains "set.__contains__" = false := by decide +kernel
theorem set_not_module : isSubtype (.type "set") (.type "module") = pure false := by rw [isSubtype_type]; kernel_rfl
section
variable {prog : Program} {w : World} {A : Around} {E : Value → Shared → Prop} {s : Shared}
theorem bm_call {bm st : Addr} {val : Nat → Str} {n : Nat} {x : Str} {t : Tok} {Q : Value → Shared → Prop} (hb : IsBm s.heap bm st) (hS : SetStr prog w s.heap st val n)
    (h : Q (.bool (((List.range n).map val).any (· == x))) { s with toks := s.toks + 1 }) : wpAny (model prog w) A (call (.ref bm) [.str x t]) Q E s := by
  obtain ⟨M, c, hS, hM, _⟩ := hS
  refine wpAny_call (codeAny_of_tree ?_)
  show wpAny _ _ (callAny (.ref bm) _) _ _ _
  simp only [callAny]
  refine wpAny_bind (wpAny_load hb ?_)
  dsimp only
  rw [if_pos (by decide)]
  show wpAny _ _ (checkBoundCall "set.__contains__" { pos := [Value.ref st, Value.str x t] } >>= fun _ => again (Code.builtin "set.__contains__" { pos := [Value.ref st, Value.str x t] })) _ _ _
  obtain ⟨o, es, ep, tb, ho, ⟨hc1, hc2, hc3⟩, hd, hrest⟩ := id hS
  refine wpAny_bind ?_
  unfold checkBoundCall
  rw [sig_con, kind_con]
  dsimp only
  rw [if_neg (by decide)]
  refine wpAny_bind (wpAny_isInstance hS.typeIs set_not_module ?_)
  rw [va_con]
  rw [if_neg (by decide)]
  refine wpAny_bind (m := isType _) ?_
  unfold isType loadHead
  refine wpAny_bind (wpAny_loadPart ho (wpAny_pure ?_))
  rw [hd]
  dsimp only
  rw [if_neg (by decide)]
  refine wpAny_bind (wpAny_typeOf hS.typeIs ?_)
  refine wpAny_of_eq (a := ()) (by kernel_rfl) ?_
  refine wpAny_pure ⟨plainId_quiet plain_set_contains _, codeAny_builtin entry_set_contains ?_⟩
  rw [Around.under_plainId plain_set_contains _]
  unfold Builtin.«frozenset.__contains__» Builtin.Frozenset.oneOther
  simp only [List.isEmpty_nil, bind_assoc]
  unfold Builtin.Frozenset.addrOf Builtin.Frozenset.withSetAsKey setContains
  refine wpAny_bind (wpAny_pure ?_)
  try dsimp only
  refine wpAny_bind (wpAny_pure ?_)
  try dsimp only
  refine wpAny_bind (wpAny_tryCatch ?_)
  refine wpAny_holding ?_
  refine wpAny_bind ((PySem.strKind prog w).pyHash (k := x) (strKind_is _ _ _ _) ?_)
  refine wpAny_bind (wpAny_setFind_of (s := { s with toks := s.toks + 1 }) (knd := PySem.strKind prog w) (strKind_is _ _ _ _) rfl hS fun r hr => ?_)
  refine wpAny_pure ?_
  show wpAny _ _ (ret (Value.bool r.isSome)) _ _ _
  rw [hr, hM]
  exact wpAny_pure h
end
end Mine
end

-- MWalk
section
open PySem PySem.W PyProof.Rows PySem.Calls PySem.SeqAt PySem.Spec
set_option maxRecDepth 100000
namespace Mine
theorem slot_filter_next : Slot "filter" "__next__" "filter.__next__" :=
  .of (owner := "filter") (n := "__next__") (by rw [typeLookup_type, builtinLookup_eq_fast]; kernel_rfl) (by decide +kernel) (by decide +kernel) (by decide +kernel)
    (by first | exact .inl (by decide +kernel) | exact .inr (by decide +kernel)) (by rw [isSubtype_type]; kernel_rfl)
theorem entry_filter_next : entryFor table "filter.__next__" = some Builtin.«filter.__next__» := entryFor_of_tree (by kernel_rfl)
theorem args_filter_next (a : Value) : argsOk "filter.__next__" ⟨[a], []⟩ := by unfold argsOk; kernel_rfl
section
variable {prog : Program} {w : World} {A : Around} {E : Value → Shared → Prop} {s : Shared}
theorem cs_item {it l : Addr} {i : Nat} {items : Array Value} {x : Value} {Q : Option Value → Shared → Prop} (hit : s.heap.IsListIter it l i) (hl : s.heap.IsList l items) (hx : items[i]? = some x)
    (hQ : ∀ h', h'.IsListIter it l (i + 1) → Heap.SameBut it s.heap h' → Q (some x) { s with heap := h' }) : wpAny (model prog w) A (callSpecial? (.ref it) "__next__") Q E s := by
  obtain ⟨o, ho, hc, hd⟩ := id hit
  obtain ⟨ol, hol, _, nl, hdl⟩ := hl
  refine wpAny_callSpecial?_slot (name := Str.ofString "__next__") hit.typeIs slot_listiter_next (wpAny_call_entry slot_listiter_next hit.typeIs entry_listiter_next ?_ (args_listiter_next _))
  show wpAny _ _ (field (.ref it) 0 >>= _) _ _ s
  refine wpAny_bind (wpAny_field ho hd (x := .ref l) rfl ?_)
  show wpAny _ _ (if (Value.ref l == Value.none) = true then _ else _) _ _ s
  rw [if_neg (show ¬ ((Value.ref l == Value.none) = true) from Bool.false_ne_true)]
  show wpAny _ _ (field (.ref it) 1 >>= _) _ _ s
  refine wpAny_bind (wpAny_field ho hd (x := .int i 0) rfl ?_)
  show wpAny _ _ (seqItems? (.ref l) >>= _) _ _ s
  refine wpAny_bind (wpAny_seqItems hol hdl ?_)
  simp only [Int.toNat_natCast, hx]
  refine wpAny_bind (wpAny_setField ho hd (by simp) (wpAny_pure ⟨x, rfl, hQ _ ?_ (Heap.SameBut.update ..)⟩))
  exact ⟨_, Heap.get?_update_self _ ho (Obj.isFreed_of_fields (Obj.data_mapFields hd _)), (Obj.cls_mapFields ..).trans hc, by
    rw [Obj.data_mapFields hd]; simp [rawInt]⟩
theorem cs_end {it l : Addr} {i : Nat} {items : Array Value} {Q : Option Value → Shared → Prop} (hh : A.handled = none) (hit : s.heap.IsListIter it l i) (hl : s.heap.IsList l items) (hx : items[i]? = none)
    (hE : ∀ h' e, Heap.ExtBut it s.heap h' → (∃ o, h'.get? e = some o ∧ o.cls = .type "StopIteration") → E (.ref e) { s with heap := h' }) : wpAny (model prog w) A (callSpecial? (.ref it) "__next__") Q E s := by
  obtain ⟨o, ho, hc, hd⟩ := id hit
  obtain ⟨ol, hol, _, nl, hdl⟩ := hl
  refine wpAny_callSpecial?_slot (name := Str.ofString "__next__") hit.typeIs slot_listiter_next (wpAny_call_entry slot_listiter_next hit.typeIs entry_listiter_next ?_ (args_listiter_next _))
  show wpAny _ _ (field (.ref it) 0 >>= _) _ _ s
  refine wpAny_bind (wpAny_field ho hd (x := .ref l) rfl ?_)
  show wpAny _ _ (if (Value.ref l == Value.none) = true then _ else _) _ _ s
  rw [if_neg (show ¬ ((Value.ref l == Value.none) = true) from Bool.false_ne_true)]
  show wpAny _ _ (field (.ref it) 1 >>= _) _ _ s
  refine wpAny_bind (wpAny_field ho hd (x := .int i 0) rfl ?_)
  show wpAny _ _ (seqItems? (.ref l) >>= _) _ _ s
  refine wpAny_bind (wpAny_seqItems hol hdl ?_)
  simp only [Int.toNat_natCast, hx]
  refine wpAny_bind (wpAny_rule (wpAny_bind (wpAny_setField ho hd (by simp) ?_)))
  show wpAny _ _ (newExc (.type "StopIteration") [] >>= _) _ _ _
  refine wpAny_bind ?_
  simp only [newExc, newTuple]
  refine wpAny_bind (wpAny_newObj_type ?_ (by size_fits))
  refine wpAny_bind (m := firstArgMember _ _) (wpAny_of_eq (a := Value.none) (by first | rfl | (simp only [firstArgMember]; rfl)) ?_)
  refine wpAny_newObj_type ?_ (by size_fits)
  simp only [raiseNew]
  refine wpAny_bind (wpAny_handled ?_)
  first | rw [show A.in1.handled = none from hh] | rw [hh]
  refine wpAny_bind (wpAny_pure (wpAny_throw ?_))
  exact hE _ _ (((Heap.SameBut.update ..).extBut.push _).push _) ⟨_, Heap.get?_push_size _ rfl, rfl⟩
end
/-- a filter by a set of texts, over a list of texts, at place i -/
structure FS (prog : Program) (w : World) (h : Heap) (fo bm st it l : Addr) (items : Array Value) (val : Nat → Str) (n i : Nat) : Prop where
  fo : IsFilt h fo (.ref bm) it
  bm : IsBm h bm st
  st : SetStr prog w h st val n
  it : h.IsListIter it l i
  ls : h.IsList l items
/-- that all texts of the list pass by -/
noncomputable def passV (val : Nat → Str) (n : Nat) : Value → Bool
  | .str x _ => ((List.range n).map val).any (· == x)
  | _ => false
section
variable {prog : Program} {w : World} {A : Around} {fo bm st it l : Addr} {items : Array Value} {val : Nat → Str} {n : Nat} {R : Result → Shared → Prop}
theorem FS.keep {h h' : Heap} {i j : Nat} (F : FS prog w h fo bm st it l items val n i) (ne1 : fo ≠ it) (ne2 : bm ≠ it) (ne3 : st ≠ it) (ne4 : l ≠ it) (hk : ∀ b o, b ≠ it → h.get? b = some o → h'.get? b = some o) (hi : h'.IsListIter it l j) : FS prog w h' fo bm st it l items val n j :=
  ⟨hk _ _ ne1 F.fo, hk _ _ ne2 F.bm, F.st.at fun o e => hk _ _ ne3 e, hi, F.ls.at fun o e => hk _ _ ne4 e⟩
theorem filt_code (hh : A.handled = none) (ne1 : fo ≠ it) (ne2 : bm ≠ it) (ne3 : st ≠ it) (ne4 : l ≠ it) (hval : ∀ v ∈ items, ∃ x t, v = .str x t) :
    ∀ (k i : Nat) (s : Shared), items.size - i = k → i ≤ items.size → FS prog w s.heap fo bm st it l items val n i →
      (∀ v rest i' h' tk, (items.toList.drop i).filter (passV val n) = v :: rest → (items.toList.drop i').filter (passV val n) = rest → i' ≤ items.size → FS prog w h' fo bm st it l items val n i' → (∀ b o, b ≠ it → s.heap.get? b = some o → h'.get? b = some o) → R (.ok (.ret v)) { s with heap := h', toks := tk }) →
      (∀ e h' tk, (items.toList.drop i).filter (passV val n) = [] → (∃ o, h'.get? e = some o ∧ o.cls = .type "StopIteration") → (∀ b o, b ≠ it → s.heap.get? b = some o → h'.get? b = some o) → R (.error (.ref e)) { s with heap := h', toks := tk }) →
      codeAny (model prog w) A (.builtin "filter.__next__" ⟨[.ref fo], []⟩) R s := by
  intro k
  induction k with
  | zero =>
    intro i s hk hi F hq he
    have hin : i = items.size := by omega
    have hnil : items.toList.drop i = [] := List.drop_eq_nil_of_le (by simp; omega)
    refine codeAny_builtin entry_filter_next ?_
    rw [Around.under_plainId slot_filter_next.plain _]
    unfold Builtin.«filter.__next__»
    refine wpAny_bind (m := slotArgs "__next__" 0 _) (wpAny_of_eq (a := (Value.ref fo, [])) rfl ?_)
    dsimp only
    refine wpAny_bind (wpAny_field F.fo rfl (x := .ref bm) rfl ?_)
    refine wpAny_bind (wpAny_field F.fo rfl (x := .ref it) rfl ?_)
    refine wpAny_bind (cs_end hh F.it F.ls (Array.getElem?_eq_none (by omega)) fun h' e hx ho => ?_)
    exact he e h' s.toks (by rw [hnil]; rfl) ho hx
  | succ k ih =>
    intro i s hk hi F hq he
    have hlt : i < items.size := by omega
    have hx : items[i]? = some items[i] := Array.getElem?_eq_getElem hlt
    have hdr : items.toList.drop i = items[i] :: items.toList.drop (i + 1) := by
      rw [List.drop_eq_getElem_cons (by simpa using hlt)]; simp
    obtain ⟨x, t, hv⟩ := hval items[i] (Array.getElem_mem hlt)
    rw [hv] at hx hdr
    refine codeAny_builtin entry_filter_next ?_
    rw [Around.under_plainId slot_filter_next.plain _]
    unfold Builtin.«filter.__next__»
    refine wpAny_bind (m := slotArgs "__next__" 0 _) (wpAny_of_eq (a := (Value.ref fo, [])) rfl ?_)
    dsimp only
    refine wpAny_bind (wpAny_field F.fo rfl (x := .ref bm) rfl ?_)
    refine wpAny_bind (wpAny_field F.fo rfl (x := .ref it) rfl ?_)
    refine wpAny_bind (cs_item F.it F.ls hx fun h₁ hit₁ sb => ?_)
    have F₁ : FS prog w h₁ fo bm st it l items val n (i + 1) := F.keep ne1 ne2 ne3 ne4 (fun b o nb e => sb.extBut b o nb e) hit₁
    dsimp only
    refine wpAny_bind (wpAny_holding ?_)
    rw [if_neg (show ¬ ((Value.ref bm == Value.none || Value.ref bm == Value.type "bool") = true) by simp only [Bool.or_eq_true, not_or]; exact ⟨Bool.false_ne_true, Bool.false_ne_true⟩)]
    refine wpAny_bind (bm_call (s := { s with heap := h₁ }) F₁.bm F₁.st (wpAny_holding (wpAny_truthy_bool ?_)))
    cases hp : ((List.range n).map val).any (· == x) with
    | true =>
      rw [if_pos rfl]
      refine wpAny_pure (hq _ _ (i + 1) h₁ (s.toks + 1) ?_ rfl hlt F₁ fun b o nb e => sb.extBut b o nb e)
      rw [hdr, List.filter_cons_of_pos (by simpa [passV] using hp)]
    | false =>
      rw [if_neg (by decide)]
      have hdf : (items.toList.drop i).filter (passV val n) = (items.toList.drop (i + 1)).filter (passV val n) := by
        rw [hdr, List.filter_cons_of_neg (by simp only [passV]; rw [hp]; decide)]
      refine wpAny_pure ⟨plainId_quiet slot_filter_next.plain _, ih (i + 1) { s with heap := h₁, toks := s.toks + 1 } (by omega) hlt F₁ (fun v rest i' h' tk e1 e2 hi' F' kp => ?_) (fun e h' tk e1 ho kp => ?_)⟩
      · exact hq v rest i' h' tk (hdf.trans e1) e2 hi' F' fun b o nb e => kp b o nb (sb.extBut b o nb e)
      · exact he e h' tk (hdf.trans e1) ho fun b o nb e' => kp b o nb (sb.extBut b o nb e')
end
end Mine
end

-- MList
section
open PySem PySem.W PyProof.Rows PySem.Calls PySem.SeqAt PySem.Spec
set_option maxRecDepth 100000
namespace Mine
theorem slot_filter_iter : Slot "filter" "__iter__" "filter.__iter__" :=
  .of (owner := "filter") (n := "__iter__") (by rw [typeLookup_type, builtinLookup_eq_fast]; kernel_rfl) (by decide +kernel) (by decide +kernel) (by decide +kernel)
    (by first | exact .inl (by decide +kernel) | exact .inr (by decide +kernel)) (by rw [isSubtype_type]; kernel_rfl)
theorem entry_filter_iter : entryFor table "filter.__iter__" = some Builtin.«dict_keyiterator.__iter__» :=
  entryFor_alias (id' := "dict_keyiterator.__iter__") (by kernel_rfl) (by first | rfl | decide +kernel) (by decide +kernel) (by kernel_rfl)
theorem args_filter_iter (a : Value) : argsOk "filter.__iter__" ⟨[a], []⟩ := by unfold argsOk; kernel_rfl
theorem filter_len : typeLookup (.type "filter") "__len__" = pure none := by rw [typeLookup_type, builtinLookup_eq_fast]; kernel_rfl
theorem filter_hint : typeLookup (.type "filter") "__length_hint__" = pure none := by rw [typeLookup_type, builtinLookup_eq_fast]; kernel_rfl
section
variable {prog : Program} {w : World} {A : Around} {fo bm st it l : Addr} {items : Array Value} {val : Nat → Str} {n : Nat}
noncomputable def FSt (prog : Program) (w : World) (fo bm st it l : Addr) (items : Array Value) (val : Nat → Str) (n : Nat) (j : Nat) (h : Heap) : Prop :=
  ∃ i, i ≤ items.size ∧ FS prog w h fo bm st it l items val n i ∧ (items.toList.drop i).filter (passV val n) = (items.toList.filter (passV val n)).drop j
theorem filt_walks (hh : A.handled = none) (ne1 : fo ≠ it) (ne2 : bm ≠ it) (ne3 : st ≠ it) (ne4 : l ≠ it) (hval : ∀ v ∈ items, ∃ x t, v = .str x t) :
    Walks prog w A fo [fo, it, l, bm, st] [it] (items.toList.filter (passV val n)).length (fun j v => (items.toList.filter (passV val n))[j]? = some v) (FSt prog w fo bm st it l items val n) where
  sub := fun b hb => by simp at hb; simp [hb]
  frame := fun j h h' hs hk => by
    obtain ⟨i, hi, F, e⟩ := hs
    exact ⟨i, hi, ⟨hk fo (by simp) _ F.fo, hk bm (by simp) _ F.bm, F.st.at fun o e => hk st (by simp) o e, F.it.at fun o e => hk it (by simp) o e, F.ls.at fun o e => hk l (by simp) o e⟩, e⟩
  item := fun j s Q E hj hs hQ => by
    obtain ⟨i, hi, F, e⟩ := hs
    have hT : s.TypeIs (.ref fo) "filter" := ⟨_, F.fo, rfl⟩
    unfold pyNext
    refine wpAny_bind (wpAny_attempt (wpAny_callSpecial?_slot (name := Str.ofString "__next__") hT slot_filter_next (wpAny_call (codeAny_call_builtin_code (plainId_quiet slot_filter_next.plain _) (slot_filter_next.check _ _ _ _ _ _ _ _ hT (args_filter_next _) (filt_code hh ne1 ne2 ne3 ne4 hval _ i s rfl hi F (fun v rest i' h' tk e1 e2 hi' F' kp => ?_) (fun ex h' tk e1 ho kp => ?_)))))))
    · refine wpAny_pure ?_
      have ed : (items.toList.filter (passV val n)).drop j = v :: rest := by rw [← e, e1]
      refine hQ v h' tk ?_ ⟨i', hi', F', ?_⟩ fun b o nb e' => kp b o (by simpa using nb) e'
      · have := congrArg (fun l => l[0]?) ed
        simpa using this
      · rw [e2, ← List.drop_drop, ed]; rfl
    · exfalso
      rw [e] at e1
      have := List.drop_eq_nil_iff.mp e1
      omega
  done := fun s Q E hs hQ => by
    obtain ⟨i, hi, F, e⟩ := hs
    have hT : s.TypeIs (.ref fo) "filter" := ⟨_, F.fo, rfl⟩
    have en : (items.toList.drop i).filter (passV val n) = [] := by rw [e]; simp
    unfold pyNext
    refine wpAny_bind (wpAny_attempt (wpAny_callSpecial?_slot (name := Str.ofString "__next__") hT slot_filter_next (wpAny_call (codeAny_call_builtin_code (plainId_quiet slot_filter_next.plain _) (slot_filter_next.check _ _ _ _ _ _ _ _ hT (args_filter_next _) (filt_code hh ne1 ne2 ne3 ne4 hval _ i s rfl hi F (fun v rest i' h' tk e1 e2 hi' F' kp => ?_) (fun ex h' tk e1 ho kp => ?_)))))))
    · rw [en] at e1; cases e1
    · obtain ⟨o, ho, hc⟩ := ho
      refine wpAny_bind (wpAny_isInstance (T := "StopIteration") (b := true) ⟨o, ho, hc⟩ isSubtype_stop ?_)
      exact wpAny_pure (hQ h' tk fun b o nb e' => kp b o (by simpa using nb) e')
  self := fun j s Q E hs hQ => by
    obtain ⟨i, hi, F, e⟩ := hs
    have hT : s.TypeIs (.ref fo) "filter" := ⟨_, F.fo, rfl⟩
    refine wpAny_pyIter_slot hT slot_filter_iter (wpAny_call_entry slot_filter_iter hT entry_filter_iter ?_ (args_filter_iter _))
    show wpAny _ _ (ret (.ref fo)) _ _ s
    exact wpAny_pure ⟨_, rfl, "filter", _, hT, slot_filter_next.lookup, hQ⟩
end
section
variable {prog : Program} {w : World} {A : Around} {E : Value → Shared → Prop} {s : Shared} {fo bm st it l : Addr} {items : Array Value} {val : Nat → Str} {n : Nat}
/-- list(filter object) -/
theorem list_filter {Q : Value → Shared → Prop} (hh : A.handled = none) (ne1 : fo ≠ it) (ne2 : bm ≠ it) (ne3 : st ≠ it) (ne4 : l ≠ it) (hval : ∀ v ∈ items, ∃ x t, v = .str x t) (F : FS prog w s.heap fo bm st it l items val n 0) (hsz : items.size ≤ sizeLine)
    (h : ∀ (h' : Heap) (tk : Nat) (acc : Array Value), (∀ b o, b ≠ it → s.heap.get? b = some o → h'.get? b = some o) → h'.PlainList s.heap.objs.size acc → acc.toList = items.toList.filter (passV val n) → Q (.ref s.heap.objs.size) { s with heap := h', toks := tk }) :
    wpAny (model prog w) A (call (.type "list") [.ref fo]) Q E s := by
  refine callType_codes (Q₁ := fun obj s₁ => obj = .ref s.heap.objs.size ∧ s₁ = { s with heap := s.heap.push { cls := .type "list", data := .seq #[] } }) PySem.F.called_list (PySem.F.typeCall_list_1 _) PySem.F.entry_list_init
    (code_list_new _ ⟨rfl, rfl⟩) fun obj s₁ h₁ => ?_
  obtain ⟨rfl, rfl⟩ := h₁
  have hS : (s.heap.push { cls := .type "list", data := .seq #[] }).get? s.heap.objs.size = some { cls := .type "list", data := .seq #[] } := Heap.get?_push_size _ rfl
  have kp : ∀ b o, s.heap.get? b = some o → (s.heap.push { cls := .type "list", data := .seq #[] }).get? b = some o := fun b o e => Heap.get?_push_of_some _ e
  refine ⟨⟨_, hS, rfl⟩, PySem.F.args_list_init_2 _ _, ?_⟩
  generalize hD : s.heap.objs.size = D at hS h ⊢
  have old : ∀ b o, s.heap.get? b = some o → b ≠ D := fun b o e q => Nat.ne_of_lt (Heap.lt_size e) (q.trans hD.symm)
  have nfo := old _ _ F.fo
  have nbm := old _ _ F.bm
  have nit : it ≠ D := by obtain ⟨o, e, _⟩ := F.it; exact old _ _ e
  have nl : l ≠ D := by obtain ⟨o, e, _⟩ := F.ls; exact old _ _ e
  have nst : st ≠ D := by obtain ⟨M, c, ⟨o, es, ep, t, ho, _⟩, _⟩ := F.st; exact old _ _ ho
  have hDf : D ∉ [fo, it, l, bm, st] := by
    simp only [List.mem_cons, List.not_mem_nil, or_false, not_or]
    exact ⟨Ne.symm nfo, Ne.symm nit, Ne.symm nl, Ne.symm nbm, Ne.symm nst⟩
  show wpAny _ _ (do let old ← Builtin.List.listItems (.ref D); Builtin.List.listUpdate (.ref D) (fun _ => #[]); letGo old.toList.reverse; Builtin.List.listExtendWith (.ref D) (.ref fo) .none) _ _ _
  refine wpAny_bind ?_
  unfold Builtin.List.listItems
  refine wpAny_bind (wpAny_seqItems hS rfl (wpAny_pure ?_))
  show wpAny _ _ (updateSeq D (fun _ => #[]) >>= fun _ => letGo (#[] : Array Value).toList.reverse >>= fun _ => Builtin.List.listExtendWith (.ref D) (.ref fo) .none) _ _ _
  refine wpAny_bind (wpAny_updateSeq hS rfl ?_)
  have hS₂ := Heap.get?_update_self (Obj.mapSeq (fun _ => (#[] : Array Value))) hS rfl
  have oth : ∀ b o, b ≠ D → s.heap.get? b = some o → ((s.heap.push { cls := .type "list", data := .seq #[] }).update D (Obj.mapSeq (fun _ => (#[] : Array Value)))).get? b = some o :=
    fun b o hb e => (Heap.get?_update_other _ _ (Ne.symm hb)).trans (kp b o e)
  refine wpAny_bind (wpAny_letGo ?_)
  generalize (s.heap.push { cls := .type "list", data := .seq #[] }).update D (Obj.mapSeq (fun _ => (#[] : Array Value))) = h₂ at hS₂ oth ⊢
  have Fof : ∀ h', (∀ b o, b ≠ D → h₂.get? b = some o → h'.get? b = some o) → FS prog w h' fo bm st it l items val n 0 := fun h' k =>
    ⟨k _ _ nfo (oth _ _ nfo F.fo), k _ _ nbm (oth _ _ nbm F.bm), F.st.at fun o e => k _ _ nst (oth _ _ nst e), F.it.at fun o e => k _ _ nit (oth _ _ nit e), F.ls.at fun o e => k _ _ nl (oth _ _ nl e)⟩
  have F₂ := Fof h₂ fun _ _ _ e => e
  have hT : Shared.TypeIs { s with heap := h₂ } (.ref fo) "filter" := ⟨_, F₂.fo, rfl⟩
  unfold Builtin.List.listExtendWith
  refine wpAny_bind (wpAny_typeOf hT ?_)
  have h1 : Builtin.List.listSameRef (.ref D) (.ref fo) = false := by simp [Builtin.List.listSameRef, Ne.symm nfo]
  rw [if_neg (by rw [h1]; decide)]
  have Wk := filt_walks (prog := prog) (w := w) (A := A.in1.in1) (n := n) (val := val) (by simpa using hh) ne1 ne2 ne3 ne4 hval
  refine wpAny_bind (Wk.self 0 _ _ _ ⟨0, Nat.zero_le _, F₂, by simp⟩ ?_)
  refine wpAny_bind (wpAny_holding ?_)
  unfold Builtin.List.listLengthHint
  refine wpAny_bind (wpAny_specialOf hT filter_len ?_)
  dsimp only
  rw [if_neg (by decide)]
  rw [if_neg (by decide)]
  refine wpAny_bind (wpAny_specialOf hT filter_hint ?_)
  refine wpAny_pure ?_
  rw [if_pos (by decide)]
  refine wpAny_bind (wpAny_rule ?_)
  refine wpAny_bind ?_
  show wpAny _ _ (updateSeq D (·.push .none) >>= fun _ => updateSeq D (·.pop)) _ _ _
  refine wpAny_bind (wpAny_updateSeq hS₂ rfl ?_)
  have hS₃ := Heap.get?_update_self (Obj.mapSeq (·.push Value.none)) hS₂ rfl
  refine wpAny_updateSeq (hz := by seq_fits) hS₃ rfl ?_
  have hS₄ := Heap.get?_update_self (Obj.mapSeq (·.pop)) hS₃ rfl
  have oth₄ : ∀ b o, b ≠ D → h₂.get? b = some o → ((h₂.update D (Obj.mapSeq (·.push Value.none))).update D (Obj.mapSeq (·.pop))).get? b = some o := fun b o hb e =>
    (Heap.get?_update_other _ _ (Ne.symm hb)).trans ((Heap.get?_update_other _ _ (Ne.symm hb)).trans e)
  refine wpAny_pure ⟨plainId_quiet PySem.F.plain_extend_loop _, ?_⟩
  refine codeAny_extend_loopS (A := A.in1) Wk.toS (Nat.le_trans (List.length_filter_le _ _) (by rw [Array.length_toList]; exact hsz)) D hDf .none _ 0 _ #[] _ rfl (Nat.zero_le _) ⟨0, Nat.zero_le _, Fof _ oth₄, by simp⟩ hS₄ (ItemsOf.nil _) fun s' acc' c' hm hS' hacc => ?_
  rw [Moved.eq_with hm]
  refine ⟨rfl, h s'.heap s'.toks acc' (fun b o nb e => ?_) ⟨c', hS'⟩ ?_⟩
  · have nD := old b o e
    exact hm.heap b o (by simp only [List.mem_cons, List.not_mem_nil, or_false, not_or]; exact ⟨nD, nb⟩) (oth₄ b o nD (oth b o nD e))
  · apply List.ext_getElem?
    intro j
    rw [Array.getElem?_toList]
    cases hj : acc'[j]? with
    | some v => rw [hacc.2 j v hj]
    | none =>
      have := Array.getElem?_eq_none_iff.mp hj
      rw [List.getElem?_eq_none (by have := hacc.1; omega)]
end
end Mine
end

-- Merge
section
open PySem PySem.W PyProof.Rows PySem.Calls PySem.SeqAt
set_option maxRecDepth 100000
namespace Mine
section
variable {prog : Program} {w : World} {A : Around} {h₀ : Heap} {k : Nat}
variable {W Y : List Addr} {sc : List (Str × NameKind)} {env : Env} {m : Mp} {s : Shared}

theorem Reps.filterS {h : Heap} {p : Value → Bool} {q : Str → Bool} (hp : ∀ x t, p (.str x t) = q x) : ∀ {L : List Str} {vs : List Value}, Reps W h (L.map D.str) vs → Reps W h ((L.filter q).map D.str) (vs.filter p)
  | [], vs, r => by simp only [List.map_nil, Reps] at r; subst r; simp [Reps]
  | x :: L, vs, r => by
    simp only [List.map_cons, Reps] at r
    obtain ⟨v, t, rfl, rv, rt⟩ := r
    have ih := Reps.filterS hp rt
    simp only [Rep] at rv
    obtain ⟨u, rfl⟩ := rv
    rw [List.filter_cons, List.filter_cons, hp]
    cases q x
    · exact ih
    · exact Reps.cons rep_str ih
theorem Reps.anyS {W' : List Addr} {h h' : Heap} : ∀ {L : List Str} {vs : List Value}, Reps W h (L.map D.str) vs → Reps W' h' (L.map D.str) vs
  | [], vs, r => by simp only [List.map_nil, Reps] at r ⊢; exact r
  | x :: L, vs, r => by
    simp only [List.map_cons, Reps] at r
    obtain ⟨v, t, rfl, rv, rt⟩ := r
    exact Reps.cons (by simp only [Rep] at rv ⊢; exact rv) (Reps.anyS rt)
theorem all_strs {h : Heap} : ∀ {L : List Str} {vs : List Value}, Reps W h (L.map D.str) vs → ∀ (i : Nat) v, vs[i]? = some v → ∃ t, v = .str (L.getD i default) t
  | [], vs, r, i, v, hv => by simp only [List.map_nil, Reps] at r; subst r; simp at hv
  | x :: L, vs, r, i, v, hv => by
    simp only [List.map_cons, Reps] at r
    obtain ⟨u, t, rfl, rv, rt⟩ := r
    cases i with
    | zero =>
      simp only [Rep] at rv
      obtain ⟨q, rfl⟩ := rv
      simp at hv; subst hv
      exact ⟨q, rfl⟩
    | succ i => simpa using all_strs rt i v (by simpa using hv)
theorem range_getD (L : List Str) : (List.range L.length).map (fun i => L.getD i default) = L := by
  apply List.ext_getElem?
  intro i
  rw [List.getElem?_map]
  by_cases hi : i < L.length
  · rw [List.getElem?_range hi]; simp [List.getD_eq_getElem?_getD, hi]
  · rw [List.getElem?_eq_none (by simpa using hi), List.getElem?_eq_none (by simpa using hi)]; rfl
theorem keptAll_star {es : List Expr} {pos : Pos} (h : es.all noStar = true) : (backTo pos (starEach es env)).any (·.1) = false := any_star h

/-- list(filter(set(X2).__contains__, X1)) -/
theorem merge_ua {ev : Expr → Option D} (H : ES prog w A W sc env m h₀ ev) (B : Base w.params h₀) (hh : A.handled = none) (F : FR W sc env s.heap m) (T : Tp h₀ s.heap) {X1 X2 : Expr} {A1 A2 : List Str} {p1 p2 p3 p4 p5 p6 p7 : Pos} {Q E : Value → Shared → Prop}
    (s1 : noStar X1 = true) (s2 : noStar X2 = true) (l1 : A1.length ≤ bound) (l2 : A2.length ≤ 1000) (hx1 : ev X1 = some (S A1)) (hx2 : ev X2 = some (S A2)) (f1 : sc.lookup ("list" : Str) = some .globalImplicit) (f2 : sc.lookup ("filter" : Str) = some .globalImplicit) (f3 : sc.lookup ("set" : Str) = some .globalImplicit)
    (hq : Then W s (S (A1.filter fun x => A2.contains x)) Q) :
    wpAny (model prog w) A (eval (.Call (.Name "list" p1) [.Call (.Name "filter" p2) [.Attribute (.Call (.Name "set" p3) [X2] [] p4) "__contains__" p5, X1] [] p6] [] p7) env) Q E s := by
  rw [arm_eval_Call_Name']
  refine wpAny_bind (glob_blt B F T f1 (by decide) (by decide) (v := .type "list") (by kernel_rfl) (by kernel_rfl) ?_)
  refine PySem.callWith_type (keptAll_star rfl) (evalArgs_of (by simp) rfl (wpAny_items_cons ?_))
  rw [arm_eval_Call_Name']
  refine wpAny_bind (glob_blt B F T f2 (by decide) (by decide) (v := .type "filter") (by kernel_rfl) (by kernel_rfl) ?_)
  have hs2 : ([.Attribute (.Call (.Name "set" p3) [X2] [] p4) "__contains__" p5, X1] : List Expr).all noStar = true := by rw [List.all_cons, List.all_cons, List.all_nil, s1]; rfl
  refine PySem.callWith_type (keptAll_star hs2) (evalArgs_of (by simp) hs2 (wpAny_items_cons (Attribute_ok rfl ?_)))
  rw [arm_eval_Call_Name']
  refine wpAny_bind (glob_blt B F T f3 (by decide) (by decide) (v := .type "set") (by kernel_rfl) (by kernel_rfl) ?_)
  refine PySem.callWith_type (keptAll_star (by simp [s2])) (evalArgs_of (by simp) (by simp [s2]) (wpAny_items_cons (H hx2 F T fun v2 s₁ k₁ r₁ => wpAny_items_nil ?_) (starEach_cons s2 _ _)))
  obtain ⟨h₁, tk₁, rfl, hk₁⟩ := k₁
  have F₁ := F.keep hk₁
  have T₁ := T.keep hk₁
  simp only [Rep] at r₁
  obtain ⟨l₂, it₂, rfl, hl2W, hl2, hr2⟩ := r₁
  have sz2 : it₂.size = A2.length := by have := hr2.length; rw [Array.length_toList, List.length_map] at this; exact this
  refine set_strs (s := { s with heap := h₁, toks := tk₁ }) (val := fun i => A2.getD i default) hh hl2 (fun i v hv => all_strs hr2 i v (by rw [Array.getElem?_toList]; exact hv)) (by rw [sz2]; unfold scanBound; omega) fun h₂ tk₂ hS hk₂ => ?_
  have hst : h₁.get? h₁.objs.size = none := size_none h₁
  generalize h₁.objs.size = st at hS hst ⊢
  obtain ⟨M, c, ⟨⟨ocls, odict, odata, oslots⟩, es, ep, tb, ho, ⟨hc1, hc2, hc3⟩, hd, hrest⟩, hM, hcn⟩ := id hS
  simp only at hc1 hc2 hc3 hd
  subst hc1 hc2 hc3 hd
  refine set_attr (s := { s with heap := h₂, toks := tk₂ }) ho ?_
  have k₃ : ∀ b o, h₂.get? b = some o → (h₂.push { cls := .type "builtin_function_or_method", data := .fields #[.builtin "set.__contains__", .ref st] }).get? b = some o := fun b o e => Heap.get?_push_of_some _ e
  have hb₃ : IsBm (h₂.push { cls := .type "builtin_function_or_method", data := .fields #[.builtin "set.__contains__", .ref st] }) h₂.objs.size st := Heap.get?_push_size _ rfl
  have hbn : h₂.get? h₂.objs.size = none := size_none h₂
  dsimp only
  generalize h₂.push { cls := .type "builtin_function_or_method", data := .fields #[.builtin "set.__contains__", .ref st] } = h₃ at k₃ hb₃ ⊢
  generalize h₂.objs.size = bm at hb₃ hbn ⊢
  have up3 : ∀ b o, h₁.get? b = some o → h₃.get? b = some o := fun b o e => k₃ b o (hk₂ b o e)
  refine wpAny_items_cons (H hx1 (s := { s with heap := h₃, toks := tk₂ + 1 }) (F₁.keep up3) (T₁.keep up3) fun v1 s₄ k₄ r₄ => wpAny_items_nil ?_) (starEach_cons s1 _ _)
  obtain ⟨h₄, tk₄, rfl, hk₄⟩ := k₄
  dsimp only at hk₄
  simp only [Rep] at r₄
  obtain ⟨l₁, it₁, rfl, hl1W, hl1, hr1⟩ := r₄
  refine filter_new (s := { s with heap := h₄, toks := tk₄ }) hl1 fun h₅ hfo hit hk₅ => wpAny_items_nil ?_
  have hin : h₄.get? h₄.objs.size = none := size_none h₄
  dsimp only at hfo hit hk₅ ⊢
  have hin1 : h₄.get? (h₄.objs.size + 1) = none := by
    cases e : h₄.get? (h₄.objs.size + 1) with
    | none => rfl
    | some o => exact absurd (Heap.lt_size e) (Nat.not_lt.mpr (Nat.le_succ _))
  have ne1 : h₄.objs.size + 1 ≠ h₄.objs.size := by omega
  generalize h₄.objs.size + 1 = fo at hfo hin1 ne1 ⊢
  generalize h₄.objs.size = it at hfo hit hin ne1 ⊢
  have up5 : ∀ b o, h₃.get? b = some o → h₅.get? b = some o := fun b o e => hk₅ b o (hk₄ b o e)
  have FS₅ : FS prog w h₅ fo bm st it l₁ it₁ (fun i => A2.getD i default) it₂.size 0 :=
    ⟨hfo, up5 _ _ hb₃, (hS.at fun o e => k₃ _ o e).at fun o e => up5 _ o e, hit, hl1.at fun o e => hk₅ _ o e⟩
  have ne2 : bm ≠ it := fun q => by have := hk₄ _ _ hb₃; rw [q, hin] at this; cases this
  have ne3 : st ≠ it := fun q => by have := hk₄ _ _ (k₃ _ _ ho); rw [q, hin] at this; cases this
  have ne4 : l₁ ≠ it := fun q => by obtain ⟨o, e, _⟩ := hl1; rw [q, hin] at e; cases e
  refine list_filter (s := { s with heap := h₅, toks := tk₄ }) hh ne1 ne2 ne3 ne4 (fun v hv => ?_) FS₅ ?_ fun h₆ tk₆ acc hk₆ hpl hacc => ?_
  · obtain ⟨i, hi, rfl⟩ := Array.mem_iff_getElem.mp hv
    obtain ⟨t, e⟩ := all_strs hr1 i it₁[i] (by rw [Array.getElem?_toList]; exact Array.getElem?_eq_getElem hi)
    exact ⟨_, t, e⟩
  · have := hr1.length; rw [Array.length_toList, List.length_map] at this
    rw [this]; exact Nat.le_trans l1 bound_le
  · have up : ∀ b o, s.heap.get? b = some o → h₆.get? b = some o := fun b o e => by
      have e4 := hk₄ b o (up3 b o (hk₁ b o e))
      exact hk₆ b o (fun q => by rw [q, hin] at e4; cases e4) (hk₅ b o e4)
    refine hq _ _ ⟨h₆, tk₆, rfl, up⟩ ?_
    simp only [Rep]
    refine ⟨_, acc, rfl, fun q => ?_, hpl.isList, ?_⟩
    · obtain ⟨o, e⟩ := F.live _ q
      have e5 := hk₅ _ _ (hk₄ _ _ (up3 _ _ (hk₁ _ _ e)))
      have e6 : h₅.get? h₅.objs.size = none := size_none h₅
      exact absurd (e5.symm.trans e6) (by simp)
    · rw [hacc]
      have hfil := hr1.filterS (p := passV (fun i => A2.getD i default) it₂.size) (q := fun x => A2.contains x) fun x t => by
        simp only [passV]
        rw [sz2, range_getD]
        rw [Bool.eq_iff_iff]
        simp
      exact hfil.anyS
end
end Mine
end

-- MergeC
section
open PySem PySem.W PyProof.Rows PySem.Calls PySem.SeqAt
set_option maxRecDepth 100000
namespace Mine
theorem at63 (P : Params) : ∃ o, (K P).lookup 63 = some o ∧ o.data = .func (fdOf P 63) := ⟨_, rfl, rfl⟩
theorem bd63 (P : Params) : (fdOf P 63).body = .stmts (bodyOf P 63) := rfl
theorem ok63 (P : Params) : fnOk ["e1", "e2"] (fdOf P 63) = true := by kernel_rfl
theorem cd63 (P : Params) : codeIn (K P) (fdOf P 63).code (fdOf P 63).qualname = true := by kernel_rfl
theorem bi63 (P : Params) (vs : List Value) (h : vs.length = 2) : bindArgs (fdOf P 63) ⟨vs, []⟩ = pure ((["e1", "e2"] : List Str).zip vs) := by
  obtain ⟨a, b, rfl⟩ := len2 h
  kernel_rfl
theorem gl63 (P : Params) : nsIn (K P) mainGlobals "merge_entries" = some (some (.ref 63)) := by kernel_rfl
noncomputable abbrev sc63 (P : Params) := (fdOf P 63).scope.names
/-- an Entry as data: agents, rules, delay, rate -/
structure Ent where
  ags : List Str
  rs : List Rule
  dl : Option Int
  rt : Option Int
noncomputable def entE (a : Addr) (e : Ent) : D := entD a (S e.ags) e.rs (optD e.dl) (optD e.rt)
noncomputable def mergeE (x y : Ent) : Ent := ⟨x.ags.filter fun s => y.ags.contains s, x.rs ++ y.rs, if y.dl.isNone then x.dl else y.dl, if y.rt.isNone then x.rt else y.rt⟩
noncomputable def m63 (a b : Addr) (x y : Ent) (r : D) : Mp := ("entry", r) :: (["e1", "e2"] : List Str).zip [entE a x, entE b y]
section
variable {F M : Str → List D → Option D}
theorem optD_none (o : Option Int) : pcmp .Is (optD o) .none = some o.isNone := by cases o <;> rfl
theorem attr_ent (a : Addr) (x : Ent) : pattr (entE a x) "useragents" = some (S x.ags) ∧ pattr (entE a x) "rulelines" = some (.lst (x.rs.map ruleD)) ∧ pattr (entE a x) "delay" = some (optD x.dl) ∧ pattr (entE a x) "req_rate" = some (optD x.rt) := by
  refine ⟨rfl, rfl, ?_, ?_⟩
  · cases h : x.dl <;> simp only [entE, entD, h, optD] <;> rfl
  · cases h : x.rt <;> simp only [entE, entD, h, optD] <;> rfl
theorem v_attr {n : Nat} {sc : List (Str × NameKind)} {m : Mp} {x name : Str} {q p : Pos} {a d : D} (hv : pev F M n sc m (.Name x q) = some a) (h : pattr a name = some d) : pev F M (n + 1) sc m (.Attribute (.Name x q) name p) = some d := by
  show hAttr _ (.Name x q) name = _
  unfold hAttr; rw [if_pos (show notSuper (.Name x q) = true from rfl), hv]; exact h
theorem rl63 (P : Params) (a b : Addr) (x y : Ent) (r : D) (hl : x.rs.length + y.rs.length ≤ bound) : pev F M 40 (sc63 P) (m63 a b x y r) (asgVal ((bodyOf P 63).drop 2)) = some (.lst ((x.rs ++ y.rs).map ruleD)) :=
  v_bin (v_attr (v_name rfl (by decide)) (attr_ent a x).2.1) (v_attr (v_name rfl (by decide)) (attr_ent b y).2.1) (add_R _ _ hl)
theorem dl63 (P : Params) (a b : Addr) (x y : Ent) (r : D) : pev F M 40 (sc63 P) (m63 a b x y r) (asgVal ((bodyOf P 63).drop 3)) = some (optD (mergeE x y).dl) := by
  refine v_if y.dl.isNone (t_cmp rfl (v_attr (v_name rfl (by decide)) (attr_ent b y).2.2.1) (by kernel_rfl) (optD_none _)) (fun h => ?_) (fun h => ?_)
  · rw [show (mergeE x y).dl = x.dl by simp only [mergeE, h, if_true]]
    exact v_attr (v_name rfl (by decide)) (attr_ent a x).2.2.1
  · rw [show (mergeE x y).dl = y.dl by simp only [mergeE, h, Bool.false_eq_true, if_false]]
    exact v_attr (v_name rfl (by decide)) (attr_ent b y).2.2.1
theorem rt63 (P : Params) (a b : Addr) (x y : Ent) (r : D) : pev F M 40 (sc63 P) (m63 a b x y r) (asgVal ((bodyOf P 63).drop 4)) = some (optD (mergeE x y).rt) := by
  refine v_if y.rt.isNone (t_cmp rfl (v_attr (v_name rfl (by decide)) (attr_ent b y).2.2.2) (by kernel_rfl) (optD_none _)) (fun h => ?_) (fun h => ?_)
  · rw [show (mergeE x y).rt = x.rt by simp only [mergeE, h, if_true]]
    exact v_attr (v_name rfl (by decide)) (attr_ent a x).2.2.2
  · rw [show (mergeE x y).rt = y.rt by simp only [mergeE, h, Bool.false_eq_true, if_false]]
    exact v_attr (v_name rfl (by decide)) (attr_ent b y).2.2.2
end
section
variable {prog : Program} {w : World} {h₀ : Heap} {k : Nat}
/-- x.name = value, for an Entry under construction; the value by a rule of its own -/
theorem asg_attrG (B : Base w.params h₀) {A : Around} {W Y : List Addr} {sc : List (Str × NameKind)} {env : Env} {m : Mp} {s : Shared} {Q : Flow → Shared → Prop} {E : Value → Shared → Prop} {x name : Str} {px ap pos : Pos} {value : Expr} {d : D} {a dx : Addr} {ns : List Str} {us : List Value}
    (O : Own h₀ Y W env) (Fr : FR W sc env s.heap m) (T : Tp h₀ s.heap) (hx : m.lookup x = some (.raw (.ref a))) (hxd : x ≠ "__debug__" ∧ x ≠ "__classdict__") (ea : EntAt s.heap a dx ns us) (hdW : dx ∈ W) (hdY : dx ∉ Y) (hlen : ns.length ≤ 1000)
    (hn : name ∈ (["useragents", "rulelines", "delay", "req_rate", "allowance"] : List Str)) (hc : notComp value = true) (hv : ∀ Q' : Value → Shared → Prop, Then W s d Q' → wpAny (model prog w) A (eval value env) Q' E s)
    (hq : ∀ v h' tk, FR W sc env h' m → EntAt h' a dx (name :: ns) (v :: us) → Rep W h' d v → KX [dx] s.heap h' → Q .next { s with heap := h', toks := tk }) :
    wpAny (model prog w) A (exec (.Assign [.Attribute (.Name x px) name ap] value pos) env) Q E s := by
  refine plainObj_wpAny_Assign_Attribute (hv _ fun v => kfor fun h₁ tk₁ hk₁ r1 => ?_) (swap_no' hc _ _ _)
  have F₁ := Fr.keep hk₁
  refine wpAny_Name (FR.load (s := { s with heap := h₁, toks := tk₁ }) F₁ hx (by simpa using hxd.2) fun ov ro => ?_) (by simpa using hxd.1)
  simp only [Rep] at ro
  subst ro
  have e₁ : EntAt h₁ a dx ns us := ea.mono (X := []) (KX.of hk₁) (by simp) (by simp)
  refine set_ok (s := { s with heap := h₁, toks := tk₁ }) B (T.keep hk₁) e₁ hn hlen fun h₂ tk₂ e₂ kb₂ => ?_
  have kx₂ : KX [dx] h₁ h₂ := fun b o nb e => kb₂ b o (by simpa using nb) e
  have hdx : ∃ o, h₂.get? dx = some o := by obtain ⟨o, _, _, e, _⟩ := e₂.dict; exact ⟨o, e⟩
  refine hq v h₂ tk₂ (F₁.but (X := [dx]) kx₂ (by simpa using hdW) (fun q => hdY (by simp at q; exact q ▸ O.loc)) (fun y c hc q => hdY (by simp at q; exact q ▸ O.cin y c hc)) (by simpa using hdx)) e₂ (r1.mono (kx₂.mono (by simpa using hdW))) ((KX.of hk₁).trans kx₂)
theorem merge_call (B : Base w.params h₀) {a b : Addr} {x y : Ent} (l1 : x.ags.length ≤ bound) (l2 : y.ags.length ≤ 1000) (l3 : x.rs.length + y.rs.length ≤ bound) : CallR prog w h₀ (k + 3) 63 [entE a x, entE b y] (fun d => ∃ c, d = entE c (mergeE x y)) := by
  intro A W s vs Q E R T lv hr hq
  obtain ⟨o, h1, h2⟩ := at63 w.params
  refine call_frame (ps := ["e1", "e2"]) B R T lv h1 h2 (cd63 _) (bd63 _) (ok63 _) (bi63 _ vs hr.length) hr fun Y env h₁ tk₁ hY henv O Fr hk₁ hYn => ?_
  have R' := R.deeper env
  have T₁ := T.keep hk₁
  obtain ⟨EV, _⟩ := ev_sound (prog := prog) (k := k + 2) (F := M0) (M := M0) B F0_ok M0_ok 5
  refine ec (asg_entry (k := k) B R' O Fr T₁ (by kernel_rfl) (by kernel_rfl) fun a' dx us h₂ tk₂ F₂ k₂ ha hd ea hus => ?_)
  have O₂ : Own h₀ Y (a' :: dx :: (Y ++ W)) env := O.grow (X := [a', dx])
  have nY : ∀ {b}, h₁.get? b = none → b ∉ Y := fun {b} hb q => by obtain ⟨o, e⟩ := Fr.live b (O.sub b q); rw [hb] at e; cases e
  have hdY : dx ∉ Y := nY hd
  have hdW : dx ∈ a' :: dx :: (Y ++ W) := List.mem_cons_of_mem _ List.mem_cons_self
  have T₂ : Tp h₀ h₂ := T₁.kx k₂ O.new
  have hd0 : ∀ b ∈ [dx], h₀.get? b = none := by simpa using T₁.gone hd
  have dsub : ∀ b ∈ [dx], b ∈ a' :: dx :: (Y ++ W) := by simp
  refine ec (asg_attrG (d := S (mergeE x y).ags) (s := { s with heap := h₂, toks := tk₂ }) B O₂ F₂ T₂ rfl (by decide) ea hdW hdY (by decide) (by decide) rfl (fun Q' hq' => merge_ua (A1 := x.ags) (A2 := y.ags) (s := { s with heap := h₂, toks := tk₂ }) (EV R') B R'.hd F₂ T₂ rfl rfl l1 l2 (v_attr (v_name rfl (by decide)) (attr_ent a x).1) (v_attr (v_name rfl (by decide)) (attr_ent b y).1) (by kernel_rfl) (by kernel_rfl) (by kernel_rfl) hq') fun v1 h₃ tk₃ F₃ e₃ r₃ k₃ => ?_)
  have T₃ := T₂.kx k₃ hd0
  refine ec (asg_attr (F := M0) (M := M0) (n := 40) (s := { s with heap := h₃, toks := tk₃ }) (k := k + 2) B F0_ok M0_ok R' O₂ F₃ T₃ rfl (by decide) e₃ hdW hdY (by decide) (by decide) rfl (rl63 w.params a b x y _ l3) fun v2 h₄ tk₄ F₄ e₄ r₄ k₄ => ?_)
  have T₄ := T₃.kx k₄ hd0
  refine ec (asg_attr (F := M0) (M := M0) (n := 40) (s := { s with heap := h₄, toks := tk₄ }) (k := k + 2) B F0_ok M0_ok R' O₂ F₄ T₄ rfl (by decide) e₄ hdW hdY (by decide) (by decide) rfl (dl63 w.params a b x y _) fun v3 h₅ tk₅ F₅ e₅ r₅ k₅ => ?_)
  have T₅ := T₄.kx k₅ hd0
  refine ec (asg_attr (F := M0) (M := M0) (n := 40) (s := { s with heap := h₅, toks := tk₅ }) (k := k + 2) B F0_ok M0_ok R' O₂ F₅ T₅ rfl (by decide) e₅ hdW hdY (by decide) (by decide) rfl (rt63 w.params a b x y _) fun v4 h₆ tk₆ F₆ e₆ r₆ k₆ => ?_)
  refine ec (wpAny_Return_some (wpAny_Name (FR.load (s := { s with heap := h₆, toks := tk₆ }) F₆ (d := .raw (.ref a')) rfl (by decide) fun u ru => ?_) (by decide)))
  simp only [Rep] at ru
  subst ru
  simp only [Reps] at hus
  obtain ⟨u1, _, rfl, q1, u2, _, rfl, q2, u3, _, rfl, q3, u4, _, rfl, q4, rfl⟩ := hus
  have hgone : ∀ {b}, h₁.get? b = none → s.heap.get? b = none := fun {b} hb => by
    cases e : s.heap.get? b with
    | none => rfl
    | some o => rw [hk₁ b o e] at hb; cases hb
  have nW : ∀ {b}, h₁.get? b = none → b ∉ W := fun {b} hb q => by obtain ⟨o, e⟩ := lv b q; rw [hgone hb] at e; cases e
  have k26 : KX [dx] h₂ h₆ := ((k₃.trans k₄).trans k₅).trans k₆
  have off : ∀ {d v}, Rep (a' :: dx :: (Y ++ W)) h₆ d v → Rep W h₆ d v := fun r => r.off fun b hb => .inl (List.mem_cons_of_mem _ (List.mem_cons_of_mem _ (List.mem_append_right _ hb)))
  have e₇ : EntAt h₆ a' dx ns4 [v1, v2, v3, v4] := e₆.cast fun z => zip_rec v1 v2 v3 v4 u1 u2 u3 u4 z
  refine hq _ ⟨a', rfl⟩ (.ref a') _ ⟨h₆, tk₆, rfl, fun b o e => ?_⟩ (e₇.rep (nW ha) (nW hd) ?_)
  · have e1 := hk₁ b o e
    refine k26 b o (fun q => ?_) (k₂ b o (fun q => by rw [hYn b q] at e; cases e) e1)
    simp at q; subst q; rw [hd] at e1; cases e1
  · have u4 := k₄.mono dsub
    have u5 := k₅.mono dsub
    have u6 := k₆.mono dsub
    exact Reps.cons (off (((r₃.mono u4).mono u5).mono u6)) (Reps.cons (off ((r₄.mono u5).mono u6)) (Reps.cons (off (r₅.mono u6)) (Reps.one (off r₆))))
end
end Mine
end

-- Law1
section
open PySem PySem.W PyProof.Rows PySem.Calls PySem.SeqAt
set_option maxRecDepth 100000
namespace Mine
theorem at150 (P : Params) : ∃ o, (K P).lookup 150 = some o ∧ o.data = .func (fdOf P 150) := ⟨_, rfl, rfl⟩
theorem bd150 (P : Params) : (fdOf P 150).body = .stmts (bodyOf P 150) := rfl
theorem ok150 (P : Params) : fnOk ["script"] (fdOf P 150) = true := by kernel_rfl
theorem cd150 (P : Params) : codeIn (K P) (fdOf P 150).code (fdOf P 150).qualname = true := by kernel_rfl
theorem cod150 (P : Params) : (fdOf P 150).code = .ref 149 := rfl
theorem bi150 (P : Params) (vs : List Value) (h : vs.length = 1) : bindArgs (fdOf P 150) ⟨vs, []⟩ = pure ((["script"] : List Str).zip vs) := by
  obtain ⟨a, rfl⟩ := len1 h
  kernel_rfl
noncomputable abbrev sc150 (P : Params) := (fdOf P 150).scope.names
noncomputable abbrev lamE2 (P : Params) : Expr := (callArgs (asgVal ((bodyOf P 150).drop 6))).headD default
noncomputable def MStep (acc el acc' : D) : Prop := ∃ a x b y c, acc = entE a x ∧ el = entE b y ∧ acc' = entE c (mergeE x y)
noncomputable def MInv (j : Nat) (d : D) : Prop := ∃ a x, d = entE a x ∧ x.ags.length ≤ 1000 ∧ x.rs.length ≤ 4 * j
section
variable {prog : Program} {w : World} {h₀ : Heap} {k : Nat}
theorem lam2_fun (B : Base w.params h₀) {fa c' : Addr} {oc : Obj} {q : Str} {pm ctv : Value} {params : Arguments} {body : Expr} {scope : Scope} (e1 : params = lamParams (lamE2 w.params)) (e2 : body = lamBody (lamE2 w.params)) (e3 : scope = lamScope (lamE2 w.params)) (hr : CRec q oc) :
    FunC prog w h₀ (k + 4) fa [(fa, kla_obj "<lambda>" q params body scope [] pm c' ctv), (c', oc)] MStep MInv (MInv 1) 3 := by
  intro A W s va ve acc el j fr Q E hj hacc hel R fs hz T lv st ra re hq
  obtain ⟨a, x, rfl, xa, xr⟩ := hacc
  obtain ⟨b, y, rfl, ya, yr⟩ := hel
  have ho := st (fa, _) List.mem_cons_self
  have hoc := st (c', oc) (List.mem_cons_of_mem _ List.mem_cons_self)
  obtain ⟨cv, ct, hcd, hcq⟩ := hr
  refine call_frameE (fd := kla_fn "<lambda>" q params body scope [] pm (.ref c') ctv) (body := body) (ps := ["one", "other"]) (ds := [entE a x, entE b y]) (vs := [va, ve]) B R T lv ho rfl ⟨c', oc, cv, ct, rfl, hoc, hcd, hcq⟩ rfl (by subst e3; kernel_rfl) (by subst e1; kernel_rfl) (Reps.cons ra (Reps.one re)) fun Y env h₁ tk₁ hY henv O Fr hk₁ hYn => ?_
  subst e1 e2 e3
  have R' := R.deeper env
  have T₁ := T.keep hk₁
  obtain ⟨o63, a63, b63⟩ := at63 w.params
  obtain ⟨EV, _⟩ := ev_sound (prog := prog) (k := k + 3) (F := M0) (M := M0) B F0_ok M0_ok 5
  refine call_fnR (s := { s with heap := h₁, toks := tk₁ }) (k := k + 3) (ds := [entE a x, entE b y]) (EV R') B R' Fr T₁ (gl63 _) a63 b63 (merge_call B (Nat.le_trans xa (by decide)) ya (by unfold bound; omega)) (by kernel_rfl) (by decide) rfl (evs_cons (v_name rfl (by decide)) (evs_cons (v_name rfl (by decide)) evs0)) fun d hd v s₂ ks₂ r₂ => ?_
  obtain ⟨c, rfl⟩ := hd
  obtain ⟨h₂, tk₂, rfl, hk₂⟩ := ks₂
  refine hq _ ⟨a, x, b, y, c, rfl, rfl, rfl⟩ ⟨c, _, rfl, ?_, ?_⟩ v _ ⟨h₂, tk₂, rfl, KS.of fun b o e => hk₂ b o (hk₁ b o e)⟩ (r₂.off fun b hb => .inl (List.mem_append_right _ hb))
  · exact Nat.le_trans (List.length_filter_le _ _) xa
  · simp only [mergeE, List.length_append]; omega
theorem entE_inj {a b : Addr} {x y : Ent} (h : entE a x = entE b y) : a = b ∧ x = y := by
  have inj : ∀ {a b : List Str}, S a = S b → a = b := fun {a b} e => by
    simp only [S, D.lst.injEq] at e
    have h := strsOf_map a
    rw [e, strsOf_map] at h
    exact (Option.some.inj h).symm
  have injR : ∀ {a b : List Rule}, a.map ruleD = b.map ruleD → a = b := fun {a b} e => by
    have h := rulesOf_D a
    rw [e, rulesOf_D] at h
    exact (Option.some.inj h).symm
  have injO : ∀ {a b : Option Int}, optD a = optD b → a = b := fun {a b} e => by
    cases a <;> cases b <;> simp only [optD] at e
    · rfl
    · cases e
    · cases e
    · cases e; rfl
  simp only [entE, entD, D.ent.injEq, List.cons.injEq, D.lst.injEq, and_true, true_and] at h
  obtain ⟨rfl, h1, h2, h3, h4⟩ := h
  cases x; cases y
  simp only [Ent.mk.injEq]
  exact ⟨trivial, inj (by simp only [S, D.lst.injEq]; exact h1), injR h2, injO h3, injO h4⟩
theorem folds_merge {a b c : Addr} {x y z : Ent} {acc : D} (h : Folds MStep (entE a x) [entE b y, entE c z] acc) : ∃ e, acc = entE e (mergeE (mergeE x y) z) := by
  cases h with
  | cons h1 h2 =>
    obtain ⟨a1, x1, b1, y1, c1, e1, e2, rfl⟩ := h1
    obtain ⟨rfl, rfl⟩ := entE_inj e1
    obtain ⟨rfl, rfl⟩ := entE_inj e2
    cases h2 with
    | cons h3 h4 =>
      obtain ⟨a2, x2, b2, y2, c2, f1, f2, rfl⟩ := h3
      obtain ⟨rfl, rfl⟩ := entE_inj f1
      obtain ⟨rfl, rfl⟩ := entE_inj f2
      cases h4
      exact ⟨c2, rfl⟩
end
section
variable {prog : Program} {w : World} {A : Around} {s : Shared} {W : List Addr} {sc : List (Str × NameKind)} {env : Env} {m : Mp} {h₀ : Heap} {fr : List Env} {k : Nat}
/-- reduce(lambda.., records) -/
theorem merged_ev {c P : Addr} {ps : Array Value} {params : Arguments} {body : Expr} {scope : Scope} {p p1 p2 p4 : Pos} {x1 : Str} {r0 r1 r2 : Addr} {u0 u1 u2 : Ent} {Q E : Value → Shared → Prop} (BT : BaseT w.params h₀) (R : Room A (k + 5)) (T : Tp h₀ s.heap) (F : FR W sc env s.heap m) (fs : Frs A W s.heap fr) (hz : ∀ b ∈ Xs fr, h₀.get? b = none)
    (e1 : params = lamParams (lamE2 w.params)) (e2 : body = lamBody (lamE2 w.params)) (e3 : scope = lamScope (lamE2 w.params)) (hred : sc.lookup ("reduce" : Str) = some .globalImplicit)
    (hP : P = 137 ∨ P = 147) (hcode : env.code = .ref c) (C : CodeHd s.heap c P) (hcl : closureFor scope env = pure []) (hdef : defaultsOf params env = ([], [])) (hps : s.heap.get? P = some (tabObj ps)) (kn : Known p1 (env.qual ++ "<lambda>") ps s.heap W) (hL : env.locals ≠ P) (hc : ∀ y c, env.cells.lookup y = some c → c ≠ P) (hPW : P ∈ W) (hPX : P ∉ Xs fr)
    (nx1 : x1 ≠ "__debug__" ∧ x1 ≠ "__classdict__") (l1 : m.lookup x1 = some (.lst [entE r0 u0, entE r1 u1, entE r2 u2])) (ok : ∀ u ∈ [u0, u1, u2], u.ags.length ≤ 1000 ∧ u.rs.length ≤ 4)
    (hq : ∀ v h' tk e, KT (Xs fr) [P] s.heap h' → FR W sc env h' m → (∃ ps', h'.get? P = some (tabObj ps')) → Rep W h' (entE e (mergeE (mergeE u0 u1) u2)) v → Q v { s with heap := h', toks := tk }) :
    wpAny (model prog w) A (eval (.Call (.Name "reduce" p) [.Lambda params body scope p1, .Name x1 p2] [] p4) env) Q E s := by
  have B := BT.toBase
  obtain ⟨o72, a72, b72⟩ := at72 w.params
  rw [arm_eval_Call_Name']
  refine wpAny_bind (glob_val B F T hred (by decide) (gl72 _) ?_)
  refine callWith_function (o := o72) (fd := fdOf w.params 72) (evalArgs_of (by simp) rfl (wpAny_items_cons (lam_make BT T F hP hcode C hcl hdef hps kn hL hc hPW fun f c' oc ps' pm ctv h₁ tk₁ hfn hfo hco hcr hcW hc1 hc2 kx₁ F₁ hps₁ kn₁ => ?_) rfl))
  have T₁ : Tp h₀ h₁ := by
    refine ⟨fun b o n1 n2 e => kx₁ b o (fun q => ?_) (T.all b o n1 n2 e), T.s1, T.s2, ?_, ?_⟩
    · simp at q; subst q; rcases hP with rfl | rfl
      · exact n1 rfl
      · exact n2 rfl
    · rcases hP with rfl | rfl
      · exact ⟨_, hps₁⟩
      · obtain ⟨o, e⟩ := T.l1; exact ⟨o, kx₁ 137 o (by decide) e⟩
    · rcases hP with rfl | rfl
      · obtain ⟨o, e⟩ := T.l2; exact ⟨o, kx₁ 147 o (by decide) e⟩
      · exact ⟨_, hps₁⟩
  refine wpAny_items_cons (wpAny_Name (FR.load (s := { s with heap := h₁, toks := tk₁ }) F₁ l1 (by simpa using nx1.2) fun v1 r1 => wpAny_items_nil ?_) (by simpa using nx1.1))
  refine ⟨⟨B.kin T₁ 72 o72 a72, b72⟩, ?_⟩
  have fW : f ∉ W := fun q => by obtain ⟨o, e⟩ := F.live f q; rw [hfn] at e; cases e
  have fs₁ : Frs A W h₁ fr := fs.keep (fun _ h => h) fun b o hb e => ⟨o, kx₁ b o (fun q => by simp at q; exact hPX (q ▸ hb)) e, rfl⟩
  refine red_call (s := { s with heap := h₁, toks := tk₁ }) (k := k + 4) (ds := [entE r0 u0, entE _ u1, entE r2 u2]) (dI := .raw (.ref 64)) (vi := .ref 64) (acc0 := entE r0 u0) (j0 := 1) (args := [.ref f, v1]) (Inv := MInv) (Pe := MInv 1) (Step := MStep) (Ls := [(f, kla_obj "<lambda>" (env.qual ++ "<lambda>") params body scope [] pm c' ctv), (c', oc)]) B R fs₁ hz T₁ F₁.live (lam2_fun B e1 e2 e3 hcr)
    ⟨r0, u0, rfl, (ok u0 (by simp)).1, by have := (ok u0 (by simp)).2; omega⟩ (fun d hd => ?_) List.mem_cons_self rfl (fun q hq' => ?_) (fun q hq' => ?_) r1 (by simp only [Rep]) (bi72_2 w.params (B.kin T₁) (.ref f) v1) (.inl ⟨rfl, rfl, rfl⟩) fun acc' fol v s' hs' r' => ?_
  · simp only [List.mem_cons, List.not_mem_nil, or_false] at hd
    rcases hd with rfl | rfl | rfl
    · exact ⟨_, _, rfl, (ok u0 (by simp)).1, by have := (ok u0 (by simp)).2; omega⟩
    · exact ⟨_, _, rfl, (ok u1 (by simp)).1, by have := (ok u1 (by simp)).2; omega⟩
    · exact ⟨_, _, rfl, (ok u2 (by simp)).1, by have := (ok u2 (by simp)).2; omega⟩
  · simp only [List.mem_cons, List.not_mem_nil, or_false] at hq'
    rcases hq' with rfl | rfl
    · exact hfo
    · exact hco
  · simp only [List.mem_cons, List.not_mem_nil, or_false] at hq'
    rcases hq' with rfl | rfl
    · exact fW
    · exact hcW
  · obtain ⟨h', tk', rfl, ks⟩ := hs'
    obtain ⟨e, rfl⟩ := folds_merge fol
    have kt : KT (Xs fr) [P] s.heap h' := (KT.kx kx₁ fun b hb => hb).trans (KT.ks ks)
    exact hq v h' tk' e kt (F₁.ks ks fs.sub) ⟨_, ks.out P _ hPX hps₁⟩ r'
end
end Mine
end

-- MR1
section
open PySem PySem.W PyProof.Rows PySem.Calls PySem.SeqAt
set_option maxRecDepth 100000
namespace Mine
section
variable {prog : Program} {w : World} {A : Around} {E : Value → Shared → Prop} {s : Shared}
theorem draw_list {it t : Addr} {items : Array Value} (hne : t ≠ it) : ∀ (n i : Nat) (s : Shared) (Q : List Value → Shared → Prop), s.heap.IsListIter it t i → s.heap.IsList t items → i + n ≤ items.size →
    (∀ h', h'.IsListIter it t (i + n) → Heap.SameBut it s.heap h' → Q ((items.toList.drop i).take n) { s with heap := h' }) → wpAny (model prog w) A (draw (.ref it) n) Q E s
  | 0, i, s, Q, hit, _, _, hQ => by
    show wpAny _ _ (pure []) Q E s
    exact wpAny_pure (by simpa using hQ s.heap hit (Heap.SameBut.refl ..))
  | n + 1, i, s, Q, hit, ht, hle, hQ => by
    have hlt : i < items.size := by omega
    show wpAny _ _ (pyNext (.ref it) >>= _) Q E s
    refine wpAny_bind (wpAny_pyNext_list_item hit ht (x := items[i]) (by simp [hlt]) fun h₁ hit₁ hs₁ => ?_)
    refine wpAny_bind (wpAny_holding (draw_list hne n (i + 1) _ _ hit₁ (ht.extBut hs₁.extBut hne) (by omega) fun h₂ hit₂ hs₂ => wpAny_pure ?_))
    have hd : items.toList.drop i = items[i] :: items.toList.drop (i + 1) := by simp [List.drop_eq_getElem_cons, hlt]
    have := hQ h₂ (by rw [show i + (n + 1) = i + 1 + n by omega]; exact hit₂) (hs₁.trans hs₂)
    rw [hd, List.take_succ_cons] at this
    exact this
theorem unpackItems_list {t : Addr} {items : Array Value} {Q : List Value → Shared → Prop} (hh : A.handled = none) (ht : s.heap.IsList t items)
    (hQ : ∀ h', Heap.ExtBut s.heap.objs.size s.heap h' → Q items.toList { s with heap := h' }) : wpAny (model prog w) A (unpackItems (.ref t) items.size none) Q E s := by
  have hlt : t ≠ s.heap.objs.size := by obtain ⟨o, ho, _⟩ := ht; exact Nat.ne_of_lt (Heap.lt_size ho)
  have hT : s.TypeIs (.ref t) "list" := by obtain ⟨o, ho, hc, _⟩ := ht; exact ⟨o, ho, hc⟩
  unfold unpackItems
  refine wpAny_bind ?_
  · unfold notIterableAtAll
    refine wpAny_bind (wpAny_specialOf hT PySem.F.slot_list_iter.lookup ?_)
    refine wpAny_pure ?_
    simp only [Bool.false_eq_true, if_false]
    refine wpAny_bind (wpAny_holding (wpAny_pyIter_list ht ?_))
    refine wpAny_bind (wpAny_holding (draw_list hlt items.size 0 _ _ ⟨_, Heap.get?_push_size _ rfl, rfl, rfl⟩ (ht.push _) (by omega) fun h₁ hit₁ hs₁ => ?_))
    have hall : List.take items.size (List.drop 0 items.toList) = items.toList := by
      rw [List.drop_zero]; exact List.take_of_length_le (by simp)
    rw [hall]
    rw [if_neg (by simp)]
    have ht₁ : h₁.IsList t items := (ht.push _).extBut hs₁.extBut hlt
    refine wpAny_bind (wpAny_holding (wpAny_pyNext_list_end hh hit₁ ht₁ (by simp) fun h₂ he₂ => ?_))
    simp only [Option.isSome_none, Bool.false_eq_true, if_false]
    refine wpAny_pure (hQ h₂ fun b o hb e => he₂ b o hb (hs₁.extBut b o hb (Heap.get?_push_of_some _ e)))
end
section
variable {prog : Program} {w : World} {A : Around} {h₀ : Heap} {k : Nat}
variable {W Y : List Addr} {sc : List (Str × NameKind)} {env : Env} {m : Mp} {s : Shared}
/-- a, b, c = (a list) -/
theorem asg_unpackL {xs : List (Str × Pos)} {tk : Nat} {tp pos : Pos} {value : Expr} {ds : List D} {Q : Flow → Shared → Prop} {E : Value → Shared → Prop} (O : Own h₀ Y W env) (hh : A.handled = none) (hs : ∀ x ∈ xs, storable sc x.1 = true) (hl : xs.length = ds.length) (F : FR W sc env s.heap m)
    (hsw : swapsWithSole [.Tuple (xs.map fun x => .Name x.1 x.2) tk tp] value pos.line env = pure false) (hw : swappedStores [.Tuple (xs.map fun x => .Name x.1 x.2) tk tp] value env = pure none)
    (hae : assignEach (xs.map fun x => .Name x.1 x.2) env = xs.map fun x => (false, assign (.Name x.1 x.2) env))
    (ev : ∀ Q' : Value → Shared → Prop, Then W s (.lst ds) Q' → wpAny (model prog w) A (eval value env) Q' E s)
    (hq : ∀ h' tk, FR W sc env h' (((xs.map (·.1)).zip ds).reverse ++ m) → KX Y s.heap h' → Q .next { s with heap := h', toks := tk }) :
    wpAny (model prog w) A (exec (.Assign [.Tuple (xs.map fun x => .Name x.1 x.2) tk tp] value pos) env) Q E s := by
  refine Assign_Tuple (ev _ fun v s₁ k1 r1 => ?_) hsw hw
  simp only [Rep] at r1
  obtain ⟨t, its, rfl, htW, ht, hrs⟩ := r1
  obtain ⟨h₁, tk₁, rfl, hk₁⟩ := k1
  have len := hrs.length
  rw [Array.length_toList] at len
  have hn : (assignEach (xs.map fun x => .Name x.1 x.2) env).length = its.size := by rw [hae, List.length_map, len, hl]
  have hstar : (assignEach (xs.map fun x => .Name x.1 x.2) env).findIdx? (·.1) = none := by
    rw [hae, List.findIdx?_map, List.findIdx?_eq_none_iff]
    intro x _; rfl
  rw [arm_assign_Tuple]
  refine wpAny_bind (wpAny_standAt ?_)
  unfold unpack
  rw [hn, hstar]
  refine wpAny_bind (wpAny_holding (unpackItems_list (s := { s with heap := h₁, toks := tk₁ }) hh ht fun h₂ hx₂ => ?_))
  have k₂ : ∀ b o, h₁.get? b = some o → h₂.get? b = some o := fun b o e => hx₂ b o (Nat.ne_of_lt (Heap.lt_size e)) e
  rw [hae, List.map_map]
  refine stores_ok (s := { s with heap := h₂, toks := tk₁ }) O hs hl ((F.keep hk₁).keep k₂) (hrs.mono (KX.of k₂)) fun h₃ tk₃ F₃ k₃ => hq h₃ tk₃ F₃ (((KX.of hk₁).trans (KX.of k₂)).trans k₃)
end
end Mine
end

-- MR2
section
open PySem PySem.W PyProof.Rows PySem.Calls PySem.SeqAt
set_option maxRecDepth 100000
namespace Mine
section
variable {prog : Program} {w : World} {A : Around} {h₀ : Heap}
variable {W YL : List Addr} {sc : List (Str × NameKind)} {env : Env} {m : Mp}

noncomputable def SrcW (prog : Program) (w : World) (A : Around) (W : List Addr) (s : Shared) (ds : List D) (it : Value) (s₂ : Shared) (wr : List Addr) : Prop :=
  ∃ I fp n P St, it = .ref I ∧ Walks prog w A I fp wr n P St ∧ (∀ i h, St i h → ∀ b ∈ wr, ∃ o, h.get? b = some o) ∧ ds.length = n ∧ St 0 s₂.heap ∧ Keeps s s₂ ∧
    (∀ b ∈ wr, s.heap.get? b = none) ∧ (∀ b ∈ fp, b ∉ W ∧ ∃ o, s₂.heap.get? b = some o) ∧ ∀ i v, i < n → P i v → ∃ d, ds[i]? = some d ∧ Rep (wr ++ W) s₂.heap d v
theorem Src.ex {s s₂ : Shared} {it : Value} {ds : List D} (S : Src prog w A W s it ds s₂) : ∃ wr, SrcW prog w A W s ds it s₂ wr := by
  obtain ⟨I, fp, wr, n, P, St, h⟩ := S
  exact ⟨wr, I, fp, n, P, St, h⟩
theorem SrcW.g {s : Shared} {ds : List D} {it : Value} {s₂ : Shared} {wr : List Addr} (S : SrcW prog w A W s ds it s₂ wr) : SrcG A prog w W s it s₂ wr := by
  obtain ⟨I, fp, n, P, St, rfl, Wk, hlive, hn, hst, hk, hwr, hfp, items⟩ := S
  exact ⟨hk, hwr, hlive 0 _ hst⟩
noncomputable abbrev emitN (elt : Expr) (gens : List Comprehension) (scope : Scope) (cpos : Pos) (iterB : Expr) (Dx : Addr) (env : Env) : Sem Unit :=
  eval iterB env >>= fun x => standAt iterB.pos >>= fun _ => foldedSetIterable iterB env x >>= fun x => holding [x] (pyIter x) >>= fun it => runOwn (.compStart (.ListComp elt gens scope cpos) 1 it (.ref Dx) env) env >>= fun _ => pure ()
theorem compStart_1 {elt : Expr} {g0 : Comprehension} {target iter : Expr} {ifs : List Expr} {rest : List Comprehension} {scope : Scope} {pos : Pos} {it acc : Value} {env : Env} {R : Result → Shared → Prop} {s : Shared}
    (h0 : codeAny (model prog w) A (.compLoop (.ListComp elt (g0 :: ⟨target, iter, ifs, 0⟩ :: rest) scope pos) 1 it acc env) R s)
    (h : wpAny (model prog w) A (pyIter it) (fun it' s' => codeAny (model prog w) A (.compLoop (.ListComp elt (g0 :: ⟨target, iter, ifs, 0⟩ :: rest) scope pos) 1 it' acc env) R s')
      (notedBy (model prog w) A env fun x s' => R (.error x) s') s) :
    codeAny (model prog w) A (.compStart (.ListComp elt (g0 :: ⟨target, iter, ifs, 0⟩ :: rest) scope pos) 1 it acc env) R s := by
  refine codeAny_of_tree ?_
  show wpAny _ _ ((compStart (.ListComp elt (g0 :: ⟨target, iter, ifs, 0⟩ :: rest) scope pos) 1 it acc env).onRaise (fun x => do noteFrame x env; standAt theWindowsPlace)) _ _ s
  refine wpAny_notedAt ?_
  unfold compStart
  show wpAny _ _ (ask >>= _) _ _ s
  refine wpAny_bind (wpAny_askSetting (wpAny_ite ?_))
  split
  · first
      | exact wpAny_bind (wpAny_pure (wpAny_pure (And.intro rfl h0)))
      | exact wpAny_pure (And.intro rfl h0)
  · first
      | exact wpAny_bind (wpAny_rule (wpAny_bind (wpAny_standAt (wpAny_bind (wpAny_mono h (fun it' s' h' => wpAny_pure (And.intro rfl h')) fun _ _ x => x)))))
      | (refine wpAny_bind (wpAny_rule ?_); show wpAny _ _ (standAt iter.pos >>= _) _ _ s; exact wpAny_bind (wpAny_standAt (wpAny_bind (wpAny_mono h (fun it' s' h' => wpAny_pure (And.intro rfl h')) fun _ _ x => x))))
end
end Mine
end

-- MR3
section
open PySem PySem.W PyProof.Rows PySem.Calls PySem.SeqAt
set_option maxRecDepth 100000
namespace Mine
section
variable {prog : Program} {w : World} {A : Around} {h₀ : Heap}
variable {W YL : List Addr} {sc : List (Str × NameKind)} {env : Env} {m : Mp}

/-- the inner loop of [y for x in .. for y in B] -/
theorem inner_loop {iterA iterB : Expr} {x y : Str} {px py pe pos : Pos} {scope : Scope} {Dx : Addr} {fs ds₀ : List D} {ys₀ : Array Value} {s : Shared} {it : Value} {s₂ : Shared} {E : Value → Shared → Prop} {Acc : List D → Prop}
    (F : FR W sc env s.heap m) (hy : sc.lookup y = some .local) (nyd : y ≠ "__debug__" ∧ y ≠ "__classdict__") (hmy : m.lookup y = none) (hLY : env.locals ∈ YL) (hcl : ∀ z c, env.cells.lookup z = some c → c ∈ W) (hYW : ∀ b ∈ YL, b ∈ W) (hDW : Dx ∈ W) (hDY : Dx ∉ YL) (hDL : Dx ≠ env.locals) (hDc : ∀ z c, env.cells.lookup z = some c → c ≠ Dx)
    (S : Src prog w A W s it fs s₂) (hys : s.heap.PlainList Dx ys₀) (hr : Reps W s.heap ds₀ ys₀.toList) (hb : ds₀.length + fs.length ≤ bound) (hA : Acc (ds₀ ++ fs)) :
    wpAny (model prog w) A (runOwn (.compStart (.ListComp (.Name y pe) [⟨.Name x px, iterA, [], 0⟩, ⟨.Name y py, iterB, [], 0⟩] scope pos) 1 it (.ref Dx) env) env >>= fun _ => (pure () : Sem Unit)) (fun _ s₄ => CPost W YL sc env m Dx Acc s s₄) E s₂ := by
  obtain ⟨wr, I, fp, n, P, St, rfl, Wk, hlive, hn, hst, hk₂, hwr, hfp, items⟩ := S.ex
  obtain ⟨h₂, tk₂, rfl, hk₂⟩ := hk₂
  dsimp only at hst hfp items hk₂ ⊢
  have hWX : ∀ b ∈ W, b ∉ wr := fun b hb q => by obtain ⟨o, e⟩ := F.live b hb; rw [hwr b q] at e; cases e
  have F₂ : FR (wr ++ W) sc env h₂ m := F.grow hk₂ hwr (hlive 0 _ hst)
  have hYf : ∀ b ∈ YL, b ∉ fp := fun b hb q => (hfp b q).1 (hYW b hb)
  have hDf : Dx ∉ fp := fun q => (hfp _ q).1 hDW
  have Fd : Feed prog w A (.Name y py) sc env (.ref I) (wr ++ W) YL fp wr h₂ n (fun i => [(y, fs.getD i D.none)]) St := by
    refine Feed.name Wk hlive (fun b hb => List.mem_append_left _ hb) (fun i => fs.getD i D.none) (.inl hy) hLY (fun q => by rw [hy] at q; cases q) hYf (fun z c e => hWX _ (hcl z c e)) fun i v hi hP => ?_
    obtain ⟨d, hd, r⟩ := items i v hi hP
    simpa [List.getD_eq_getElem?_getD, hd] using r
  have hr₂ : Reps (wr ++ W) h₂ ds₀ ys₀.toList := (hr.off (W' := wr ++ W) fun b hb => by
    rcases List.mem_append.mp hb with hb | hb
    · exact .inr (hwr b hb)
    · exact .inl hb).mono (KX.of hk₂)
  have hys₂ : h₂.PlainList Dx ys₀ := hys.at fun o e => hk₂ _ o e
  refine wpAny_bind (wpAny_runOwn ?_)
  rw [Around.mark_none]
  have loop : codeAny (model prog w) A (.compLoop (.ListComp (.Name y pe) [⟨.Name x px, iterA, [], 0⟩, ⟨.Name y py, iterB, [], 0⟩] scope pos) 1 (.ref I) (.ref Dx) env) (fun r s' => match r with | .ok f => wpAny (model prog w) A (pure () : Sem Unit) (fun _ s₄ => CPost W YL sc env m Dx Acc s s₄) E s' | .error e => cameBackBy (model prog w) A env E e s') { s with heap := h₂, toks := tk₂ } := by
    refine comp_feed (s := { s with heap := h₂, toks := tk₂ }) (m := m) (emit := emitOf (.Name y pe) Dx env) (p := iterB.pos) (ifs := []) (fun i out => out = ds₀ ++ fs.take i) Fd rfl hDY (fun b hb => List.mem_append_right _ (hYW b hb)) hYf (List.mem_append_right _ hDW) hDf hst F₂ hys₂ hr₂ (by simp) ?_ ?_
    · intro i hi s₃ zs out E' hs F₃ kx hzs hrs hout
      obtain ⟨h₃, tk₃, rfl⟩ := hs
      dsimp only at F₃ kx hzs hrs
      have hd : fs[i]? = some (fs[i]'(by omega)) := List.getElem?_eq_getElem (by omega)
      generalize fs[i]'(by omega) = d at hd
      have hgd : fs.getD i D.none = d := by simp [List.getD_eq_getElem?_getD, hd]
      rw [hgd] at F₃
      refine wpAny_pure ?_
      rw [if_pos rfl]
      refine emit_ok (d := d) ⟨h₃, tk₃, rfl, fun _ _ e => e⟩ (F₃.weaken fun z d' e => ?_) hzs hrs ?_ (List.mem_append_right _ hDW) hDL hDc (fun Q hq => wpAny_Name (FR.load (s := { s with heap := h₃, toks := tk₃ }) F₃ lookup_cons_self (by simpa using nyd.2) fun v r => hq v _ (Keeps.rfl' _) r) (by simpa using nyd.1)) ?_
      · show ((y, d) :: m).lookup z = some d'
        by_cases q : z = y
        · subst q; rw [hmy] at e; cases e
        · rw [lookup_cons_ne q]; exact e
      · rw [hout, List.length_append, List.length_take]; omega
      · rw [hout, List.take_add_one, hd]; simp
    · intro h h' tk zs out F' kw kx hzs hrs hout
      refine wpAny_pure ⟨h', tk, rfl, fun b o nb e => ?_, FR.dropL F' F.loc F.cin hWX kw, zs, out, hzs, hrs.off fun b hb => .inl (List.mem_append_right _ hb), ?_⟩
      · refine kx b o (fun q => ?_) (hk₂ b o e)
        rcases List.mem_append.mp q with q | q
        · rw [hwr b q] at e; cases e
        · exact nb q
      · rw [hout, List.take_of_length_le (by omega)]; exact hA
  exact compStart_1 loop (Wk.self 0 _ _ _ hst loop)
end
end Mine
end

-- MR4
section
open PySem PySem.W PyProof.Rows PySem.Calls PySem.SeqAt
set_option maxRecDepth 100000
namespace Mine
theorem turn_two {iterA iterB : Expr} {x y : Str} {px py pe pos : Pos} {scope : Scope} {it : Value} {Dx : Addr} {env : Env} : compTurn (.ListComp (.Name y pe) [⟨.Name x px, iterA, [], 0⟩, ⟨.Name y py, iterB, [], 0⟩] scope pos) 0 it (.ref Dx) env =
    turnForm iterA.pos (.Name x px) it env [] (emitN (.Name y pe) [⟨.Name x px, iterA, [], 0⟩, ⟨.Name y py, iterB, [], 0⟩] scope pos iterB Dx env) (again (.compLoop (.ListComp (.Name y pe) [⟨.Name x px, iterA, [], 0⟩, ⟨.Name y py, iterB, [], 0⟩] scope pos) 0 it (.ref Dx) env)) := by
  unfold compTurn turnForm emitN
  simp only [bind_assoc, pure_bind]
  rfl
section
variable {prog : Program} {w : World} {A : Around} {h₀ : Heap}
variable {W YL : List Addr} {sc : List (Str × NameKind)} {env : Env} {m : Mp}

theorem two_loop {k : Nat} {F M : Str → List D → Option D} {n : Nat} (EV : EvS prog w h₀ k F M n) (R : Room A k) {s : Shared} (Fr : FR W sc env s.heap m) (T : Tp h₀ s.heap)
    {iterA iterB : Expr} {x y : Str} {px py pe pos : Pos} {scope : Scope} {ds : List D} (f : D → List D) (hb : (ds.flatMap f).length ≤ bound) (hx : scope.names.lookup x = some .local) (hy : scope.names.lookup y = some .local) (hxy : x ≠ y) (nyd : y ≠ "__debug__" ∧ y ≠ "__classdict__") (hset : notSet iterB = true)
    (hB : ∀ d ∈ ds, pev F M n scope.names ((x, d) :: freeOf scope m) iterB = some (.lst (f d)))
    {it : Value} {s₂ : Shared} {wr : List Addr} (S : SrcW prog w A W s ds it s₂ wr) {Dx : Addr} {cenv : Env} {h₄ : Heap} (En : Enter sc env scope m W wr s₂.heap Dx YL cenv h₄) (RR : Result → Shared → Prop)
    (fin : ∀ h' tk zs ds', KX (wr ++ (Dx :: YL)) h₄ h' → (∃ μ, h'.Ns cenv.locals μ) → h'.PlainList Dx zs → Reps (YL ++ ((Dx :: wr) ++ W)) h' ds' zs.toList → ds' = ds.flatMap f → RR (.ok .next) { s₂ with heap := h', toks := tk }) :
    codeAny (model prog w) A (.compLoop (.ListComp (.Name y pe) [⟨.Name x px, iterA, [], 0⟩, ⟨.Name y py, iterB, [], 0⟩] scope pos) 0 it (.ref Dx) cenv) RR { s₂ with heap := h₄ } ∧
      ∀ Q E', Q it { s₂ with heap := h₄ } → wpAny (model prog w) A (pyIter it) Q E' { s₂ with heap := h₄ } := by
  obtain ⟨I, fp, nn, P, St, rfl, Wk, hlive, hn, hst, hk₂, hwr, hfp, items⟩ := S
  obtain ⟨h₂, tk₂, rfl, hk₂⟩ := hk₂
  dsimp only at hst hfp items hk₂ En fin ⊢
  have hst₄ : St 0 h₄ := Wk.frame _ _ _ hst fun b _ o e => En.kp b o e
  have none_of : ∀ {b}, h₂.get? b = none → s.heap.get? b = none := fun {b} hb => by
    cases e : s.heap.get? b with
    | none => rfl
    | some o => rw [hk₂ b o e] at hb; cases hb
  have hYf : ∀ b ∈ YL, b ∉ fp := fun b hb q => by obtain ⟨o, e⟩ := (hfp b q).2; rw [En.yn b hb] at e; cases e
  have hDf : Dx ∉ fp := fun q => by obtain ⟨o, e⟩ := (hfp _ q).2; rw [En.dn] at e; cases e
  have hDc : ∀ y c, cenv.cells.lookup y = some c → c ≠ Dx := fun y c e q => by
    rcases En.cel y c e with h | h
    · exact En.dy (q ▸ h)
    · obtain ⟨o, e⟩ := Fr.live c (Fr.cin y c h); rw [q, none_of En.dn] at e; cases e
  have hcw : ∀ y c, cenv.cells.lookup y = some c → c ∉ wr := fun y c e q => by
    rcases En.cel y c e with h | h
    · exact hYf c h (Wk.sub _ q)
    · obtain ⟨o, e⟩ := Fr.live c (Fr.cin y c h); rw [hwr c q] at e; cases e
  have hmx : ∀ z, scope.names.lookup z = some .local → (freeOf scope m).lookup z = none := fun z hz => by
    unfold freeOf
    rw [lookup_filter (q := fun y => scope.names.lookup y == some NameKind.free), if_neg]
    simp [hz]
  generalize hWW : YL ++ ((Dx :: wr) ++ W) = W' at *
  have hYW : ∀ b ∈ YL, b ∈ W' := fun b hb => hWW ▸ List.mem_append_left _ hb
  have hDW : Dx ∈ W' := hWW ▸ List.mem_append_right _ (List.mem_append_left _ List.mem_cons_self)
  have hwW : ∀ b ∈ wr, b ∈ W' := fun b hb => hWW ▸ List.mem_append_right _ (List.mem_append_left _ (List.mem_cons_of_mem _ hb))
  have Fd : Feed prog w A (.Name x px) scope.names cenv (.ref I) W' YL fp wr h₄ nn (fun i => [(x, ds.getD i D.none)]) St := by
    refine Feed.name Wk hlive hwW (fun i => ds.getD i D.none) (.inl hx) En.loc (fun q => by rw [hx] at q; cases q) hYf hcw fun i v hi hP => ?_
    obtain ⟨d, hd, r1⟩ := items i v hi hP
    have := En.rep r1
    rw [hWW] at this
    simpa [List.getD_eq_getElem?_getD, hd] using this
  have hFr4 : FR W' scope.names cenv h₄ (freeOf scope m) := hWW ▸ En.fr
  have htl : ∀ i, ((ds.take i).flatMap f).length ≤ (ds.flatMap f).length := fun i => by
    have : ds.flatMap f = (ds.take i).flatMap f ++ (ds.drop i).flatMap f := by rw [← List.flatMap_append, List.take_append_drop]
    rw [this, List.length_append]; omega
  refine ⟨?_, fun Q E' hq => Wk.self 0 _ _ _ hst₄ hq⟩
  refine comp_feed (s := { s with heap := h₄, toks := tk₂ }) (m := freeOf scope m) (emit := emitN (.Name y pe) [⟨.Name x px, iterA, [], 0⟩, ⟨.Name y py, iterB, [], 0⟩] scope pos iterB Dx cenv) (p := iterA.pos) (ifs := []) (fun i out => out = (ds.take i).flatMap f)
    Fd turn_two En.dy hYW hYf hDW hDf hst₄ hFr4 En.dl (ds₀ := []) (by simpa using Reps.nil) (by simp) ?_ ?_
  · intro i hi s₃ zs out E' hs F₃ kx hzs hrs hout
    obtain ⟨h₃, tk₃, rfl⟩ := hs
    dsimp only at F₃ kx hzs hrs
    have hd : ds[i]? = some (ds[i]'(by omega)) := List.getElem?_eq_getElem (by omega)
    generalize ds[i]'(by omega) = d at hd
    have hgd : ds.getD i D.none = d := by simp [List.getD_eq_getElem?_getD, hd]
    rw [hgd] at F₃
    have htake : ds.take (i + 1) = ds.take i ++ [d] := by rw [List.take_add_one, hd]; rfl
    have T₃ : Tp h₀ h₃ := T.keep fun b o e => kx b o (fun q => by
        have : s.heap.get? b = none := by
          rcases List.mem_append.mp q with q | q
          · exact hwr b q
          · rcases List.mem_cons.mp q with rfl | q
            · exact none_of En.dn
            · exact none_of (En.yn b q)
        rw [this] at e; cases e) (En.kp b o (hk₂ b o e))
    have drop : ∀ z d', (freeOf scope m).lookup z = some d' → ((x, d) :: freeOf scope m).lookup z = some d' := fun z d' e => by
      by_cases q : z = x
      · subst q; rw [hmx _ hx] at e; cases e
      · rw [lookup_cons_ne q]; exact e
    refine wpAny_pure ?_
    rw [if_pos rfl]
    refine wpAny_bind (EV R (hB d (List.mem_of_getElem? hd)) (s := { s with heap := h₃, toks := tk₃ }) F₃ T₃ fun xv s₅ k₅ r₅ => wpAny_bind (wpAny_standAt (wpAny_bind (wpAny_of_eq (folded_eq hset cenv xv) (wpAny_bind (wpAny_holding (src_list (s := { s with heap := h₃, toks := tk₃ }) R.hd F₃.live k₅ r₅ fun it' s₆ src => ?_)))))))
    refine wpAny_mono (inner_loop (Acc := fun out => out = (ds.take (i + 1)).flatMap f) F₃ hy nyd ?_ En.loc F₃.cin hYW hDW En.dy (fun q => En.dy (q ▸ En.loc)) hDc src hzs hrs ?_ ?_) (fun _ s₇ h₇ => ?_) fun _ _ e => e
    · show ((x, d) :: freeOf scope m).lookup y = none
      rw [lookup_cons_ne (Ne.symm hxy)]; exact hmx _ hy
    · have := htl (i + 1)
      rw [htake, List.flatMap_append] at this
      simp only [List.flatMap_cons, List.flatMap_nil, List.append_nil, List.length_append] at this
      rw [hout]; omega
    · show out ++ f d = (ds.take (i + 1)).flatMap f
      rw [hout, htake, List.flatMap_append]
      simp
    · obtain ⟨h', tk, rfl, k', F', ys', ds', a1, a2, a3⟩ := h₇
      exact ⟨h', tk, rfl, k', F'.weaken drop, ys', ds', a1, a2, a3⟩
  · intro h h' tk zs out F' kw kx hzs hrs hout
    refine fin h' tk zs out kx ?_ hzs hrs ?_
    · obtain ⟨μ, h1, _⟩ := F'.ns
      exact ⟨μ, h1.at' fun o e => kw _ o (fun q => hYf _ En.loc (Wk.sub _ q)) e⟩
    · rw [hout, List.take_of_length_le (by omega)]

/-- NAME = [y for x in A for y in B] -/
theorem asg_two {k : Nat} {F M : Str → List D → Option D} {n : Nat} (EV : EvS prog w h₀ k F M n) (B : Base w.params h₀) (R : Room A k) {s : Shared} {Y : List Addr} (O : Own h₀ Y W env) (Fr : FR W sc env s.heap m) (T : Tp h₀ s.heap)
    {iterA iterB : Expr} {x y z : Str} {px py pe pz pos spos : Pos} {scope : Scope} {ds : List D} {Q : Flow → Shared → Prop} {E : Value → Shared → Prop} (f : D → List D) (hbk : blockOk sc scope = true) (hz : storable sc z = true) (hb : (ds.flatMap f).length ≤ bound) (hx : scope.names.lookup x = some .local) (hy : scope.names.lookup y = some .local) (hxy : x ≠ y) (nyd : y ≠ "__debug__" ∧ y ≠ "__classdict__") (hsetA : notSet iterA = true) (hset : notSet iterB = true)
    (hsw : ∃ b, swapsWith (.ListComp (.Name y pe) [⟨.Name x px, iterA, [], 0⟩, ⟨.Name y py, iterB, [], 0⟩] scope pos) (some (.Name z pz)) spos.line env = pure b)
    (hsrc : psrc (pev F M n sc m) sc iterA = some ds) (hB : ∀ d ∈ ds, pev F M n scope.names ((x, d) :: freeOf scope m) iterB = some (.lst (f d)))
    (hq : ∀ h' tk, FR W sc env h' ((z, .lst (ds.flatMap f)) :: m) → KX Y s.heap h' → Q .next { s with heap := h', toks := tk }) :
    wpAny (model prog w) A (exec (.Assign [.Name z pz] (.ListComp (.Name y pe) [⟨.Name x px, iterA, [], 0⟩, ⟨.Name y py, iterB, [], 0⟩] scope pos) spos) env) Q E s := by
  refine gcomp_assign (fun out => out = ds.flatMap f) Fr hbk hsetA (storable_or hz) hsw (SrcW prog w A W s ds) (fun it s₂ wr S => S.g) (fun Q' hq' => src_ok (EV R) B R.hd Fr T hsrc fun it s₂ S => ?_) (fun it s₂ wr S Dx YL cenv h₄ En RR fin => two_loop EV R Fr T f hb hx hy hxy nyd hset hB S En RR fin) fun out h' tk ho F' _ hb' => ?_
  · obtain ⟨wr, S⟩ := S.ex
    exact hq' it s₂ wr S
  · subst ho
    exact hq h' tk F' (own_store (O := O) hb')
end
end Mine
end

-- MR5
section
open PySem PySem.W PyProof.Rows PySem.Calls PySem.SeqAt
set_option maxRecDepth 100000
namespace Mine
theorem at128 (P : Params) : ∃ o, (K P).lookup 128 = some o ∧ o.data = .func (fdOf P 128) := ⟨_, rfl, rfl⟩
theorem bd128 (P : Params) : (fdOf P 128).body = .stmts (bodyOf P 128) := rfl
theorem ok128 (P : Params) : fnOk ["merged", "records", "rules", "wishes", "names", "asked"] (fdOf P 128) = true := by kernel_rfl
theorem cd128 (P : Params) : codeIn (K P) (fdOf P 128).code (fdOf P 128).qualname = true := by kernel_rfl
theorem bi128 (P : Params) (vs : List Value) (h : vs.length = 6) : bindArgs (fdOf P 128) ⟨vs, []⟩ = pure ((["merged", "records", "rules", "wishes", "names", "asked"] : List Str).zip vs) := by
  obtain ⟨a, b, c, d, e, f, rfl⟩ := len6 h
  kernel_rfl
theorem gl128 (P : Params) : nsIn (K P) mainGlobals "_law_merge_is_right" = some (some (.ref 128)) := by kernel_rfl
noncomputable abbrev sc128 (P : Params) := (fdOf P 128).scope.names
noncomputable def optOf : D → Option (Option Int)
  | .none => some none
  | .int i => some (some i)
  | _ => none
noncomputable def optsOf : List D → Option (List (Option Int))
  | [] => some []
  | d :: r => match optOf d, optsOf r with | some x, some xs => some (x :: xs) | _, _ => none
theorem optsOf_D : ∀ (vs : List (Option Int)), optsOf (vs.map optD) = some vs
  | [] => rfl
  | v :: vs => by cases v <;> simp [optsOf, optOf, optD, optsOf_D vs]
theorem optsOf_some : ∀ {ds : List D} {vs : List (Option Int)}, optsOf ds = some vs → ds = vs.map optD
  | [], vs, h => by simp [optsOf] at h; subst h; rfl
  | d :: r, vs, h => by
    simp only [optsOf] at h
    split at h
    · rename_i x xs h1 h2
      cases h
      rw [optsOf_some h2, List.map_cons]
      congr 1
      cases d <;> simp only [optOf] at h1 <;> cases h1 <;> rfl
    · cases h
/-- last_told and granted -/
noncomputable def F3 (f : Str) (ds : List D) : Option D :=
  if f = "_law_last_told" then (match ds with
    | [.lst l] => (match optsOf l with | some vs => if vs.length ≤ bound then some (optD (lastTold vs)) else none | none => none)
    | _ => none)
  else F1 f ds
theorem F3_told {vs : List (Option Int)} (h : vs.length ≤ bound) : F3 "_law_last_told" [.lst (vs.map optD)] = some (optD (lastTold vs)) := by
  simp only [F3, if_true, optsOf_D, if_pos h]
theorem F3_granted (L T W : List Str) (hL : L.length ≤ bound) : F3 "_law_granted" [S L, S T, S W] = some (.bool (grantedB L T W)) := by
  unfold F3
  rw [if_neg (by decide)]; exact F1_granted L T W hL
theorem F3_ok {prog : Program} {w : World} {h₀ : Heap} {k : Nat} (B : Base w.params h₀) : FnOk prog w h₀ (k + 1) F3 := fun f ds d h => by
  unfold F3 at h
  split at h
  · rename_i hf
    subst hf
    split at h
    · rename_i l
      split at h
      · rename_i vs hvs
        split at h
        · rename_i hb
          cases h
          obtain ⟨o, h1, h2⟩ := at123 w.params
          rw [optsOf_some hvs]
          exact ⟨123, o, _, gl123 _, h1, h2, told_call B hb⟩
        · cases h
      · cases h
    · cases h
  · exact F1_ok B f ds d h
section
variable {F M : Str → List D → Option D} {n : Nat} {sc : List (Str × NameKind)} {m : Mp} {p : Pos}
theorem v_len {e : Expr} {q : Pos} {l : List D} (hf : sc.lookup ("len" : Str) = some .globalImplicit) (hs : noStar e = true) (he : pev F M n sc m e = some (.lst l)) (hl : l.length ≤ bound) : pev F M (n + 1) sc m (.Call (.Name "len" q) [e] [] p) = some (.int l.length) := by
  have hc : sc.lookup ("len" : Str) = some .globalImplicit ∧ ("len" : Str) ≠ "__debug__" ∧ [e].all noStar = true := ⟨hf, by decide, by simp [hs]⟩
  show hFn F _ sc "len" [e] = _
  unfold hFn
  rw [if_pos hc, evs_cons he evs0]
  show (if l.length ≤ bound then some (D.int l.length) else none) = _
  rw [if_pos hl]
theorem v_idxA {x y name : Str} {q q' ap : Pos} {a b d : D} (h1 : pev F M n sc m (.Attribute (.Name x q) name ap) = some a) (h2 : pev F M n sc m (.Name y q') = some b) (h : pidx a b = some d) : pev F M (n + 1) sc m (.Subscript (.Attribute (.Name x q) name ap) (.Name y q') p) = some d := by
  show ((pev F M n sc m (.Attribute (.Name x q) name ap)).bind fun a => (pev F M n sc m (.Name y q')).bind fun b => pidx a b) = _
  rw [h1, h2]; exact h
theorem idx_nat {ds : List D} {i : Nat} {d : D} (hb : ds.length ≤ bound) (h : ds[i]? = some d) : pidx (.lst ds) (.int i) = some d := by
  have hi : i < ds.length := by
    obtain ⟨q, _⟩ := List.getElem?_eq_some_iff.mp h; exact q
  show (if ds.length ≤ bound ∧ -(ds.length : Int) ≤ (i : Int) ∧ (i : Int) < ds.length then ds[(if (i : Int) < 0 then (i : Int) + (ds.length : Int) else i).toNat]? else none) = some d
  rw [if_pos ⟨hb, by omega, by omega⟩, if_neg (by omega)]
  simpa using h
theorem ne_opt (a : Option Int) : pcmp .NotEq (optD a) (optD a) = some false := by
  cases a with
  | none => rfl
  | some i => show Option.map (!·) (some (i == i)) = _; simp
theorem ne_int (a b : Int) : pcmp .NotEq (.int a) (.int b) = some (a != b) := rfl
theorem src_rng {e : Expr} {q p' : Pos} {k : Nat} (hf : sc.lookup ("range" : Str) = some .globalImplicit) (hs : noStar e = true) (he : pev F M n sc m e = some (.int k)) (hk : k ≤ bound) : psrc (pev F M n sc m) sc (.Call (.Name "range" q) [e] [] p') = some ((List.range k).map fun (i : Nat) => .int (i : Int)) := by
  show (if sc.lookup ("range" : Str) = some .globalImplicit ∧ noStar e = true then ((pev F M n sc m e).bind D.gI).bind fun k => if 0 ≤ k ∧ k ≤ bound then some ((List.range k.toNat).map fun (i : Nat) => D.int (i : Int)) else none else none) = _
  rw [if_pos ⟨hf, hs⟩, he]
  show (if 0 ≤ (k : Int) ∧ (k : Int) ≤ bound then _ else none) = _
  rw [if_pos ⟨by omega, by omega⟩]
  simp
end
end Mine
end

-- MR6
section
open PySem PySem.W PyProof.Rows PySem.Calls PySem.SeqAt
set_option maxRecDepth 100000
namespace Mine
/-- the three records, the merge, the wishes -/
structure Mg where
  e : Addr
  r0 : Addr
  r1 : Addr
  r2 : Addr
  u0 : Ent
  u1 : Ent
  u2 : Ent
  ws : List Wish
noncomputable def Mg.u (g : Mg) : Ent := mergeE (mergeE g.u0 g.u1) g.u2
noncomputable def Mg.recs (g : Mg) : D := .lst [entE g.r0 g.u0, entE g.r1 g.u1, entE g.r2 g.u2]
noncomputable def Mg.rls (g : Mg) : List Rule := g.u0.rs ++ g.u1.rs ++ g.u2.rs
noncomputable def Mg.args (g : Mg) : List D := [entE g.e g.u, g.recs, .lst (g.rls.map ruleD), .lst (g.ws.map wishD), namesD, S askedL]
noncomputable def mm0 (g : Mg) : Mp := (["merged", "records", "rules", "wishes", "names", "asked"] : List Str).zip g.args
noncomputable def mm1 (g : Mg) : Mp := ("third", S g.u2.ags) :: ("second", S g.u1.ags) :: ("first", S g.u0.ags) :: mm0 g
theorem u_ags (g : Mg) : g.u.ags = g.u0.ags.filter fun x => g.u1.ags.contains x && g.u2.ags.contains x := by
  simp only [Mg.u, mergeE, List.filter_filter]
  congr 1; funext x; exact Bool.and_comm _ _
theorem told3 (a b c : Option Int) : lastTold [a, b, c] = if c.isNone then (if b.isNone then a else b) else c := by cases a <;> cases b <;> cases c <;> rfl
theorem u_dl (g : Mg) : g.u.dl = lastTold [g.u0.dl, g.u1.dl, g.u2.dl] := by rw [told3]; rfl
theorem u_rt (g : Mg) : g.u.rt = lastTold [g.u0.rt, g.u1.rt, g.u2.rt] := by rw [told3]; rfl
section
variable {F M : Str → List D → Option D}
theorem evs128_0 (P : Params) (g : Mg) : pev F M 40 (sc128 P) (mm0 g) (asgVal (bodyOf P 128)) = some (.lst [S g.u0.ags, S g.u1.ags, S g.u2.ags]) := by
  rw [show ([S g.u0.ags, S g.u1.ags, S g.u2.ags] : List D) = (([(g.r0, g.u0), (g.r1, g.u1), (g.r2, g.u2)] : List (Addr × Ent)).filter fun _ => true).map fun p => S p.2.ags from rfl]
  exact v_comp (f := fun p : Addr × Ent => entE p.1 p.2) (L := [(g.r0, g.u0), (g.r1, g.u1), (g.r2, g.u2)]) (fun _ => true) (fun p => S p.2.ags) ⟨by kernel_rfl, .inl (by kernel_rfl), rfl⟩ (by kernel_rfl) (by show 3 ≤ bound; decide) (fun p _ => rfl) (fun p _ _ => v_attr (v_name lookup_cons_self (by decide)) (attr_ent p.1 p.2).1)
theorem ts128_1 (P : Params) (g : Mg) (hl : g.u0.ags.length ≤ bound) : ptest F M 40 (sc128 P) (mm1 g) (ifTest ((bodyOf P 128).drop 1)) = some false := by
  refine t_cmp (a := S g.u.ags) (b := S (g.u0.ags.filter fun x => g.u1.ags.contains x && g.u2.ags.contains x)) rfl (v_attr (v_name rfl (by decide)) (attr_ent g.e g.u).1) ?_ (by rw [u_ags, ne_S]; simp)
  exact v_comp (f := D.str) (L := g.u0.ags) (fun x => g.u1.ags.contains x && g.u2.ags.contains x) D.str ⟨by kernel_rfl, .inl (by kernel_rfl), rfl⟩ (by kernel_rfl) hl (fun x _ => ts1 (t_and (t_cmp (a := .str x) (b := S g.u1.ags) rfl (by kernel_rfl) (by kernel_rfl) (in_S x _)) fun _ => t_cmp (a := .str x) (b := S g.u2.ags) rfl (by kernel_rfl) (by kernel_rfl) (in_S x _))) (fun x _ _ => by kernel_rfl)
theorem is_rule (r : Rule) : pcmp .IsNot (ruleD r) (ruleD r) = some false := by
  show Option.map (!·) (some (r.a == r.a)) = _
  simp
theorem ts128_2 (P : Params) (g : Mg) (hl : g.rls.length ≤ bound) : ptest F M 40 (sc128 P) (mm1 g) (ifTest ((bodyOf P 128).drop 2)) = some false := by
  have hl' : (g.rls.map ruleD).length ≤ bound := by rw [List.length_map]; exact hl
  have e1 : ∀ n q ap, pev F M (n + 2) (sc128 P) (mm1 g) (.Attribute (.Name "merged" q) "rulelines" ap) = some (.lst (g.rls.map ruleD)) := fun n q ap => v_attr (v_name rfl (by decide)) (attr_ent g.e g.u).2.1
  have e2 : ∀ n q, pev F M (n + 1) (sc128 P) (mm1 g) (.Name "rules" q) = some (.lst (g.rls.map ruleD)) := fun n q => v_name rfl (by decide)
  refine Eq.trans (t_or (c := false) (d := false) (t_cmp (a := .int ((g.rls.map ruleD).length)) (b := .int ((g.rls.map ruleD).length)) rfl (v_len (by kernel_rfl) rfl (e1 _ _ _) hl') (v_len (by kernel_rfl) rfl (e2 _ _) hl') (by rw [ne_int]; simp)) fun _ => ?_) rfl
  refine t_cmp (a := S []) (b := S []) rfl ?_ (by kernel_rfl) (by rw [ne_S]; rfl)
  rw [show (S [] : D) = .lst (((List.range g.rls.length).filter fun _ => false).map fun _ => .none) by simp [S]]
  refine v_comp (f := fun i : Nat => D.int i) (L := List.range g.rls.length) (fun _ => false) (fun _ => .none) ⟨by kernel_rfl, .inl (by kernel_rfl), rfl⟩ ?_ (by simpa using hl) (fun i hi => ?_) (fun _ _ h => by cases h)
  · refine src_rng (by kernel_rfl) rfl ?_ hl
    rw [show g.rls.length = (g.rls.map ruleD).length from (List.length_map ..).symm]
    exact v_len (by kernel_rfl) rfl (e2 _ _) hl'
  · have hi' : i < g.rls.length := List.mem_range.mp hi
    have hg : (g.rls.map ruleD)[i]? = some (ruleD g.rls[i]) := by rw [List.getElem?_map, List.getElem?_eq_getElem hi']; rfl
    exact ts1 (t_cmp (a := ruleD g.rls[i]) (b := ruleD g.rls[i]) rfl (v_idxA (a := .lst (g.rls.map ruleD)) (b := .int i) (v_attr (a := entE g.e g.u) (by kernel_rfl) (attr_ent g.e g.u).2.1) (by kernel_rfl) (idx_nat hl' hg)) (v_idxN (a := .lst (g.rls.map ruleD)) (b := .int i) (by kernel_rfl) (by kernel_rfl) (idx_nat hl' hg)) (is_rule _))
theorem recs_src (P : Params) (g : Mg) {n : Nat} {m : Mp} {q : Pos} (hm : m.lookup ("records" : Str) = some g.recs) : psrc (pev F M (n + 1) (sc128 P) m) (sc128 P) (.Name "records" q) = some (([(g.r0, g.u0), (g.r1, g.u1), (g.r2, g.u2)] : List (Addr × Ent)).map fun p => entE p.1 p.2) := by
  exact src_of rfl (by rw [v_name hm (by decide)]; rfl)
theorem ts128_3 (P : Params) (g : Mg) : ptest F3 M 40 (sc128 P) (mm1 g) (ifTest ((bodyOf P 128).drop 3)) = some false := by
  refine t_cmp (a := optD g.u.dl) (b := optD (lastTold [g.u0.dl, g.u1.dl, g.u2.dl])) rfl (v_attr (v_name rfl (by decide)) (attr_ent g.e g.u).2.2.1) (v_fn (by kernel_rfl) (by decide) (by decide) rfl (evs_cons ?_ evs0) (F3_told (vs := [g.u0.dl, g.u1.dl, g.u2.dl]) (by show 3 ≤ bound; decide))) (by rw [u_dl]; exact ne_opt _)
  rw [show ([g.u0.dl, g.u1.dl, g.u2.dl].map optD : List D) = (([(g.r0, g.u0), (g.r1, g.u1), (g.r2, g.u2)] : List (Addr × Ent)).filter fun _ => true).map fun p => optD p.2.dl from rfl]
  exact v_comp (f := fun p : Addr × Ent => entE p.1 p.2) (L := [(g.r0, g.u0), (g.r1, g.u1), (g.r2, g.u2)]) (fun _ => true) (fun p => optD p.2.dl) ⟨by kernel_rfl, .inl (by kernel_rfl), rfl⟩ (recs_src P g rfl) (by show 3 ≤ bound; decide) (fun p _ => rfl) (fun p _ _ => v_attr (v_name lookup_cons_self (by decide)) (attr_ent p.1 p.2).2.2.1)
theorem ts128_4 (P : Params) (g : Mg) : ptest F3 M 40 (sc128 P) (mm1 g) (ifTest ((bodyOf P 128).drop 4)) = some false := by
  refine t_cmp (a := optD g.u.rt) (b := optD (lastTold [g.u0.rt, g.u1.rt, g.u2.rt])) rfl (v_attr (v_name rfl (by decide)) (attr_ent g.e g.u).2.2.2) (v_fn (by kernel_rfl) (by decide) (by decide) rfl (evs_cons ?_ evs0) (F3_told (vs := [g.u0.rt, g.u1.rt, g.u2.rt]) (by show 3 ≤ bound; decide))) (by rw [u_rt]; exact ne_opt _)
  rw [show ([g.u0.rt, g.u1.rt, g.u2.rt].map optD : List D) = (([(g.r0, g.u0), (g.r1, g.u1), (g.r2, g.u2)] : List (Addr × Ent)).filter fun _ => true).map fun p => optD p.2.rt from rfl]
  exact v_comp (f := fun p : Addr × Ent => entE p.1 p.2) (L := [(g.r0, g.u0), (g.r1, g.u1), (g.r2, g.u2)]) (fun _ => true) (fun p => optD p.2.rt) ⟨by kernel_rfl, .inl (by kernel_rfl), rfl⟩ (recs_src P g rfl) (by show 3 ≤ bound; decide) (fun p _ => rfl) (fun p _ _ => v_attr (v_name lookup_cons_self (by decide)) (attr_ent p.1 p.2).2.2.2)
noncomputable def struckL (g : Mg) : List Str := g.ws.map (·.struck)
noncomputable def wantedL (g : Mg) : List Str := g.ws.flatMap (·.wanted)
theorem struck128 (P : Params) (g : Mg) (hw : g.ws.length ≤ bound) : pev F M 40 (sc128 P) (mm1 g) (asgVal ((bodyOf P 128).drop 5)) = some (S (struckL g)) := by
  rw [show S (struckL g) = .lst ((g.ws.filter fun _ => true).map fun u => .str u.struck) by rw [filter_true']; simp [S, struckL, Function.comp]]
  exact v_comp (f := wishD) (L := g.ws) (fun _ => true) (fun u => .str u.struck) ⟨by kernel_rfl, .inl (by kernel_rfl), rfl⟩ (by kernel_rfl) hw (fun u _ => rfl) (fun u _ _ => v_idxC (v_name lookup_cons_self (by decide)) v_int (show pidx (wishD u) (.int 0) = some (.str u.struck) by kernel_rfl))
noncomputable def mm2 (g : Mg) : Mp := ("struck", S (struckL g)) :: mm1 g
noncomputable def mm3 (g : Mg) : Mp := ("wanted", S (wantedL g)) :: mm2 g
theorem pexecs_one {ex : Mp → Stmt → Option PF} {m : Mp} {st : Stmt} {r : PF} (h : pexecs ex m [st] = some r) : ex m st = some r := by
  simp only [pexecs] at h
  split at h
  · rename_i m' hm; rw [hm]; exact h
  · rename_i v hv; rw [hv]; exact h
  · cases h
structure At128 (g : Mg) (m : Mp) : Prop where
  mg : m.lookup ("merged" : Str) = some (entE g.e g.u)
  as : m.lookup ("asked" : Str) = some (S askedL)
  nm : m.lookup ("names" : Str) = some namesD
  st : m.lookup ("struck" : Str) = some (S (struckL g))
  wa : m.lookup ("wanted" : Str) = some (S (wantedL g))
  wi : m.lookup ("wishes" : Str) = some (.lst (g.ws.map wishD))
theorem At128.cons {g : Mg} {m : Mp} (h : At128 g m) (d : D) : At128 g (("which", d) :: m) :=
  ⟨by rw [lookup_cons_ne (by decide)]; exact h.mg, by rw [lookup_cons_ne (by decide)]; exact h.as, by rw [lookup_cons_ne (by decide)]; exact h.nm, by rw [lookup_cons_ne (by decide)]; exact h.st, by rw [lookup_cons_ne (by decide)]; exact h.wa, by rw [lookup_cons_ne (by decide)]; exact h.wi⟩
theorem for128 (P : Params) (g : Mg) (hr : rsOk g.u.rs) (h1 : ∀ i ∈ i16, allowB g.u.rs (some (qS i)) = grantedB (lettersL i) (struckL g) (wantedL g)) :
    ∃ m', pexec F3 M2 10 (sc128 P) (mm3 g) (((bodyOf P 128).drop 7).headD (.Pass ⟨0, 0, 0, 0⟩)) = some (.next m') ∧ At128 g m' := by
  obtain ⟨m', e, h'⟩ := pfor_all (body := fun m' => pexecs (pexec F3 M2 9 (sc128 P)) m' (forBody ((bodyOf P 128).drop 7))) (x := "which") (ds := i16.map .int) (fun m => At128 g m) (m := mm3 g) ⟨rfl, rfl, rfl, rfl, rfl, rfl⟩ (fun d hd m hm => by
      obtain ⟨i, hi, rfl⟩ := List.mem_map.mp hd
      have lL := (letters_rising hi).2
      refine ⟨_, st_skip (t_cmp rfl (allow_ev (u := some (nameOf i)) rfl rfl (by kernel_rfl) (v_name (hm.cons _).mg (by decide)) (v_idxN (v_name (hm.cons _).as (by decide)) (v_name lookup_cons_self (by decide)) (asked_at hi)) hr (ask_name hi))
        (v_fn (by kernel_rfl) (by decide) (by decide) rfl (evs_cons (v_idxN (v_name (hm.cons _).nm (by decide)) (v_name lookup_cons_self (by decide)) (names_at hi)) (evs_cons (v_name (hm.cons _).st (by decide)) (evs_cons (v_name (hm.cons _).wa (by decide)) evs0))) (F3_granted _ _ _ (Nat.le_trans lL (by decide)))) (is_not_same _ _ (h1 i hi))) rfl, hm.cons _⟩)
  exact ⟨m', pexecs_one (st_for (ds := i16.map .int) (by kernel_rfl) rfl (by kernel_rfl) (by decide) e rfl), h'⟩
theorem ret128 (P : Params) (g : Mg) {m : Mp} (hw : g.ws.length ≤ bound) (h' : At128 g m) (hr : rsOk g.u.rs)
    (h2 : allowB g.u.rs none = ((g.ws.filter fun u => (u.bits.fdiv 8).fmod 2 == 1).isEmpty || !(g.ws.filter fun u => (u.bits.fdiv 16).fmod 2 == 1).isEmpty)) :
    pexecs (pexec F3 M2 10 (sc128 P)) m ((bodyOf P 128).drop 8) = some (.ret (.bool true)) := by
  have bits : pev F3 M2 40 (sc128 P) m (asgVal ((bodyOf P 128).drop 8)) = some (Z (g.ws.map (·.bits))) := by
    rw [show Z (g.ws.map (·.bits)) = .lst ((g.ws.filter fun _ => true).map fun u => .int u.bits) by rw [filter_true']; simp [Z, Function.comp]]
    refine v_comp (f := wishD) (L := g.ws) (fun _ => true) (fun u => .int u.bits) ⟨by kernel_rfl, .inl (by kernel_rfl), rfl⟩ ?_ hw (fun u _ => rfl) (fun u _ _ => v_idxC (v_name lookup_cons_self (by decide)) v_int (show pidx (wishD u) (.int 2) = some (.int u.bits) by kernel_rfl))
    exact src_of rfl (v_name h'.wi (by decide))
  refine st_asg bits (by kernel_rfl) (st_ret ?_)
  have hb : (("bits", Z (g.ws.map (·.bits))) :: m : Mp).lookup ("bits" : Str) = some (Z (g.ws.map (·.bits))) := lookup_cons_self
  have cmp : ∀ (c : Int) (hc : c ≠ 0 ∧ c.natAbs < 1073741824), ((g.ws.map (·.bits)).filter fun x => (x.fdiv c).fmod 2 == 1) = (g.ws.filter fun u => (u.bits.fdiv c).fmod 2 == 1).map (·.bits) := fun c _ => by rw [List.filter_map]; rfl
  refine v_cmp rfl (allow_ev (u := none) rfl rfl (by kernel_rfl) (v_name (by rw [lookup_cons_ne (by decide)]; exact h'.mg) (by decide)) (by kernel_rfl) hr rfl) (v_or (c := (g.ws.filter fun u => (u.bits.fdiv 8).fmod 2 == 1).isEmpty) (d := !(g.ws.filter fun u => (u.bits.fdiv 16).fmod 2 == 1).isEmpty) ?_ fun _ => ?_) (is_same _ _ h2)
  · refine v_cmp (a := Z ((g.ws.map (·.bits)).filter fun x => (x.fdiv 8).fmod 2 == 1)) (b := Z []) rfl ?_ (by kernel_rfl) ?_
    · show pev _ _ _ _ _ _ = some (.lst (((g.ws.map (·.bits)).filter fun x => (x.fdiv 8).fmod 2 == 1).map D.int))
      refine v_comp (f := D.int) (L := g.ws.map (·.bits)) (fun x : Int => (x.fdiv 8).fmod 2 == 1) D.int ?_ ?_ ?_ ?_ ?_
      · exact ⟨by kernel_rfl, .inl (by kernel_rfl), rfl⟩
      · exact src_of rfl (v_name hb (by decide))
      · simpa using hw
      · exact fun x _ => ts1 (t_cmp rfl (v_bin (v_bin (v_name lookup_cons_self (by decide)) v_int (fd_int _ _ (by decide))) v_int (md_int _ _ (by decide))) v_int (eq_int _ _))
      · exact fun x _ _ => v_name lookup_cons_self (by decide)
    · rw [eq_Z, cmp 8 (by decide)]
      cases (g.ws.filter fun u => (u.bits.fdiv 8).fmod 2 == 1) <;> rfl
  · refine v_cmp (a := Z ((g.ws.map (·.bits)).filter fun x => (x.fdiv 16).fmod 2 == 1)) (b := Z []) rfl ?_ (by kernel_rfl) ?_
    · show pev _ _ _ _ _ _ = some (.lst (((g.ws.map (·.bits)).filter fun x => (x.fdiv 16).fmod 2 == 1).map D.int))
      refine v_comp (f := D.int) (L := g.ws.map (·.bits)) (fun x : Int => (x.fdiv 16).fmod 2 == 1) D.int ?_ ?_ ?_ ?_ ?_
      · exact ⟨by kernel_rfl, .inl (by kernel_rfl), rfl⟩
      · exact src_of rfl (v_name hb (by decide))
      · simpa using hw
      · exact fun x _ => ts1 (t_cmp rfl (v_bin (v_bin (v_name lookup_cons_self (by decide)) v_int (fd_int _ _ (by decide))) v_int (md_int _ _ (by decide))) v_int (eq_int _ _))
      · exact fun x _ _ => v_name lookup_cons_self (by decide)
    · rw [ne_Z, cmp 16 (by decide)]
      cases (g.ws.filter fun u => (u.bits.fdiv 16).fmod 2 == 1) <;> rfl
end
end Mine
end

-- MR7
section
open PySem PySem.W PyProof.Rows PySem.Calls PySem.SeqAt
set_option maxRecDepth 100000
namespace Mine
section
variable {prog : Program} {w : World} {h₀ : Heap} {k : Nat}
theorem if_skip {F M : Str → List D → Option D} {n : Nat} (TS : TsS prog w h₀ k F M n) {A : Around} {W : List Addr} {sc : List (Str × NameKind)} {env : Env} {m : Mp} {s : Shared} {t : Expr} {b : List Stmt} {p : Pos} {Q : Flow → Shared → Prop} {E : Value → Shared → Prop} (R : Room A k) (Fr : FR W sc env s.heap m) (T : Tp h₀ s.heap)
    (ht : ptest F M n sc m t = some false) (hq : ∀ h' tk, (∀ b o, s.heap.get? b = some o → h'.get? b = some o) → Q .next { s with heap := h', toks := tk }) : wpAny (model prog w) A (exec (.If t b [] p) env) Q E s := by
  refine wpAny_If (TS R (b := false) ht Fr T (kfor fun h' tk hk => ?_))
  rw [if_neg (by decide)]
  exact wpAny_execs_nil (hq h' tk hk)
theorem wantedD (ws : List Wish) : (ws.map wishD).flatMap (fun d => match d with | .tup (_ :: .lst l :: _) => l | _ => []) = (ws.flatMap (·.wanted)).map D.str := by
  induction ws with
  | nil => rfl
  | cons u ws ih => rw [List.map_cons, List.flatMap_cons, List.flatMap_cons, List.map_append, ih]; rfl
theorem mergeRight_call (B : Base w.params h₀) {g : Mg} (hl : g.u0.ags.length ≤ bound) (hr : rsOk g.u.rs) (hw : g.ws.length ≤ 3) (hww : ∀ u ∈ g.ws, u.wanted.length ≤ 4) (h1 : ∀ i ∈ i16, allowB g.u.rs (some (qS i)) = grantedB (lettersL i) (struckL g) (wantedL g))
    (h2 : allowB g.u.rs none = ((g.ws.filter fun u => (u.bits.fdiv 8).fmod 2 == 1).isEmpty || !(g.ws.filter fun u => (u.bits.fdiv 16).fmod 2 == 1).isEmpty)) : CallOk prog w h₀ (k + 3) 128 g.args (.bool true) := by
  intro A W s vs Q E R T lv hrs hq
  obtain ⟨o, a1, a2⟩ := at128 w.params
  refine call_frame (ps := ["merged", "records", "rules", "wishes", "names", "asked"]) B R T lv a1 a2 (cd128 _) (bd128 _) (ok128 _) (bi128 _ vs hrs.length) hrs fun Y env h₁ tk₁ hY henv O Fr hk₁ hYn => ?_
  have R' := R.deeper env
  have T₁ := T.keep hk₁
  have FO : FnOk prog w h₀ (k + 2) F3 := F3_ok B
  have MO : MtOk prog w h₀ (k + 2) M2 := M2_ok B
  obtain ⟨EV, TS⟩ := ev_sound (prog := prog) (k := k + 2) (F := F3) (M := M2) B FO MO 40
  have hrl : g.rls.length ≤ bound := hr.1
  -- first, second, third
  refine ec (asg_unpackL (s := { s with heap := h₁, toks := tk₁ }) (xs := [("first", ⟨156, 4, 156, 9⟩), ("second", ⟨156, 11, 156, 17⟩), ("third", ⟨156, 19, 156, 24⟩)]) (ds := [S g.u0.ags, S g.u1.ags, S g.u2.ags]) O R'.hd (fun x hx => by
      simp at hx; rcases hx with rfl | rfl | rfl <;> kernel_rfl) rfl Fr rfl rfl rfl (fun Q' hq' => EV R' (evs128_0 w.params g) Fr T₁ hq') fun h₂ tk₂ F₂ k₂ => ?_)
  have F₂ : FR (Y ++ W) (sc128 w.params) env h₂ (mm1 g) := F₂
  have T₂ := T₁.kx k₂ O.new
  refine ec (if_skip (s := { s with heap := h₂, toks := tk₂ }) TS R' F₂ T₂ (ts128_1 w.params g hl) fun h₃ tk₃ hk₃ => ?_)
  have F₃ := F₂.keep hk₃
  have T₃ := T₂.keep hk₃
  refine ec (if_skip (s := { s with heap := h₃, toks := tk₃ }) TS R' F₃ T₃ (ts128_2 w.params g hrl) fun h₄ tk₄ hk₄ => ?_)
  have F₄ := F₃.keep hk₄
  have T₄ := T₃.keep hk₄
  refine ec (if_skip (s := { s with heap := h₄, toks := tk₄ }) TS R' F₄ T₄ (ts128_3 w.params g) fun h₅ tk₅ hk₅ => ?_)
  have F₅ := F₄.keep hk₅
  have T₅ := T₄.keep hk₅
  refine ec (if_skip (s := { s with heap := h₅, toks := tk₅ }) TS R' F₅ T₅ (ts128_4 w.params g) fun h₆ tk₆ hk₆ => ?_)
  have F₆ := F₅.keep hk₆
  have T₆ := T₅.keep hk₆
  have hwb : g.ws.length ≤ bound := Nat.le_trans hw (by decide)
  -- struck
  refine ec (assign_ok (s := { s with heap := h₆, toks := tk₆ }) (n := 40) (d := S (struckL g)) (k := k + 2) B (F := F3) (M := M2) FO MO R' O F₆ T₆ (by kernel_rfl) (struck128 w.params g hwb) fun h₇ tk₇ F₇ k₇ => ?_)
  have T₇ := T₆.kx k₇ O.new
  -- wanted
  have hwl : (g.ws.flatMap (·.wanted)).length ≤ 4 * g.ws.length := by
    clear h1 h2 hrs hq F₂ F₃ F₄ F₅ F₆ F₇ Fr hwb hw hr hrl
    revert hww
    generalize g.ws = ws
    intro hww
    induction ws with
    | nil => simp
    | cons u ws ih =>
      rw [List.flatMap_cons, List.length_append, List.length_cons]
      have := hww u List.mem_cons_self
      have := ih fun v hv => hww v (List.mem_cons_of_mem _ hv)
      omega
  have hwd := wantedD g.ws
  refine ec (asg_two (s := { s with heap := h₇, toks := tk₇ }) (ds := g.ws.map wishD) EV B R' O F₇ T₇ (fun d => match d with | .tup (_ :: .lst l :: _) => l | _ => []) (by kernel_rfl) (by kernel_rfl) ?_ (by kernel_rfl) (by kernel_rfl) (by decide) (by decide) rfl rfl ⟨_, rfl⟩ (by kernel_rfl) (fun d hd => ?_) fun h₈ tk₈ F₈ k₈ => ?_)
  · rw [hwd, List.length_map]
    exact Nat.le_trans hwl (Nat.le_trans (Nat.mul_le_mul_left 4 hw) (by decide))
  · obtain ⟨u, _, rfl⟩ := List.mem_map.mp hd
    exact v_idxC (v_name lookup_cons_self (by decide)) v_int (show pidx (wishD u) (.int 1) = some (S u.wanted) by kernel_rfl)
  rw [hwd] at F₈
  have F₈ : FR (Y ++ W) (sc128 w.params) env h₈ (mm3 g) := F₈
  have T₈ := T₇.kx k₈ O.new
  -- for
  obtain ⟨m', e', am⟩ := for128 w.params g hr h1
  refine ec (ex_sound B FO MO 10 R' O F₈ (s := { s with heap := h₈, toks := tk₈ }) T₈ e' fun h₉ tk₉ F₉ k₉ => ?_)
  have T₉ := T₈.kx k₉ O.new
  refine exs_sound B FO MO R' O (s := { s with heap := h₉, toks := tk₉ }) F₉ T₉ (ret128 w.params g hwb am hr h2) fun v h' tk kx r => ?_
  refine hq v _ ⟨h', tk, rfl, fun b o e => ?_⟩ (r.off fun b hb => .inl (List.mem_append_right _ hb))
  have nY : b ∉ Y := fun q => by rw [hYn b q] at e; cases e
  exact kx b o nY (k₉ b o nY (k₈ b o nY (k₇ b o nY (hk₆ b o (hk₅ b o (hk₄ b o (hk₃ b o (k₂ b o nY (hk₁ b o e)))))))))
end
end Mine
end

-- Law2
section
open PySem PySem.W PyProof.Rows PySem.Calls PySem.SeqAt
set_option maxRecDepth 100000
namespace Mine
/-- letters, asked, granted -/
noncomputable def F4 (f : Str) (ds : List D) : Option D :=
  if f = "_law_letters" then (match ds with | [.int v] => some (S (lettersL v)) | _ => none)
  else if f = "_law_asked" then (match ds with
    | [.lst l, .int i] => (match strsOf l with | some L => if i ∈ i16 ∧ L = lettersL i then some (.str (nameOf i)) else none | none => none)
    | _ => none)
  else F1 f ds
theorem F4_letters (v : Int) : F4 "_law_letters" [.int v] = some (S (lettersL v)) := by simp only [F4, if_true]
theorem F4_asked {i : Int} (hi : i ∈ i16) : F4 "_law_asked" [S (lettersL i), .int i] = some (.str (nameOf i)) := by
  unfold F4
  rw [if_neg (by decide), if_pos rfl]
  simp only [S, strsOf_map]
  rw [if_pos ⟨hi, trivial⟩]
theorem F4_granted (L T W : List Str) (hL : L.length ≤ bound) : F4 "_law_granted" [S L, S T, S W] = some (.bool (grantedB L T W)) := by
  unfold F4
  rw [if_neg (by decide), if_neg (by decide)]; exact F1_granted L T W hL
theorem F4_ok {prog : Program} {w : World} {h₀ : Heap} {k : Nat} (B : Base w.params h₀) : FnOk prog w h₀ (k + 1) F4 := fun f ds d h => by
  unfold F4 at h
  split at h
  · rename_i hf
    subst hf
    split at h
    · rename_i v
      cases h
      obtain ⟨o, h1, h2⟩ := at101 w.params
      exact ⟨101, o, _, gl101 _, h1, h2, letters_call B v⟩
    · cases h
  · split at h
    · rename_i hf
      subst hf
      split at h
      · rename_i l i
        split at h
        · rename_i L hL
          split at h
          · rename_i hc
            cases h
            obtain ⟨o, h1, h2⟩ := at108 w.params
            rw [strsOf_some hL, hc.2]
            exact ⟨108, o, _, gl108 _, h1, h2, asked_call B hc.1⟩
          · cases h
        · cases h
      · cases h
    · exact F1_ok B f ds d h
noncomputable def letL (u : Wish) : List Int := i16.filter fun i => grantedB (lettersL i) [u.struck] u.wanted
noncomputable def q1 (L : List Int) : Mp := ("names", namesD) :: (["script"] : List Str).zip [Z L]
noncomputable def q2 (L : List Int) : Mp := ("asked", S askedL) :: q1 L
noncomputable def q3 (L : List Int) (ws : List Wish) : Mp := ("wishes", .lst (ws.map wishD)) :: q2 L
noncomputable def letsD (ws : List Wish) : D := letD (ws.map letL)
noncomputable def q4 (L : List Int) (ws : List Wish) : Mp := ("let", letsD ws) :: q3 L ws
section
variable {M : Str → List D → Option D}
theorem names150 (P : Params) (L : List Int) : pev F4 M 40 (sc150 P) ((["script"] : List Str).zip [Z L]) (asgVal (bodyOf P 150)) = some namesD := by
  rw [show namesD = .lst ((i16.filter fun _ => true).map fun i => S (lettersL i)) by rw [filter_true']; simp [namesD, Function.comp]]
  exact v_comp (f := D.int) (L := i16) (fun _ => true) (fun i => S (lettersL i)) ⟨by kernel_rfl, .inl (by kernel_rfl), rfl⟩ (by kernel_rfl) (by decide) (fun i _ => rfl) (fun i _ _ => v_fn (by kernel_rfl) (by decide) (by decide) rfl (evs_cons (v_name lookup_cons_self (by decide)) evs0) (F4_letters i))
theorem asked150 (P : Params) (L : List Int) : pev F4 M 40 (sc150 P) (q1 L) (asgVal ((bodyOf P 150).drop 1)) = some (S askedL) := by
  rw [show S askedL = .lst ((i16.filter fun _ => true).map fun i => .str (nameOf i)) by rw [filter_true']; simp [S, askedL, Function.comp]]
  exact v_comp (f := D.int) (L := i16) (fun _ => true) (fun i => .str (nameOf i)) ⟨by kernel_rfl, .inl (by kernel_rfl), rfl⟩ (by kernel_rfl) (by decide) (fun i _ => rfl) (fun i hi _ => v_fn (by kernel_rfl) (by decide) (by decide) rfl (evs_cons (v_idxN (a := namesD) (b := .int i) (by kernel_rfl) (by kernel_rfl) (names_at hi)) (evs_cons (v_name lookup_cons_self (by decide)) evs0)) (F4_asked hi))
theorem let150 (P : Params) (L : List Int) (ws : List Wish) (hw : ws.length ≤ bound) : pev F4 M 40 (sc150 P) (q3 L ws) (asgVal ((bodyOf P 150).drop 3)) = some (letsD ws) := by
  rw [show letsD ws = .lst ((ws.filter fun _ => true).map fun u => .lst ((i16.filter fun i => grantedB (lettersL i) [u.struck] u.wanted).map D.int)) by rw [filter_true']; simp [letsD, letD, Z, letL, Function.comp]]
  refine v_comp (f := wishD) (L := ws) (fun _ => true) (fun u => .lst ((i16.filter fun i => grantedB (lettersL i) [u.struck] u.wanted).map D.int)) ⟨by kernel_rfl, .inr (by kernel_rfl), rfl⟩ (by kernel_rfl) hw (fun u _ => rfl) (fun u _ _ => ?_)
  refine v_comp (f := D.int) (L := i16) (fun i => grantedB (lettersL i) [u.struck] u.wanted) D.int ?_ ?_ ?_ ?_ ?_
  · exact ⟨by kernel_rfl, .inl (by kernel_rfl), rfl⟩
  · kernel_rfl
  · decide
  · intro i hi
    have lL := (letters_rising hi).2
    refine ts1 (t_call (v_fn (ds := [S (lettersL i), S [u.struck], S u.wanted]) (by kernel_rfl) (by decide) (by decide) rfl (evs_cons (v_idxN (a := namesD) (b := .int i) (by kernel_rfl) (by kernel_rfl) (names_at hi)) (evs_cons ?_ (evs_cons ?_ evs0))) (F4_granted _ _ _ (Nat.le_trans lL (by decide)))))
    · exact v_list (ds := [.str u.struck]) (by decide) (evs_cons (v_idxC (a := wishD u) (by kernel_rfl) v_int (show pidx (wishD u) (.int 0) = some (.str u.struck) by kernel_rfl)) evs0)
    · exact v_idxC (a := wishD u) (by kernel_rfl) v_int (show pidx (wishD u) (.int 1) = some (S u.wanted) by kernel_rfl)
  · exact fun i _ _ => v_name lookup_cons_self (by decide)
end
end Mine
end

-- Plain1
section
open PySem PySem.W PyProof.Rows PySem.Calls PySem.SeqAt
set_option maxRecDepth 100000
namespace Mine
/-- the rules' word, by the values of the rules alone -/
noncomputable def appV (q : Option Str) (r : List Str × Bool) : Bool := appliesB r.1 q
noncomputable def allowV (vs : List (List Str × Bool)) (q : Option Str) : Bool := vs.any (fun r => r.2 && appV q r) || !vs.any (fun r => !r.2 && appV q r)
theorem allow_V (rs : List Rule) (q : Option Str) : allowB rs q = allowV (rs.map ruleV) q := by
  unfold allowB allowV
  induction rs with
  | nil => rfl
  | cons r rs ih =>
    simp only [List.map_cons, List.any_cons, List.filter_cons]
    have e : appV q (ruleV r) = appliesB r.agents q := rfl
    cases h : appliesB r.agents q with
    | false =>
      rw [e, h]
      simp only [Bool.and_false, Bool.false_or]
      exact ih
    | true =>
      rw [e, h]
      simp only [if_true, List.isEmpty_cons, Bool.false_or, List.any_cons, Bool.and_true]
      have e2 : (ruleV r).2 = r.verdict := rfl
      rw [e2]
      cases hv : r.verdict with
      | true => simp
      | false =>
        simp only [Bool.false_or, Bool.not_false, Bool.true_or, Bool.not_true, Bool.or_false]
        clear ih
        induction rs with
        | nil => rfl
        | cons r' rs ih' =>
          simp only [List.map_cons, List.any_cons, List.filter_cons]
          have e' : appV q (ruleV r') = appliesB r'.agents q := rfl
          have e2' : (ruleV r').2 = r'.verdict := rfl
          rw [e', e2']
          cases h' : appliesB r'.agents q with
          | false => simpa using ih'
          | true => simp only [if_true, List.any_cons, Bool.and_true]; rw [ih']
noncomputable def four : List Str := ["a", "b", "c", "d"]
theorem hit_letter : ∀ i ∈ i16, ∀ l ∈ four, ∀ g : Bool, hitS (qS i) (up g l) = (lettersL i).contains l := by decide +kernel
theorem hit_star : ∀ i ∈ i16, hitS (qS i) "*" = false := by decide +kernel
theorem up_star : ∀ l ∈ four, ∀ g : Bool, (up g l == ("*" : Str)) = false := by decide +kernel
/-- a wish about the four letters -/
structure Wf (u : Wish) : Prop where
  s : u.struck ∈ four
  w : ∀ x ∈ u.wanted, x ∈ four
  l : u.wanted.length ≤ 4
theorem any_hit {i : Int} (hi : i ∈ i16) (g : Bool) : ∀ {L : List Str}, (∀ x ∈ L, x ∈ four) → (L.map (up g)).any (hitS (qS i)) = L.any fun x => (lettersL i).contains x
  | [], _ => rfl
  | x :: L, h => by
    rw [List.map_cons, List.any_cons, List.any_cons, hit_letter i hi x (h x List.mem_cons_self) g, any_hit hi g fun y hy => h y (List.mem_cons_of_mem _ hy)]
theorem any_star' (g : Bool) : ∀ {L : List Str}, (∀ x ∈ L, x ∈ four) → (L.map (up g)).contains "*" = false
  | [], _ => rfl
  | x :: L, h => by
    rw [List.map_cons, List.contains_cons, any_star' g fun y hy => h y (List.mem_cons_of_mem _ hy)]
    have := up_star x (h x List.mem_cons_self) g
    have : (("*" : Str) == up g x) = false := by
      rw [Bool.eq_false_iff] at this ⊢
      intro q
      exact this (by rw [beq_iff_eq] at q ⊢; exact q.symm)
    rw [this]; rfl
/-- which rules of a record speak -/
theorem ban_app {u : Wish} (h : Wf u) {i : Int} (hi : i ∈ i16) : appV (some (qS i)) (banL u) = (lettersL i).contains u.struck := by
  show (starL u ++ [up (greatB u) u.struck]).any (hitS (qS i)) = _
  rw [List.any_append]
  have e1 : (starL u).any (hitS (qS i)) = false := by
    unfold starL
    split
    · simp [hit_star i hi]
    · rfl
  rw [e1]
  simp [hit_letter i hi u.struck h.s]
theorem grant_app {u : Wish} (h : Wf u) {i : Int} (hi : i ∈ i16) : (grantsL u).any (fun r => appV (some (qS i)) r) = u.wanted.any fun x => (lettersL i).contains x := by
  unfold grantsL grants0
  rw [List.any_append]
  have e2 : (if wbit u 16 = true then [([("*" : Str)], true)] else []).any (fun r => appV (some (qS i)) r) = false := by
    split
    · show ([("*" : Str)].any (hitS (qS i)) || false) = false
      simp [hit_star i hi]
    · rfl
  rw [e2, Bool.or_false, List.any_map]
  have e : ∀ p ∈ (partsL u).filter (· != []), ((fun r => appV (some (qS i)) r) ∘ fun p => (p.map (up (greatB u)), true)) p = p.any fun x => (lettersL i).contains x := fun p hp => by
    have hp' := (List.mem_filter.mp hp).1
    exact any_hit hi _ fun x hx => h.w x ((parts_sub u p hp').1 x hx)
  have : ((partsL u).filter (· != [])).any ((fun r => appV (some (qS i)) r) ∘ fun p => (p.map (up (greatB u)), true)) = ((partsL u).filter (· != [])).any fun p => p.any fun x => (lettersL i).contains x := by
    rw [Bool.eq_iff_iff, List.any_eq_true, List.any_eq_true]
    constructor
    · rintro ⟨p, hp, q⟩; exact ⟨p, hp, by rw [← e p hp]; exact q⟩
    · rintro ⟨p, hp, q⟩; exact ⟨p, hp, by rw [e p hp]; exact q⟩
  rw [this]
  unfold partsL
  split
  · cases u.wanted with
    | nil => rfl
    | cons a L =>
      cases L with
      | nil => simp
      | cons b L => simp
  · cases u.wanted with
    | nil => rfl
    | cons a L => simp
theorem ban_none {u : Wish} (h : Wf u) : appV none (banL u) = wbit u 8 := by
  show (starL u ++ [up (greatB u) u.struck]).contains "*" = _
  have := any_star' (greatB u) (L := [u.struck]) (by simpa using h.s)
  unfold starL
  cases hb : wbit u 8 with
  | true => simp
  | false => simpa using this
theorem grant_none {u : Wish} (h : Wf u) : (grantsL u).any (fun r => appV none r) = wbit u 16 := by
  unfold grantsL grants0
  rw [List.any_append, List.any_map]
  have : ((partsL u).filter (· != [])).any ((fun r => appV none r) ∘ fun p => (p.map (up (greatB u)), true)) = false := by
    rw [List.any_eq_false]
    intro p hp
    have hp' := (List.mem_filter.mp hp).1
    have := any_star' (greatB u) (L := p) fun x hx => h.w x ((parts_sub u p hp').1 x hx)
    show ¬ (p.map (up (greatB u))).contains "*" = true
    rw [this]; decide
  rw [this, Bool.false_or]
  cases hb : wbit u 16 with
  | true => rfl
  | false => rfl
theorem verdicts (u : Wish) : (∀ r ∈ grantsL u, r.2 = true) ∧ (banL u).2 = false := by
  refine ⟨fun r hr => ?_, rfl⟩
  unfold grantsL grants0 at hr
  rcases List.mem_append.mp hr with hr | hr
  · obtain ⟨p, _, rfl⟩ := List.mem_map.mp hr; rfl
  · split at hr
    · simp at hr; rw [hr]
    · cases hr
theorem rules_any (u : Wish) (q : Option Str) : (rulesL u).any (fun r => r.2 && appV q r) = (grantsL u).any (fun r => appV q r) ∧ (rulesL u).any (fun r => !r.2 && appV q r) = appV q (banL u) := by
  obtain ⟨v1, v2⟩ := verdicts u
  have g1 : (grantsL u).any (fun r => r.2 && appV q r) = (grantsL u).any (fun r => appV q r) := by
    rw [Bool.eq_iff_iff, List.any_eq_true, List.any_eq_true]
    constructor
    · rintro ⟨p, hp, e⟩; exact ⟨p, hp, by simp only [Bool.and_eq_true] at e; exact e.2⟩
    · rintro ⟨p, hp, e⟩; exact ⟨p, hp, by rw [v1 p hp, e]; rfl⟩
  have g2 : (grantsL u).any (fun r => !r.2 && appV q r) = false := by
    rw [List.any_eq_false]
    intro p hp; rw [v1 p hp]; simp
  unfold rulesL
  split
  · rw [List.any_append, List.any_append, g1, g2]
    simp [v2]
  · rw [List.any_append, List.any_append, g1, g2]
    simp [v2]
end Mine
end

-- Plain2
section
open PySem PySem.W PyProof.Rows PySem.Calls PySem.SeqAt
set_option maxRecDepth 100000
namespace Mine
theorem granted_iff (L S W : List Str) : grantedB L S W = ((L.any fun x => W.contains x) || !(L.any fun x => S.contains x)) := by
  unfold grantedB
  have e : ∀ q : Str → Bool, (L.filter q != []) = L.any q := fun q => by
    induction L with
    | nil => rfl
    | cons x L ih =>
      rw [List.filter_cons, List.any_cons]
      cases hq : q x with
      | true => simp
      | false => simpa using ih
  have e' : (L.filter (S.contains ·) == []) = !(L.any fun x => S.contains x) := by
    rw [← e]; simp [bne]
  rw [e', e]
  cases L.any fun x => W.contains x <;> simp
theorem any_swap (L W : List Str) : (L.any fun x => W.contains x) = W.any fun x => L.contains x := by
  rw [Bool.eq_iff_iff, List.any_eq_true, List.any_eq_true]
  constructor
  · rintro ⟨x, hx, h⟩; exact ⟨x, List.contains_iff_mem.mp h, List.contains_iff_mem.mpr hx⟩
  · rintro ⟨x, hx, h⟩; exact ⟨x, List.contains_iff_mem.mp h, List.contains_iff_mem.mpr hx⟩
/-- a record says what its wish says -/
theorem record_law {u : Wish} (h : Wf u) {rs : List Rule} (hr : rs.map ruleV = rulesL u) : (∀ i ∈ i16, allowB rs (some (qS i)) = grantedB (lettersL i) [u.struck] u.wanted) ∧ allowB rs none = (wbit u 16 || !wbit u 8) := by
  refine ⟨fun i hi => ?_, ?_⟩
  · rw [allow_V, hr, allowV, (rules_any u _).1, (rules_any u _).2, ban_app h hi, grant_app h hi, granted_iff, any_swap, any_swap (lettersL i) [u.struck]]
    simp
  · rw [allow_V, hr, allowV, (rules_any u _).1, (rules_any u _).2, ban_none h, grant_none h]
theorem bit_or (x : Int) : (x.fmod 2 == 0) = !(x.fmod 2 == 1) := by
  have h : x.fmod 2 = 0 ∨ x.fmod 2 = 1 := by
    have := Int.fmod_nonneg_of_pos x (b := 2) (by decide)
    have := Int.fmod_lt_of_pos x (b := 2) (by decide)
    omega
  rcases h with h | h <;> rw [h] <;> rfl
theorem record_none {u : Wish} (h : Wf u) {rs : List Rule} (hr : rs.map ruleV = rulesL u) : allowB rs none = ((u.bits.fdiv 8).fmod 2 == 0 || (u.bits.fdiv 16).fmod 2 == 1) := by
  rw [(record_law h hr).2, bit_or]
  show ((u.bits.fdiv 16).fmod 2 == 1 || !((u.bits.fdiv 8).fmod 2 == 1)) = _
  exact Bool.or_comm _ _
theorem any_flat {α β : Type} (f : α → List β) (p : β → Bool) : ∀ (us : List α), (us.flatMap f).any p = us.any fun u => (f u).any p
  | [] => rfl
  | u :: us => by rw [List.flatMap_cons, List.any_append, List.any_cons, any_flat f p us]
theorem any_congr' {α : Type} {l : List α} {p q : α → Bool} (h : ∀ x ∈ l, p x = q x) : l.any p = l.any q := by
  rw [Bool.eq_iff_iff, List.any_eq_true, List.any_eq_true]
  constructor
  · rintro ⟨x, hx, e⟩; exact ⟨x, hx, by rw [← h x hx]; exact e⟩
  · rintro ⟨x, hx, e⟩; exact ⟨x, hx, by rw [h x hx]; exact e⟩
theorem allowV_flat (us : List Wish) (q : Option Str) : allowV (us.flatMap rulesL) q = (us.any (fun u => (grantsL u).any fun r => appV q r) || !us.any fun u => appV q (banL u)) := by
  unfold allowV
  rw [any_flat, any_flat, any_congr' fun u _ => (rules_any u q).1, any_congr' fun u _ => (rules_any u q).2]
/-- the merge says what all wishes say -/
theorem merge_law {us : List Wish} (h : ∀ u ∈ us, Wf u) {rs : List Rule} (hr : rs.map ruleV = us.flatMap rulesL) :
    (∀ i ∈ i16, allowB rs (some (qS i)) = grantedB (lettersL i) (us.map (·.struck)) (us.flatMap (·.wanted))) ∧
    allowB rs none = ((us.filter fun u => (u.bits.fdiv 8).fmod 2 == 1).isEmpty || !(us.filter fun u => (u.bits.fdiv 16).fmod 2 == 1).isEmpty) := by
  refine ⟨fun i hi => ?_, ?_⟩
  · rw [allow_V, hr, allowV_flat, granted_iff, any_swap, any_swap (lettersL i) (us.map _)]
    rw [any_congr' fun u hu => grant_app (h u hu) hi, any_congr' fun u hu => ban_app (h u hu) hi]
    rw [any_flat, List.any_map]
    rfl
  · rw [allow_V, hr, allowV_flat]
    rw [any_congr' fun u hu => grant_none (h u hu), any_congr' fun u hu => ban_none (h u hu)]
    have e : ∀ p : Wish → Bool, (us.filter p).isEmpty = !us.any p := fun p => by
      clear h hr
      induction us with
      | nil => rfl
      | cons u us ih =>
        rw [List.filter_cons, List.any_cons]
        cases p u <;> simp_all
    rw [e, e, Bool.not_not]
    exact Bool.or_comm _ _
end Mine
end

-- Plain3
section
open PySem PySem.W PyProof.Rows PySem.Calls PySem.SeqAt
set_option maxRecDepth 100000
namespace Mine
/-- a set of letters suits a wish -/
noncomputable abbrev suits (L : List Str) (u : Wish) : Bool := grantedB L [u.struck] u.wanted
theorem suits_iff (L : List Str) (u : Wish) : suits L u = true ↔ (u.struck ∈ L → ∃ x ∈ L, x ∈ u.wanted) := by
  unfold suits
  rw [granted_iff, Bool.or_eq_true, List.any_eq_true]
  constructor
  · rintro (⟨x, hx, h⟩ | h) hs
    · exact ⟨x, hx, List.contains_iff_mem.mp h⟩
    · exfalso
      rw [Bool.not_eq_true', List.any_eq_false] at h
      exact h _ hs (by simp)
  · intro h
    by_cases hs : u.struck ∈ L
    · obtain ⟨x, hx, hw⟩ := h hs
      exact .inl ⟨x, hx, List.contains_iff_mem.mpr hw⟩
    · right
      rw [Bool.not_eq_true', List.any_eq_false]
      intro x hx q
      simp at q
      exact hs (q ▸ hx)
theorem mem_strike {ws : List Wish} {L : List Str} {x : Str} : x ∈ strikeL ws L ↔ x ∈ L ∧ ∀ u ∈ ws, suits L u = false → x ≠ u.struck := by
  unfold strikeL
  rw [List.mem_filter]
  refine and_congr_right fun _ => ?_
  rw [Bool.not_eq_true', ← Bool.not_eq_true, List.contains_iff_mem]
  unfold failingL
  constructor
  · intro h u hu hs q
    exact h (List.mem_map.mpr ⟨u, List.mem_filter.mpr ⟨hu, by simpa using hs⟩, q.symm⟩)
  · intro h hm
    obtain ⟨u, hu, rfl⟩ := List.mem_map.mp hm
    obtain ⟨h1, h2⟩ := List.mem_filter.mp hu
    exact h u h1 (by simpa using h2) rfl
/-- what suits all wishes is never struck -/
theorem strike_keeps {ws : List Wish} {P L : List Str} (hP : ∀ x ∈ P, x ∈ L) (hs : ∀ u ∈ ws, suits P u = true) : ∀ x ∈ P, x ∈ strikeL ws L := fun x hx => by
  refine mem_strike.mpr ⟨hP x hx, fun u hu hf q => ?_⟩
  subst q
  obtain ⟨y, hy, hw⟩ := (suits_iff P u).mp (hs u hu) hx
  have : suits L u = true := (suits_iff L u).mpr fun _ => ⟨y, hP y hy, hw⟩
  rw [this] at hf; cases hf
theorem lasting_keeps {ws : List Wish} {P L : List Str} (hP : ∀ x ∈ P, x ∈ L) (hs : ∀ u ∈ ws, suits P u = true) : ∀ x ∈ P, x ∈ lastingL ws L :=
  strike_keeps (strike_keeps (strike_keeps hP hs) hs) hs
theorem strike_same {ws : List Wish} {L : List Str} (h : ∀ u ∈ ws, suits L u = true) : strikeL ws L = L := by
  unfold strikeL
  rw [List.filter_eq_self]
  intro x hx
  have := (mem_strike (ws := ws) (L := L) (x := x)).mpr ⟨hx, fun u hu hf => by rw [h u hu] at hf; cases hf⟩
  unfold strikeL at this
  exact (List.mem_filter.mp this).2
theorem strike_heals {ws : List Wish} {L M : List Str} {u : Wish} (hu : u ∈ ws) (hf : suits L u = false) (hM : ∀ x ∈ M, x ∈ strikeL ws L) : suits M u = true :=
  (suits_iff M u).mpr fun hs => absurd rfl ((mem_strike.mp (hM _ hs)).2 u hu hf)
theorem strike_sub {ws : List Wish} {L : List Str} : ∀ x ∈ strikeL ws L, x ∈ L := fun _ hx => (mem_strike.mp hx).1
/-- after three strikes all three wishes are met -/
theorem fin3 : ∀ i j k l : Fin 3, i = j ∨ i = k ∨ i = l ∨ j = k ∨ j = l ∨ k = l := by decide
theorem four_three {α : Type} {x y z a b c d : α} {ws : List α} (hws : [x, y, z] = ws) (ha : a ∈ ws) (hb : b ∈ ws) (hc : c ∈ ws) (hd : d ∈ ws) (ab : a ≠ b) (ac : a ≠ c) (ad : a ≠ d) (bc : b ≠ c) (bd : b ≠ d) (cd : c ≠ d) : False := by
  subst hws
  obtain ⟨i, rfl⟩ := List.mem_iff_get.mp ha
  obtain ⟨j, rfl⟩ := List.mem_iff_get.mp hb
  obtain ⟨k, rfl⟩ := List.mem_iff_get.mp hc
  obtain ⟨l, rfl⟩ := List.mem_iff_get.mp hd
  rcases fin3 i j k l with h | h | h | h | h | h
  · exact ab (congrArg _ h)
  · exact ac (congrArg _ h)
  · exact ad (congrArg _ h)
  · exact bc (congrArg _ h)
  · exact bd (congrArg _ h)
  · exact cd (congrArg _ h)
theorem lasting_suits (u0 u1 u2 : Wish) (L : List Str) : ∀ u ∈ [u0, u1, u2], suits (lastingL [u0, u1, u2] L) u = true := by
  generalize hws : [u0, u1, u2] = ws
  intro u hu
  unfold lastingL
  cases hfin : suits (strikeL ws (strikeL ws (strikeL ws L))) u with
  | true => rfl
  | false =>
    exfalso
    -- each strike had a wish that failed
    have ex : ∀ M, (∀ v ∈ ws, suits M v = true) → ∀ v ∈ ws, suits (strikeL ws M) v = true := fun M h v hv => by rw [strike_same h]; exact h v hv
    have f2 : ∃ c ∈ ws, suits (strikeL ws (strikeL ws L)) c = false := by
      refine Classical.byContradiction fun hn => ?_
      have := ex (strikeL ws (strikeL ws L)) (fun v hv => by
        cases h : suits (strikeL ws (strikeL ws L)) v with
        | true => rfl
        | false => exact absurd ⟨v, hv, h⟩ hn) u hu
      rw [this] at hfin; cases hfin
    obtain ⟨c, hc, fc⟩ := f2
    have f1 : ∃ b ∈ ws, suits (strikeL ws L) b = false := by
      refine Classical.byContradiction fun hn => ?_
      have := ex (strikeL ws L) (fun v hv => by
        cases h : suits (strikeL ws L) v with
        | true => rfl
        | false => exact absurd ⟨v, hv, h⟩ hn) c hc
      rw [this] at fc; cases fc
    obtain ⟨b, hb, fb⟩ := f1
    have f0 : ∃ a ∈ ws, suits L a = false := by
      refine Classical.byContradiction fun hn => ?_
      have := ex L (fun v hv => by
        cases h : suits L v with
        | true => rfl
        | false => exact absurd ⟨v, hv, h⟩ hn) b hb
      rw [this] at fb; cases fb
    obtain ⟨a, ha, fa⟩ := f0
    have ab : a ≠ b := fun q => by rw [← q, strike_heals ha fa fun x hx => hx] at fb; cases fb
    have ac : a ≠ c := fun q => by rw [← q, strike_heals ha fa fun x hx => strike_sub x hx] at fc; cases fc
    have au : a ≠ u := fun q => by rw [← q, strike_heals ha fa fun x hx => strike_sub x (strike_sub x hx)] at hfin; cases hfin
    have bc : b ≠ c := fun q => by rw [← q, strike_heals hb fb fun x hx => hx] at fc; cases fc
    have bu : b ≠ u := fun q => by rw [← q, strike_heals hb fb fun x hx => strike_sub x hx] at hfin; cases hfin
    have cu : c ≠ u := fun q => by rw [← q, strike_heals hc fc fun x hx => hx] at hfin; cases hfin
    clear ex hfin fa fb fc
    exact four_three hws ha hb hc hu ab ac au bc bu cu
/-- the letters by four signs -/
noncomputable def qf (b0 b1 b2 b3 : Bool) (x : Str) : Bool := if x == "a" then b0 else if x == "b" then b1 else if x == "c" then b2 else b3
theorem part_of : ∀ i ∈ five, ∀ b0 b1 b2 b3 : Bool, ∃ p ∈ i16, lettersL p = (lettersL i).filter (qf b0 b1 b2 b3) ∧ Builtin.bitAnd p i = p := by decide +kernel
theorem part_in : ∀ i ∈ five, ∀ p ∈ i16, Builtin.bitAnd p i = p → ∀ x ∈ lettersL p, x ∈ lettersL i := by decide +kernel
theorem letters_four : ∀ i ∈ i16, ∀ x ∈ lettersL i, x ∈ four := by decide +kernel
theorem qf_of (q : Str → Bool) : ∀ x ∈ four, qf (q "a") (q "b") (q "c") (q "d") x = q x := fun x hx => by
  simp only [four, List.mem_cons, List.not_mem_nil, or_false] at hx
  rcases hx with rfl | rfl | rfl | rfl <;> rfl
theorem fallen_filter : ∀ (ps : List (List Str)) (L : List Str), Rising ltS L → (∀ p ∈ ps, Rising ltS p) → fallenL L ps = L.filter fun x => !ps.any fun p => p.contains x
  | [], L, _, _ => by simp [fallenL, filter_true']
  | p :: ps, L, hL, hp => by
    show fallenL (dif ltS L p).1 ps = _
    rw [dif_filter linS L p hL (hp p List.mem_cons_self)]
    rw [fallen_filter ps _ (hL.filter _) fun q hq => hp q (List.mem_cons_of_mem _ hq), List.filter_filter]
    congr 1
    funext x
    rw [List.any_cons, Bool.not_or, Bool.and_comm]
theorem lasting_filter (ws : List Wish) (L : List Str) : ∃ q : Str → Bool, lastingL ws L = L.filter q := by
  have s : ∀ M, ∃ q, strikeL ws M = M.filter q := fun M => ⟨_, rfl⟩
  obtain ⟨q1, e1⟩ := s L
  obtain ⟨q2, e2⟩ := s (strikeL ws L)
  obtain ⟨q3, e3⟩ := s (strikeL ws (strikeL ws L))
  unfold lastingL
  exact ⟨_, by rw [e3, e2, e1, List.filter_filter, List.filter_filter]⟩
/-- the closure law -/
theorem parts_law (u0 u1 u2 : Wish) : ∀ i ∈ five, fallenL (lettersL i) (partsOf (commonL (letL u0) (letL u1) (letL u2)) i) = minusS (lettersL i) (lastingL [u0, u1, u2] (lettersL i)) := fun i hi => by
  have hi16 := five_sub hi
  have memc : ∀ p, p ∈ commonL (letL u0) (letL u1) (letL u2) ↔ p ∈ i16 ∧ ∀ u ∈ [u0, u1, u2], suits (lettersL p) u = true := fun p => by
    unfold commonL
    rw [List.mem_filter, Bool.and_eq_true, List.contains_iff_mem, List.contains_iff_mem]
    unfold letL
    rw [List.mem_filter, List.mem_filter, List.mem_filter]
    constructor
    · rintro ⟨⟨a, b⟩, ⟨_, c⟩, ⟨_, d⟩⟩
      refine ⟨a, fun u hu => ?_⟩
      simp only [List.mem_cons, List.not_mem_nil, or_false] at hu
      rcases hu with rfl | rfl | rfl
      · exact b
      · exact c
      · exact d
    · rintro ⟨a, h⟩
      exact ⟨⟨a, h u0 (by simp)⟩, ⟨a, h u1 (by simp)⟩, ⟨a, h u2 (by simp)⟩⟩
  rw [fallen_filter _ _ (letters_rising hi16).1 fun p hp => by
    obtain ⟨q, hq, rfl⟩ := List.mem_map.mp hp
    exact (letters_rising ((memc q).mp (List.mem_filter.mp hq).1).1).1]
  unfold minusS
  refine List.filter_congr fun x hx => ?_
  congr 1
  rw [Bool.eq_iff_iff, List.any_eq_true, List.contains_iff_mem]
  constructor
  · rintro ⟨P, hP, hxP⟩
    obtain ⟨p, hp, rfl⟩ := List.mem_map.mp hP
    obtain ⟨hp1, hp2⟩ := List.mem_filter.mp hp
    obtain ⟨p16, ps⟩ := (memc p).mp hp1
    exact lasting_keeps (part_in i hi p p16 (by simpa using hp2)) ps x (List.contains_iff_mem.mp hxP)
  · intro hl
    obtain ⟨q, e⟩ := lasting_filter [u0, u1, u2] (lettersL i)
    obtain ⟨p, p16, e1, e2⟩ := part_of i hi (q "a") (q "b") (q "c") (q "d")
    have e3 : lettersL p = lastingL [u0, u1, u2] (lettersL i) := by
      rw [e1, e]
      exact List.filter_congr fun y hy => qf_of q y (letters_four i hi16 y hy)
    refine ⟨lettersL p, List.mem_map.mpr ⟨p, List.mem_filter.mpr ⟨(memc p).mpr ⟨p16, fun u hu => ?_⟩, by simpa using e2⟩, rfl⟩, List.contains_iff_mem.mpr (by rw [e3]; exact hl)⟩
    rw [e3]
    exact lasting_suits u0 u1 u2 (lettersL i) u hu
end Mine
end

-- Plain4
section
open PySem PySem.W PyProof.Rows PySem.Calls PySem.SeqAt
set_option maxRecDepth 100000
namespace Mine
theorem letters_sub (v : Int) : (∀ x ∈ lettersL v, x ∈ four) ∧ (lettersL v).length ≤ 4 := by
  unfold lettersL
  refine ⟨fun x hx => ?_, ?_⟩
  · obtain ⟨p, hp, rfl⟩ := List.mem_map.mp hx
    have := (List.mem_filter.mp hp).1
    simp only [abcd, List.mem_cons, List.not_mem_nil, or_false] at this
    rcases this with rfl | rfl | rfl | rfl <;> decide
  · rw [List.length_map]
    exact Nat.le_trans (List.length_filter_le _ _) (by decide)
theorem wish_wf (v : Int) : Wf (wishOf v) := by
  refine ⟨?_, (letters_sub _).1, (letters_sub _).2⟩
  unfold wishOf
  rcases fmod4 v with h | h | h | h <;> simp only [h] <;> decide
theorem upper_len : ∀ x ∈ four, (Txt.upper x).length ≤ bound := by decide +kernel
theorem lower_len : ∀ x ∈ four, ∀ g : Bool, (Txt.lower (up g x)).length ≤ bound := by decide +kernel
theorem wish_ok (v : Int) : WishOk (wishOf v) := by
  have h := wish_wf v
  exact ⟨h.l, upper_len _ h.s, fun x hx => upper_len x (h.w x hx)⟩
theorem let_good (u : Wish) : Rising ltZ (letL u) ∧ (letL u).length ≤ 16 := by
  unfold letL
  exact ⟨(show Rising ltZ i16 by decide +kernel).filter _, Nat.le_trans (List.length_filter_le _ _) (by decide)⟩
theorem let_sub (u : Wish) : ∀ x ∈ letL u, x ∈ i16 := fun x hx => (List.mem_filter.mp hx).1
theorem rules_len (u : Wish) : (rulesL u).length ≤ 4 := by
  have h : (grantsL u).length ≤ 3 := by
    unfold grantsL grants0
    rw [List.length_append, List.length_map]
    have h1 := List.length_filter_le (· != []) (partsL u)
    have h2 : (partsL u).length ≤ 2 := by unfold partsL; split <;> simp
    split
    · simp; omega
    · simp; omega
  unfold rulesL
  split <;> simp <;> omega
theorem rules_ags {u : Wish} (h : Wf u) : ∀ r ∈ rulesL u, agsOk r.1 := fun r hr => by
  have ban : agsOk (banL u).1 := by
    refine ⟨?_, fun x hx => ?_⟩
    · show (starL u ++ [_]).length ≤ bound
      rw [List.length_append]
      have := star_len u
      simp; unfold bound; omega
    · rcases List.mem_append.mp hx with hx | hx
      · unfold starL at hx
        split at hx
        · simp at hx; rw [hx]; decide +kernel
        · cases hx
      · simp at hx; rw [hx]; exact lower_len _ h.s _
  have grant : ∀ r ∈ grantsL u, agsOk r.1 := fun r hr => by
    unfold grantsL grants0 at hr
    rcases List.mem_append.mp hr with hr | hr
    · obtain ⟨p, hp, rfl⟩ := List.mem_map.mp hr
      obtain ⟨s1, s2⟩ := parts_sub u p (List.mem_filter.mp hp).1
      refine ⟨by rw [List.length_map]; exact Nat.le_trans (Nat.le_trans s2 h.l) (by decide), fun x hx => ?_⟩
      obtain ⟨y, hy, rfl⟩ := List.mem_map.mp hx
      exact lower_len y (h.w y (s1 y hy)) _
    · split at hr
      · simp at hr; rw [hr]; exact ⟨by decide, fun x hx => by simp at hx; rw [hx]; decide +kernel⟩
      · cases hr
  unfold rulesL at hr
  split at hr
  · rcases List.mem_append.mp hr with hr | hr
    · exact grant r hr
    · simp at hr; rw [hr]; exact ban
  · rcases List.mem_append.mp hr with hr | hr
    · simp at hr; rw [hr]; exact ban
    · exact grant r hr
theorem rs_ok {us : List Wish} (h : ∀ u ∈ us, Wf u) (hn : us.length ≤ 3) {rs : List Rule} (hr : rs.map ruleV = us.flatMap rulesL) : rsOk rs := by
  refine ⟨?_, fun r hm => ?_⟩
  · have e : rs.length = (us.flatMap rulesL).length := by rw [← hr, List.length_map]
    have : ∀ vs : List Wish, (vs.flatMap rulesL).length ≤ 4 * vs.length := fun vs => by
      induction vs with
      | nil => simp
      | cons v vs ih =>
        rw [List.flatMap_cons, List.length_append, List.length_cons]
        have := rules_len v
        omega
    have := this us
    rw [e]; unfold bound; omega
  · have : ruleV r ∈ us.flatMap rulesL := by rw [← hr]; exact List.mem_map.mpr ⟨r, hm, rfl⟩
    obtain ⟨u, hu, hx⟩ := List.mem_flatMap.mp this
    exact rules_ags (h u hu) _ hx
end Mine
end

-- Law3
section
open PySem PySem.W PyProof.Rows PySem.Calls PySem.SeqAt
set_option maxRecDepth 100000
namespace Mine
noncomputable def entW (u : Wish) (rs : List Rule) : Ent := ⟨agentsL u, rs, delayO u, rateO u⟩
theorem recD_ent (a : Addr) (rs : List Rule) (u : Wish) : recD a rs u = entE a (entW u rs) := rfl
noncomputable def lstOf : D → List D
  | .lst l => l
  | _ => []
noncomputable def rlsD (d : D) : List D := lstOf ((pattr d "rulelines").getD .none)
theorem rlsD_ent (a : Addr) (e : Ent) : rlsD (entE a e) = e.rs.map ruleD := by
  unfold rlsD; rw [(attr_ent a e).2.1]; rfl
noncomputable def mgOf (e r0 r1 r2 : Addr) (u0 u1 u2 : Wish) (s0 s1 s2 : List Rule) : Mg := ⟨e, r0, r1, r2, entW u0 s0, entW u1 s1, entW u2 s2, [u0, u1, u2]⟩
noncomputable def recArgs (r0 r1 r2 : Addr) (u0 u1 u2 : Wish) (s0 s1 s2 : List Rule) : List (List D) :=
  [[entE r0 (entW u0 s0), wishD u0, Z (letL u0), S askedL], [entE r1 (entW u1 s1), wishD u1, Z (letL u1), S askedL], [entE r2 (entW u2 s2), wishD u2, Z (letL u2), S askedL]]
open Classical in
noncomputable def F6 (ra : List (List D)) (ma : List D) (f : Str) (ds : List D) : Option D :=
  if f = "_law_record_is_right" ∧ ds ∈ ra then some (.bool true) else if f = "_law_merge_is_right" ∧ ds = ma then some (.bool true) else none
theorem F6_rec {ra : List (List D)} {ma ds : List D} (h : ds ∈ ra) : F6 ra ma "_law_record_is_right" ds = some (.bool true) := by
  unfold F6; rw [if_pos ⟨rfl, h⟩]
theorem F6_mrg {ra : List (List D)} {ma : List D} : F6 ra ma "_law_merge_is_right" ma = some (.bool true) := by
  unfold F6; rw [if_neg (fun h => absurd h.1 (by decide)), if_pos ⟨rfl, rfl⟩]
theorem F6_ok {prog : Program} {w : World} {h₀ : Heap} {k : Nat} {ra : List (List D)} {ma : List D} (h1 : ∀ ds ∈ ra, CallOk prog w h₀ k 135 ds (.bool true)) (h2 : CallOk prog w h₀ k 128 ma (.bool true)) : FnOk prog w h₀ k (F6 ra ma) := fun f ds d h => by
  unfold F6 at h
  split at h
  · rename_i hc
    cases h
    obtain ⟨rfl, hd⟩ := hc
    obtain ⟨o, a1, a2⟩ := at135 w.params
    exact ⟨135, o, _, gl135 _, a1, a2, h1 ds hd⟩
  · split at h
    · rename_i hc
      cases h
      obtain ⟨rfl, rfl⟩ := hc
      obtain ⟨o, a1, a2⟩ := at128 w.params
      exact ⟨128, o, _, gl128 _, a1, a2, h2⟩
    · cases h
noncomputable def q5 (L : List Int) (g : Mg) : Mp := ("records", g.recs) :: q4 L g.ws
noncomputable def q6 (L : List Int) (g : Mg) : Mp := ("rules", .lst (g.rls.map ruleD)) :: q5 L g
noncomputable def q7 (L : List Int) (g : Mg) : Mp := ("merged", entE g.e g.u) :: q6 L g
section
variable {M : Str → List D → Option D} {ra : List (List D)}
theorem ts150_7 (P : Params) (L : List Int) (e r0 r1 r2 : Addr) (u0 u1 u2 : Wish) (s0 s1 s2 : List Rule) (ma : List D) :
    ptest (F6 (recArgs r0 r1 r2 u0 u1 u2 s0 s1 s2) ma) M 40 (sc150 P) (q7 L (mgOf e r0 r1 r2 u0 u1 u2 s0 s1 s2)) (ifTest ((bodyOf P 150).drop 7)) = some false := by
  refine t_cmp (a := S []) (b := S []) rfl ?_ (by kernel_rfl) (by rw [ne_S]; rfl)
  rw [show (S [] : D) = .lst ((([0, 1, 2] : List Int).filter fun _ => false).map fun _ => .none) by simp [S]]
  refine v_comp (f := D.int) (L := [0, 1, 2]) (fun _ => false) (fun _ => .none) ?_ ?_ ?_ ?_ ?_
  · exact ⟨by kernel_rfl, .inl (by kernel_rfl), rfl⟩
  · kernel_rfl
  · decide
  · intro k hk
    simp only [List.mem_cons, List.not_mem_nil, or_false] at hk
    rcases hk with rfl | rfl | rfl
    · exact ts1 (t_not (c := true) (t_call (v_fn (ds := [entE r0 (entW u0 s0), wishD u0, Z (letL u0), S askedL]) (by kernel_rfl) (by decide) (by decide) rfl (evs_cons (v_idxN (a := (mgOf e r0 r1 r2 u0 u1 u2 s0 s1 s2).recs) (b := .int 0) (by kernel_rfl) (by kernel_rfl) rfl) (evs_cons (v_idxN (a := .lst ([u0, u1, u2].map wishD)) (b := .int 0) (by kernel_rfl) (by kernel_rfl) rfl) (evs_cons (v_idxN (a := letsD [u0, u1, u2]) (b := .int 0) (by kernel_rfl) (by kernel_rfl) rfl) (evs_cons (by kernel_rfl) evs0)))) (F6_rec (by simp [recArgs])))))
    · exact ts1 (t_not (c := true) (t_call (v_fn (ds := [entE r1 (entW u1 s1), wishD u1, Z (letL u1), S askedL]) (by kernel_rfl) (by decide) (by decide) rfl (evs_cons (v_idxN (a := (mgOf e r0 r1 r2 u0 u1 u2 s0 s1 s2).recs) (b := .int 1) (by kernel_rfl) (by kernel_rfl) rfl) (evs_cons (v_idxN (a := .lst ([u0, u1, u2].map wishD)) (b := .int 1) (by kernel_rfl) (by kernel_rfl) rfl) (evs_cons (v_idxN (a := letsD [u0, u1, u2]) (b := .int 1) (by kernel_rfl) (by kernel_rfl) rfl) (evs_cons (by kernel_rfl) evs0)))) (F6_rec (by simp [recArgs])))))
    · exact ts1 (t_not (c := true) (t_call (v_fn (ds := [entE r2 (entW u2 s2), wishD u2, Z (letL u2), S askedL]) (by kernel_rfl) (by decide) (by decide) rfl (evs_cons (v_idxN (a := (mgOf e r0 r1 r2 u0 u1 u2 s0 s1 s2).recs) (b := .int 2) (by kernel_rfl) (by kernel_rfl) rfl) (evs_cons (v_idxN (a := .lst ([u0, u1, u2].map wishD)) (b := .int 2) (by kernel_rfl) (by kernel_rfl) rfl) (evs_cons (v_idxN (a := letsD [u0, u1, u2]) (b := .int 2) (by kernel_rfl) (by kernel_rfl) rfl) (evs_cons (by kernel_rfl) evs0)))) (F6_rec (by simp [recArgs])))))
  · intro _ _ h; cases h
theorem ts150_8 (P : Params) (L : List Int) (g : Mg) : ptest (F6 ra g.args) M 40 (sc150 P) (q7 L g) (ifTest ((bodyOf P 150).drop 8)) = some false :=
  t_not (c := true) (t_call (v_fn (ds := g.args) (by kernel_rfl) (by decide) (by decide) rfl (evs_cons (v_name rfl (by decide)) (evs_cons (v_name rfl (by decide)) (evs_cons (v_name rfl (by decide)) (evs_cons (v_name rfl (by decide)) (evs_cons (v_name rfl (by decide)) (evs_cons (v_name rfl (by decide)) evs0)))))) F6_mrg))
end
theorem let_contains (u : Wish) {i : Int} (hi : i ∈ i16) : (letL u).contains i = grantedB (lettersL i) [u.struck] u.wanted := by
  rw [Bool.eq_iff_iff, List.contains_iff_mem]
  unfold letL
  rw [List.mem_filter]
  exact ⟨fun h => h.2, fun h => ⟨hi, h⟩⟩
theorem wishD_inj {u v : Wish} (h : wishD u = wishD v) : u = v := by
  cases u; cases v
  simp only [wishD, D.tup.injEq, List.cons.injEq, D.str.injEq, D.int.injEq, and_true] at h
  obtain ⟨h1, h2, h3, h4⟩ := h
  have : strsOf _ = strsOf _ := congrArg strsOf (D.lst.inj h2)
  rw [strsOf_map, strsOf_map] at this
  simp only [Wish.mk.injEq]
  exact ⟨h1, Option.some.inj this, h3, h4⟩
theorem paired_recs {us : List Wish} : ∀ {ds : List D}, Paired (fun d d' => ∃ u a rs, d = wishD u ∧ d' = recD a rs u ∧ rs.map ruleV = rulesL u) (us.map wishD) ds → ∃ l : List (Addr × List Rule), l.length = us.length ∧ ds = (us.zip l).map (fun p => recD p.2.1 p.2.2 p.1) ∧ ∀ p ∈ us.zip l, p.2.2.map ruleV = rulesL p.1 := by
  induction us with
  | nil => intro ds h; cases h; exact ⟨[], rfl, rfl, by simp⟩
  | cons u us ih =>
    intro ds h
    rw [List.map_cons] at h
    cases h with
    | cons h1 h2 =>
      obtain ⟨v, a, rs, e1, rfl, e2⟩ := h1
      have := wishD_inj e1
      subst this
      obtain ⟨l, l1, rfl, l2⟩ := ih h2
      refine ⟨(a, rs) :: l, by simp [l1], rfl, fun p hp => ?_⟩
      rw [List.zip_cons_cons] at hp
      rcases List.mem_cons.mp hp with rfl | hp
      · exact e2
      · exact l2 p hp
end Mine
end

-- Law4
section
open PySem PySem.W PyProof.Rows PySem.Calls PySem.SeqAt
set_option maxRecDepth 100000
namespace Mine
theorem KT.any {X Z : List Addr} {h h' : Heap} (k : KT X Z h h') {b : Addr} {o : Obj} (nz : b ∉ Z) (e : h.get? b = some o) : ∃ sl, h'.get? b = some { o with slots := sl } := by
  by_cases q : b ∈ X
  · exact k.ins b o nz q e
  · exact ⟨o.slots, k.out b o nz q e⟩
theorem FR.kt {W X Z : List Addr} {sc : List (Str × NameKind)} {env : Env} {h h' : Heap} {m : Mp} (F : FR W sc env h m) (k : KT X Z h h') (hX : ∀ b ∈ X, b ∈ W) (hZ : ∀ b ∈ Z, b ∈ W) (hL : env.locals ∉ Z) (hc : ∀ y c, env.cells.lookup y = some c → c ∉ Z) (lv : ∀ b ∈ Z, ∃ o, h'.get? b = some o) : FR W sc env h' m := by
  have kx : KX W h h' := fun b o n e => k.out b o (fun q => n (hZ b q)) (fun q => n (hX b q)) e
  refine ⟨F.kind, F.globs, F.blts, F.kinds, fun x hx => ?_, F.loc, F.cin, F.inj, fun x hx => ?_, ?_⟩
  · by_cases q : x ∈ Z
    · exact lv x q
    · obtain ⟨o, e⟩ := F.live x hx
      obtain ⟨sl, e'⟩ := k.any q e
      exact ⟨_, e'⟩
  · obtain ⟨c, v, h1, o, h2, h3⟩ := F.cell x hx
    obtain ⟨sl, e'⟩ := k.any (hc x c h1) h2
    exact ⟨c, v, h1, _, e', h3⟩
  · obtain ⟨μ, ⟨o, es, ep, e, r⟩, h2⟩ := F.ns
    obtain ⟨sl, e'⟩ := k.any hL e
    refine ⟨μ, ⟨_, es, ep, e', r⟩, fun x d hx => ?_⟩
    rcases h2 x d hx with ⟨a, v, b, c⟩ | ⟨a, c, v, h3, ⟨o', h4, h4'⟩, h5⟩
    · exact .inl ⟨a, v, b, c.mono kx⟩
    · obtain ⟨sl', e''⟩ := k.any (hc x c h3) h4
      exact .inr ⟨a, c, v, h3, ⟨_, e'', h4'⟩, h5.mono kx⟩
section
variable {prog : Program} {w : World} {h₀ : Heap} {k : Nat}
theorem law_call (BT : BaseT w.params h₀) {L : List Int} (hL : L.length ≤ 63) {A : Around} {W : List Addr} {s : Shared} {vs : List Value} {Q E : Value → Shared → Prop} (R : Room A (k + 6)) (hfr : A.frames = some []) (T : Tp h₀ s.heap) (lv : Live W s.heap) (hW1 : 137 ∈ W) (hW2 : 147 ∈ W) (t1 : s.heap.get? 137 = some (tabObj #[])) (t2 : s.heap.get? 147 = some (tabObj #[]))
    (hr : Reps W s.heap [Z L] vs) (hq : ∀ h' tk, (∀ b o, b ≠ 137 → b ≠ 147 → s.heap.get? b = some o → h'.get? b = some o) → (∃ ps, h'.get? 137 = some (tabObj ps)) → (∃ ps, h'.get? 147 = some (tabObj ps)) → Q (.bool true) { s with heap := h', toks := tk }) :
    wpAny (model prog w) A (call (.ref 150) vs) Q E s := by
  have B := BT.toBase
  obtain ⟨o, a1, a2⟩ := at150 w.params
  refine call_frame (ps := ["script"]) B R T lv a1 a2 (cd150 _) (bd150 _) (ok150 _) (bi150 _ vs hr.length) hr fun Y env h₁ tk₁ hY henv O Fr hk₁ hYn => ?_
  have R' := R.deeper env
  have T₁ := T.keep hk₁
  have hf : env.frame = some env.locals := by rw [henv]; rfl
  have hA : (A.deeper env).frames = some [env] := by show A.frames.map _ = _; rw [hfr]; rfl
  have hcode : env.code = .ref 149 := by rw [henv]; exact cod150 w.params
  have hX : Xs [env] = [env.locals] := by simp [Xs, hf]
  have hz : ∀ b ∈ Xs [env], h₀.get? b = none := fun b hb => by rw [hX] at hb; simp at hb; rw [hb]; exact O.new _ O.loc
  have t137 : h₀.get? 137 ≠ none := by rw [BT.tab1]; simp
  have t147 : h₀.get? 147 ≠ none := by rw [BT.tab2]; simp
  have n137Y : 137 ∉ Y := fun q => t137 (O.new _ q)
  have n147Y : 147 ∉ Y := fun q => t147 (O.new _ q)
  have n137X : 137 ∉ Xs [env] := fun q => t137 (hz _ q)
  have n147X : 147 ∉ Xs [env] := fun q => t147 (hz _ q)
  have FOk : FnOk prog w h₀ (k + 5) F4 := F4_ok (k := k + 4) B
  obtain ⟨EV, TS⟩ := ev_sound (prog := prog) (k := k + 5) (F := F4) (M := M0) B FOk M0_ok 40
  -- names, asked
  refine ec (assign_ok (s := { s with heap := h₁, toks := tk₁ }) (n := 40) (d := namesD) (k := k + 5) B (F := F4) (M := M0) FOk M0_ok R' O Fr T₁ (by kernel_rfl) (names150 w.params L) fun h₂ tk₂ F₂ k₂ => ?_)
  have T₂ := T₁.kx k₂ O.new
  refine ec (assign_ok (s := { s with heap := h₂, toks := tk₂ }) (n := 40) (d := S askedL) (k := k + 5) B (F := F4) (M := M0) FOk M0_ok R' O F₂ T₂ (by kernel_rfl) (asked150 w.params L) fun h₃ tk₃ F₃ k₃ => ?_)
  have T₃ := T₂.kx k₃ O.new
  -- wishes
  obtain ⟨o84, a84, b84⟩ := at84 w.params
  refine ec (asgN (call_fnR (s := { s with heap := h₃, toks := tk₃ }) (k := k + 5) (ds := [Z L]) (EV R') B R' F₃ T₃ (gl84 _) a84 b84 (wishes_call (k := k + 4) B hL) (by kernel_rfl) (by decide) rfl (evs_cons (v_name rfl (by decide)) evs0) fun d hd v s₄ ks₄ r₄ => ?_) (swap_no rfl _ _ _ _))
  obtain ⟨v0, v1, v2, rfl⟩ := hd
  obtain ⟨h₄, tk₄, rfl, hk₄⟩ := ks₄
  dsimp only at hk₄
  generalize hu0 : wishOf v0 = u0 at r₄
  generalize hu1 : wishOf v1 = u1 at r₄
  generalize hu2 : wishOf v2 = u2 at r₄
  have wf0 : Wf u0 := hu0 ▸ wish_wf v0
  have wf1 : Wf u1 := hu1 ▸ wish_wf v1
  have wf2 : Wf u2 := hu2 ▸ wish_wf v2
  have ok0 : WishOk u0 := hu0 ▸ wish_ok v0
  have ok1 : WishOk u1 := hu1 ▸ wish_ok v1
  have ok2 : WishOk u2 := hu2 ▸ wish_ok v2
  have wfa : ∀ u ∈ [u0, u1, u2], Wf u := fun u hu => by
    simp only [List.mem_cons, List.not_mem_nil, or_false] at hu
    rcases hu with rfl | rfl | rfl <;> assumption
  have oka : ∀ u ∈ [u0, u1, u2], WishOk u := fun u hu => by
    simp only [List.mem_cons, List.not_mem_nil, or_false] at hu
    rcases hu with rfl | rfl | rfl <;> assumption
  have r₄ : Rep (Y ++ W) h₄ (.lst ([u0, u1, u2].map wishD)) v := by
    subst hu0 hu1 hu2; exact r₄
  refine FR.store (s := { s with heap := h₄, toks := tk₄ }) (F₃.keep hk₄) (storable_or (by kernel_rfl)) r₄ fun h₅ tk₅ F₅ kx₅ hb₅ => ?_
  have ky₅ : KX Y h₃ h₅ := (KX.of hk₄).trans (own_store (O := O) hb₅)
  have T₅ := T₃.kx ky₅ O.new
  -- let
  refine ec (assign_ok (s := { s with heap := h₅, toks := tk₅ }) (n := 40) (d := letsD [u0, u1, u2]) (k := k + 5) B (F := F4) (M := M0) FOk M0_ok R' O F₅ T₅ (by kernel_rfl) (let150 w.params L [u0, u1, u2] (by show 3 ≤ bound; decide)) fun h₆ tk₆ F₆ k₆ => ?_)
  have T₆ := T₅.kx k₆ O.new
  -- records
  obtain ⟨o96, a96, b96⟩ := at96 w.params
  obtain ⟨EV5, _⟩ := ev_sound (prog := prog) (k := k + 5) (F := M0) (M := M0) B F0_ok M0_ok 5
  refine ec (assign_comp_ok (s := { s with heap := h₆, toks := tk₆ }) (ds := [u0, u1, u2].map wishD) (fun _ => true) (fun d d' => ∃ u a rs, d = wishD u ∧ d' = recD a rs u ∧ rs.map ruleV = rulesL u) F₆ (by kernel_rfl) (.inl (by kernel_rfl)) (storable_or (by kernel_rfl)) (by show 3 ≤ sizeLine; decide) rfl
    (fun Q' hq' => src_ok (EV R') B R'.hd F₆ T₆ (by kernel_rfl) hq') ?_ ?_ ?_)
  · intro W' cenv d hd hW s₃ E' F₃' hs
    exact wpAny_pure ⟨rfl, Keeps.rfl' _⟩
  · intro W' cenv d hd _ hW s₃ E' F₃' hs
    obtain ⟨h, tk, rfl, hk⟩ := hs
    obtain ⟨u, hu, rfl⟩ := List.mem_map.mp hd
    refine call_fnR (k := k + 5) (ds := [wishD u]) (EV5 R') B R' F₃' (T₆.keep hk) (gl96 _) a96 b96 (record_call (k := k + 1) B (oka u hu)) (by kernel_rfl) (by decide) rfl (evs_cons (v_name lookup_cons_self (by decide)) evs0) fun d' hd' v s₄ k₄ r₄ => ⟨k₄, d', ?_, r₄⟩
    obtain ⟨a, rs, rfl, e⟩ := hd'
    exact ⟨u, a, rs, rfl, rfl, e⟩
  intro ds' h₇ tk₇ hpr F₇ _ hb₇
  rw [List.filter_eq_self.mpr (fun _ _ => rfl)] at hpr
  obtain ⟨l, hl, rfl, hrl⟩ := paired_recs hpr
  obtain ⟨p0, p1, p2, rfl⟩ := len3 hl
  obtain ⟨r0, s0⟩ := p0
  obtain ⟨r1, s1⟩ := p1
  obtain ⟨r2, s2⟩ := p2
  have e0 : s0.map ruleV = rulesL u0 := hrl (u0, (r0, s0)) (by simp)
  have e1 : s1.map ruleV = rulesL u1 := hrl (u1, (r1, s1)) (by simp)
  have e2 : s2.map ruleV = rulesL u2 := hrl (u2, (r2, s2)) (by simp)
  have ln : ∀ {u : Wish} {rs : List Rule}, rs.map ruleV = rulesL u → rs.length ≤ 4 := fun {u rs} e => by
    have := congrArg List.length e
    rw [List.length_map] at this
    have := rules_len u
    omega
  have al : ∀ {u : Wish}, Wf u → (agentsL u).length ≤ 1000 := fun {u} h => by
    unfold agentsL; rw [List.length_append]; have := h.l; simp; omega
  have ky₇ : KX Y h₆ h₇ := own_store (O := O) hb₇
  have T₇ := T₆.kx ky₇ O.new
  have F₇ : FR (Y ++ W) (sc150 w.params) env h₇ (q5 L (mgOf 0 r0 r1 r2 u0 u1 u2 s0 s1 s2)) := F₇
  -- rules
  have hfl : ([entE r0 (entW u0 s0), entE r1 (entW u1 s1), entE r2 (entW u2 s2)] : List D).flatMap rlsD = (mgOf 0 r0 r1 r2 u0 u1 u2 s0 s1 s2).rls.map ruleD := by
    simp [List.flatMap_cons, rlsD_ent, Mg.rls, mgOf, entW]
  refine ec (asg_two (s := { s with heap := h₇, toks := tk₇ }) (ds := [entE r0 (entW u0 s0), entE r1 (entW u1 s1), entE r2 (entW u2 s2)]) EV B R' O F₇ T₇ rlsD (by kernel_rfl) (by kernel_rfl) ?_ (by kernel_rfl) (by kernel_rfl) (by decide) (by decide) rfl rfl ⟨_, rfl⟩ (by kernel_rfl) (fun d hd => ?_) fun h₈ tk₈ F₈ k₈ => ?_)
  · rw [hfl, List.length_map]
    have := ln e0; have := ln e1; have := ln e2
    show (s0 ++ s1 ++ s2).length ≤ bound
    rw [List.length_append, List.length_append]; unfold bound; omega
  · simp only [List.mem_cons, List.not_mem_nil, or_false] at hd
    rcases hd with rfl | rfl | rfl
    · exact v_attr (v_name lookup_cons_self (by decide)) (attr_ent r0 (entW u0 s0)).2.1
    · exact v_attr (v_name lookup_cons_self (by decide)) (attr_ent r1 (entW u1 s1)).2.1
    · exact v_attr (v_name lookup_cons_self (by decide)) (attr_ent r2 (entW u2 s2)).2.1
  rw [hfl] at F₈
  have F₈ : FR (Y ++ W) (sc150 w.params) env h₈ (q6 L (mgOf 0 r0 r1 r2 u0 u1 u2 s0 s1 s2)) := F₈
  have T₈ := T₇.kx k₈ O.new
  have ky₈ : KX Y h₁ h₈ := ((((k₂.trans k₃).trans ky₅).trans k₆).trans ky₇).trans k₈
  have tab1₈ : h₈.get? 137 = some (tabObj #[]) := ky₈ 137 _ n137Y (hk₁ 137 _ t1)
  have tab2₈ : h₈.get? 147 = some (tabObj #[]) := ky₈ 147 _ n147Y (hk₁ 147 _ t2)
  have foE : ∀ {W' Z' h}, FO W' Z' h [] := fun {W' Z' h} e he => by cases he
  have fs₈ : Frs (A.deeper env) (Y ++ W) h₈ [env] := (foE (Z' := [])).frs F₈ hf hA
  -- merged
  refine ec (asgN (merged_ev (s := { s with heap := h₈, toks := tk₈ }) (k := k) (r0 := r0) (r1 := r1) (r2 := r2) (u0 := entW u0 s0) (u1 := entW u1 s1) (u2 := entW u2 s2) BT R' T₈ F₈ fs₈ hz (by kernel_rfl) (by kernel_rfl) (by kernel_rfl) (by kernel_rfl) (.inr rfl) hcode (cdHd2 (B.kin T₈)) rfl rfl tab2₈ ⟨trivial, .inl rfl⟩ (fun q => n147Y (q ▸ O.loc)) (fun y c hc q => n147Y (q ▸ O.cin y c hc)) (List.mem_append_right _ hW2) n147X (by decide) rfl (fun u hu => ?_) fun v h₉ tk₉ e kt₉ F₉ tab₉ r₉ => ?_) (swap_no rfl _ _ _ _))
  · simp only [List.mem_cons, List.not_mem_nil, or_false] at hu
    rcases hu with rfl | rfl | rfl
    · exact ⟨al wf0, ln e0⟩
    · exact ⟨al wf1, ln e1⟩
    · exact ⟨al wf2, ln e2⟩
  obtain ⟨ps₉, tab₉⟩ := tab₉
  dsimp only at kt₉
  have tab1₉ : h₉.get? 137 = some (tabObj #[]) := kt₉.out 137 _ (by decide) n137X tab1₈
  have T₉ : Tp h₀ h₉ := by
    refine ⟨fun b o n1 n2 e => ?_, T₈.s1, T₈.s2, ⟨_, tab1₉⟩, ⟨_, tab₉⟩⟩
    exact kt₉.out b o (by simpa using n2) (fun q => by rw [hz b q] at e; cases e) (T₈.all b o n1 n2 e)
  refine FR.store (s := { s with heap := h₉, toks := tk₉ }) F₉ (storable_or (by kernel_rfl)) r₉ fun h₁₀ tk₁₀ F₁₀ kx₁₀ hb₁₀ => ?_
  have ky₁₀ := own_store (O := O) hb₁₀
  have T₁₀ := T₉.kx ky₁₀ O.new
  generalize hg : mgOf e r0 r1 r2 u0 u1 u2 s0 s1 s2 = g
  have F₁₀ : FR (Y ++ W) (sc150 w.params) env h₁₀ (q7 L g) := by rw [← hg]; exact F₁₀
  -- the two questions
  have rall : g.u.rs.map ruleV = [u0, u1, u2].flatMap rulesL := by
    rw [← hg]
    show (s0 ++ s1 ++ s2).map ruleV = _
    rw [List.map_append, List.map_append, e0, e1, e2]
    simp [List.flatMap_cons]
  have ml := merge_law wfa rall
  have hws : g.ws = [u0, u1, u2] := by rw [← hg]; rfl
  have FO6 : FnOk prog w h₀ (k + 5) (F6 (recArgs r0 r1 r2 u0 u1 u2 s0 s1 s2) g.args) := by
    refine F6_ok (fun ds hd => ?_) ?_
    · have one : ∀ {r : Addr} {u : Wish} {rs : List Rule}, Wf u → rs.map ruleV = rulesL u → CallOk prog w h₀ (k + 5) 135 [entE r (entW u rs), wishD u, Z (letL u), S askedL] (.bool true) := fun {r u rs} hu he =>
        recRight_call (k := k + 2) (rs := rs) B (rs_ok (us := [u]) (by simpa using hu) (by simp) (by simpa using he)) (fun i hi => by rw [let_contains u hi]; exact (record_law hu he).1 i hi) (record_none hu he)
      simp only [recArgs, List.mem_cons, List.not_mem_nil, or_false] at hd
      rcases hd with rfl | rfl | rfl
      · exact one wf0 e0
      · exact one wf1 e1
      · exact one wf2 e2
    · refine mergeRight_call (k := k + 2) B ?_ (rs_ok wfa (by simp) rall) (by rw [hws]; simp) (by rw [hws]; exact fun u hu => (wfa u hu).l) (fun i hi => ?_) ?_
      · rw [← hg]; exact Nat.le_trans (al wf0) (by decide)
      · rw [ml.1 i hi]; unfold struckL wantedL; rw [hws]
      · rw [ml.2, hws]
  obtain ⟨_, TS6⟩ := ev_sound (prog := prog) (k := k + 5) (F := F6 (recArgs r0 r1 r2 u0 u1 u2 s0 s1 s2) g.args) (M := M0) B FO6 M0_ok 40
  refine ec (if_skip (s := { s with heap := h₁₀, toks := tk₁₀ }) TS6 R' F₁₀ T₁₀ (by rw [← hg]; exact ts150_7 w.params L e r0 r1 r2 u0 u1 u2 s0 s1 s2 _) fun h₁₁ tk₁₁ hk₁₁ => ?_)
  have F₁₁ := F₁₀.keep hk₁₁
  have T₁₁ := T₁₀.keep hk₁₁
  refine ec (if_skip (s := { s with heap := h₁₁, toks := tk₁₁ }) TS6 R' F₁₁ T₁₁ (ts150_8 w.params L g) fun h₁₂ tk₁₂ hk₁₂ => ?_)
  have F₁₂ := F₁₁.keep hk₁₂
  have T₁₂ := T₁₁.keep hk₁₂
  have tab1₁₂ : h₁₂.get? 137 = some (tabObj #[]) := hk₁₂ _ _ (hk₁₁ _ _ (ky₁₀ 137 _ n137Y tab1₉))
  have tab2₁₂ : h₁₂.get? 147 = some (tabObj ps₉) := hk₁₂ _ _ (hk₁₁ _ _ (ky₁₀ 147 _ n147Y tab₉))
  have fs₁₂ : Frs (A.deeper env) (Y ++ W) h₁₂ [env] := (foE (Z' := [])).frs F₁₂ hf hA
  have lLet : (q7 L g).lookup ("let" : Str) = some (letD [letL u0, letL u1, letL u2]) := by rw [← hg]; rfl
  have lWis : (q7 L g).lookup ("wishes" : Str) = some (.lst ([u0, u1, u2].map wishD)) := by rw [← hg]; rfl
  have lNam : (q7 L g).lookup ("names" : Str) = some namesD := by rw [← hg]; rfl
  have good : Good (letL u0) (letL u1) (letL u2) := fun l hl => by
    simp only [List.mem_cons, List.not_mem_nil, or_false] at hl
    rcases hl with rfl | rfl | rfl
    · exact let_good u0
    · exact let_good u1
    · exact let_good u2
  -- return parts and pairs
  obtain ⟨o140, a140, b140⟩ := at140 w.params
  obtain ⟨o145, a145, b145⟩ := at145 w.params
  refine ec (wpAny_Return_some (wpAny_And2 ?_))
  rw [arm_eval_Call_Name']
  refine wpAny_bind (glob_val (s := { s with heap := h₁₂, toks := tk₁₂ }) B F₁₂ T₁₂ (by kernel_rfl) (by decide) (gl140 _) ?_)
  refine callWith_function (o := o140) (fd := fdOf w.params 140) (evalArgs_ok (s := { s with heap := h₁₂, toks := tk₁₂ }) (h₀ := h₀) (EV5 R') rfl (ds := [letD [letL u0, letL u1, letL u2], .lst ([u0, u1, u2].map wishD), namesD]) (evs_cons (v_name lLet (by decide)) (evs_cons (v_name lWis (by decide)) (evs_cons (v_name lNam (by decide)) evs0))) F₁₂ T₁₂ fun vs' s₁₃ k₁₃ r₁₃ => ⟨⟨B.kin (T₁₂.keep (kall k₁₃)) 140 o140 a140, b140⟩, ?_⟩)
  obtain ⟨h₁₃, tk₁₃, rfl, hk₁₃⟩ := k₁₃
  dsimp only at hk₁₃
  have F₁₃ := F₁₂.keep hk₁₃
  have T₁₃ := T₁₂.keep hk₁₃
  refine parts_call (s := { s with heap := h₁₃, toks := tk₁₃ }) (k := k + 1) BT good (let_sub u0) (by show 3 ≤ bound; decide) (parts_law u0 u1 u2) R' (fs₁₂.ks (KS.of hk₁₃ : KS [] _ _)) hz T₁₃ F₁₃.live (List.mem_append_right _ hW1) (hk₁₃ _ _ tab1₁₂) (by simpa using r₁₃) fun h₁₄ tk₁₄ kt₁₄ tab₁₄ => wpAny_truthy_bool ?_
  obtain ⟨ps₁₄, tab₁₄⟩ := tab₁₄
  dsimp only at kt₁₄
  have tab2₁₄ : h₁₄.get? 147 = some (tabObj ps₉) := kt₁₄.out 147 _ (by decide) n147X (hk₁₃ _ _ tab2₁₂)
  have xW : ∀ b ∈ Xs [env], b ∈ Y ++ W := fun b hb => by rw [hX] at hb; simp at hb; rw [hb]; exact List.mem_append_left _ O.loc
  have F₁₄ : FR (Y ++ W) (sc150 w.params) env h₁₄ (q7 L g) := F₁₃.kt kt₁₄ xW (by simpa using List.mem_append_right _ hW1) (fun q => n137Y (by simp at q; exact q ▸ O.loc)) (fun y c hc q => n137Y (by simp at q; exact q ▸ O.cin y c hc)) (by simpa using ⟨_, tab₁₄⟩)
  have T₁₄ : Tp h₀ h₁₄ := by
    refine ⟨fun b o n1 n2 e => ?_, T₁₃.s1, T₁₃.s2, ⟨_, tab₁₄⟩, ⟨_, tab2₁₄⟩⟩
    exact kt₁₄.out b o (by simpa using n1) (fun q => by rw [hz b q] at e; cases e) (T₁₃.all b o n1 n2 e)
  have fs₁₄ : Frs (A.deeper env) (Y ++ W) h₁₄ [env] := (foE (Z' := [])).frs F₁₄ hf hA
  refine call_fnF (s := { s with heap := h₁₄, toks := tk₁₄ }) (d := .bool true) (k := k + 5) (EV5 R') B R' F₁₄ T₁₄ fs₁₄ hz (gl145 _) a145 b145 (pairs_call (k := k + 3) B good) (by kernel_rfl) (by decide) rfl (evs_cons (v_name lLet (by decide)) evs0) fun v' h₁₅ tk₁₅ ks₁₅ F₁₅ r₁₅ => ?_
  simp only [Rep] at r₁₅
  subst r₁₅
  refine hq h₁₅ tk₁₅ (fun b o n1 n2 e' => ?_) ⟨ps₁₄, ks₁₅.out _ _ n137X tab₁₄⟩ ⟨ps₉, ks₁₅.out _ _ n147X tab2₁₄⟩
  have nY : b ∉ Y := fun q => by rw [hYn b q] at e'; cases e'
  have nX : b ∉ Xs [env] := fun q => by rw [hX] at q; simp at q; exact nY (q ▸ O.loc)
  have e8 := ky₈ b o nY (hk₁ b o e')
  have e9 := kt₉.out b o (by simpa using n2) nX e8
  have e12 := hk₁₂ b o (hk₁₁ b o (ky₁₀ b o nY e9))
  exact ks₁₅.out b o nX (kt₁₄.out b o (by simpa using n1) nX (hk₁₃ b o e12))
end
end Mine
end

-- Join
section
open PySem PySem.W PyProof.Rows PySem.Calls PySem.SeqAt
set_option maxRecDepth 100000
set_option maxHeartbeats 4000000
namespace Mine
theorem gl150 (P : Params) : nsIn (K P) mainGlobals "law" = some (some (.ref 150)) := by kernel_rfl
theorem reps_ints {W : List Addr} {h : Heap} : ∀ {vs : List Value} {ns : List Int}, IntsAre vs ns → Reps W h (ns.map D.int) vs
  | _, _, .nil => Reps.nil
  | _, _, .cons n t r => Reps.cons rep_int (reps_ints r)
theorem baseT_of {p : Program} {loose : List Str} {mean : ExcName → Option Value} {mg mb : Str → Option Value} {P : Params} {h : Heap} (KI : (K P).In h) (KT' : ∀ a ∈ ([137, 147] : List Addr), h.get? a = some (tabObj #[])) (T : Top p loose mean mg mb h) : BaseT P h := by
  have t1 := KT' 137 (by simp)
  have t2 := KT' 147 (by simp)
  obtain ⟨bm, ob, b1, b2, b3, b4, b5, b6⟩ := T.bmain
  refine ⟨⟨KI, ⟨mg, T.g⟩, ⟨mb, T.b, T.builtins⟩, T.nolimit, ⟨_, t1⟩, ⟨_, t2⟩⟩, t1, t2, mg, bm, ob, T.g, b1, b2, fun q => ?_, fun q => ?_, fun q => ?_, b3, b4, b5, b6⟩
  · obtain ⟨o, es, ep, e, hd, _⟩ := T.g
    rw [q, e] at b3; cases b3; rw [hd] at b6; cases b6
  · rw [q, t1] at b3; cases b3; cases b4
  · rw [q, t2] at b3; cases b3; cases b4
/-- the call of law, from the top -/
theorem law_top {prog : Program} {w : World} {s : Shared} {la : Addr} {lvs : List Value} {L : List Int} {Q E : Value → Shared → Prop} (BT : BaseT w.params s.heap) (hL : L.length ≤ 63) (hl : s.heap.IsList la lvs.toArray) (hi : IntsAre lvs L)
    (hq : ∀ h' tk, OldK s.heap h' → Q (.bool true) { s with heap := h', toks := tk }) : wpAny (model prog w) callerA (call (.ref 150) [.ref la]) Q E s := by
  have ne : ∀ a ∈ ([137, 147] : List Addr), la ≠ a := fun a ha q => by
    obtain ⟨o, e, hc, _⟩ := hl
    simp only [List.mem_cons, List.not_mem_nil, or_false] at ha
    rcases ha with rfl | rfl
    · rw [q, BT.tab1] at e; cases e; cases hc
    · rw [q, BT.tab2] at e; cases e; cases hc
  refine law_call (k := 0) (h₀ := s.heap) (L := L) (W := [137, 147]) BT hL ⟨rfl, by decide, by decide⟩ rfl ⟨fun b o _ _ e => e, ⟨_, BT.tab1⟩, ⟨_, BT.tab2⟩, ⟨_, BT.tab1⟩, ⟨_, BT.tab2⟩⟩ (fun x hx => ?_) (by simp) (by simp) BT.tab1 BT.tab2 (Reps.one ?_) fun h' tk hk t1 t2 => ?_
  · simp only [List.mem_cons, List.not_mem_nil, or_false] at hx
    rcases hx with rfl | rfl
    · exact ⟨_, BT.tab1⟩
    · exact ⟨_, BT.tab2⟩
  · simp only [Rep]
    exact ⟨la, lvs.toArray, rfl, fun q => ne la q rfl, hl, by simpa using reps_ints hi⟩
  · obtain ⟨p1, t1⟩ := t1
    obtain ⟨p2, t2⟩ := t2
    have c1 := cdHd1 BT.k
    have c2 := cdHd2 BT.k
    have tb1 : s.heap.TableAt 139 137 #[] := c1.tab BT.tab1
    have tb2 : s.heap.TableAt 149 147 #[] := c2.tab BT.tab2
    refine hq h' tk ⟨fun b o e => ?_, fun b o e => ?_⟩
    · by_cases q1 : b = 137
      · subst q1
        rw [BT.tab1] at e; cases e
        exact .inr (.inl ⟨tb1.isCodeTable, rfl, #[], p1, rfl, by simpa using t1⟩)
      · by_cases q2 : b = 147
        · subst q2
          rw [BT.tab2] at e; cases e
          exact .inr (.inl ⟨tb2.isCodeTable, rfl, #[], p2, rfl, by simpa using t2⟩)
        · exact .inl (hk b o q1 q2 e)
    · by_cases q1 : b = 137
      · subst q1; exact ⟨_, t1⟩
      · by_cases q2 : b = 147
        · subst q2; exact ⟨_, t2⟩
        · exact ⟨o, hk b o q1 q2 e⟩
theorem law_holds : PySem.Challenge.rw_om0028_01.Holds := hd (by
  k_fill
  intro w s₀ s₁ mg mb G Y fa o pm cd doc dV kV ho hd hcd hD hmg hg args vals as hpre hlay hrd hwl hlo
  have KI := km_in_of Y
  have KT' := km_tabs_of Y
  refine Ground.open G ?_
  intro T B D TE TW
  try (refine guard_noD D (by decide +kernel) ?_; clear D)
  have hfa : (Value.ref 150 : Value) = Value.ref fa := Option.some.inj ((mg_of KI T.g (gl150 w.params)).symm.trans hmg)
  cases hfa
  have BT := baseT_of KI KT' T
  clear ho hd hcd hD hmg
  wrow_args hpre hlay hrd hwl hlo
  rename_i Lw hs hlay0 hLlay hr1 hl2 as3 as4 la lvs as5 hIsL ra w1 r0 hI hr hc1 hc2
  refine law_top BT (L := Lw) (by omega) hIsL hI fun h' tk ok => ?_
  refine ⟨.inl ⟨.bool true, .bool true, [], rfl, fun cls => ?_, .bool true, ?_, fun _ => ⟨List.nodup_nil, by simp⟩⟩, ok, rfl, .of_eq hg⟩
  · rfl
  · kc_post)
end Mine
end

theorem PySem.Challenge.cw_om0028_01_holds : PySem.Challenge.rw_om0028_01.Holds :=
  Mine.law_holds
