import PyProof.Rows.All
import Wide.All
import OpenK.AllK
import Wide.FinOn
import PySem.Challenge.RW_pg0229_01
section HK1_part
open PySem PySem.W PyProof.Rows
set_option Elab.async false
set_option maxRecDepth 1000000
set_option maxHeartbeats 8000000
namespace Mine
def stTop (i : Nat) : Option Stmt := PySem.Challenge.pw_pg0229_01.main.body[i]?
def stIn (i j : Nat) : Option Stmt := match stTop i with
  | some (.ClassDef _ _ _ body _ _ _ _ _ _ _) => body[j]?
  | _ => none
def fnD (s : Option Stmt) (qual : Str) (g : Addr) (cl : List (Str × Addr)) (d k doc m : Value) (ann : Option Addr) (code ct : Value) (b : Addr) : FuncData := match s with
  | some (.FunctionDef name args body _ _ _ scope _ _ _) => ⟨name, qual, args, .stmts body, scope, g, cl, d, k, doc, m, ann, code, ct, b⟩
  | _ => default
noncomputable def kTop (P : Params) : Frag :=
  [(nat_lit 2, (Obj.mk Value.none none (Data.dict (List.toArray []) 0) (List.toArray []))),
   (nat_lit 3, (Obj.mk (Value.type "dict") none (Data.dict (List.toArray [(DictEntry.mk (PyData.keyHash P (Str.ofString "__name__")) (Value.str (Str.ofString "__name__") 165) (Value.str (Str.ofString "law_pg0229_01") 399)), (DictEntry.mk (PyData.keyHash P (Str.ofString "__doc__")) (Value.str (Str.ofString "__doc__") 166) Value.none), (DictEntry.mk (PyData.keyHash P (Str.ofString "__package__")) (Value.str (Str.ofString "__package__") 167) Value.none), (DictEntry.mk (PyData.keyHash P (Str.ofString "__loader__")) (Value.str (Str.ofString "__loader__") 168) (Value.builtin "__main__.__loader__#opaque")), (DictEntry.mk (PyData.keyHash P (Str.ofString "__spec__")) (Value.str (Str.ofString "__spec__") 169) Value.none), (DictEntry.mk (PyData.keyHash P (Str.ofString "__annotations__")) (Value.str (Str.ofString "__annotations__") 170) (Value.ref 6)), (DictEntry.mk (PyData.keyHash P (Str.ofString "__builtins__")) (Value.str (Str.ofString "__builtins__") 171) (Value.ref 4)), (DictEntry.mk (PyData.keyHash P (Str.ofString "__file__")) (Value.str (Str.ofString "__file__") 173) (Value.str (Str.ofString "/claim/cut.py") 172)), (DictEntry.mk (PyData.keyHash P (Str.ofString "__cached__")) (Value.str (Str.ofString "__cached__") 174) Value.none), (DictEntry.mk (PyData.keyHash P (Str.ofString "_wall")) (Value.str (Str.ofString "_wall") 193) (Value.ref 21)), (DictEntry.mk (PyData.keyHash P (Str.ofString "TupleComp")) (Value.str (Str.ofString "TupleComp") 237) (Value.ref 45)), (DictEntry.mk (PyData.keyHash P (Str.ofString "add_func_stats")) (Value.str (Str.ofString "add_func_stats") 255) (Value.ref 56)), (DictEntry.mk (PyData.keyHash P (Str.ofString "add_callers")) (Value.str (Str.ofString "add_callers") 266) (Value.ref 63)), (DictEntry.mk (PyData.keyHash P (Str.ofString "rgb_to_hsv")) (Value.str (Str.ofString "rgb_to_hsv") 286) (Value.ref 70)), (DictEntry.mk (PyData.keyHash P (Str.ofString "hsv_to_rgb")) (Value.str (Str.ofString "hsv_to_rgb") 300) (Value.ref 77)), (DictEntry.mk (PyData.keyHash P (Str.ofString "Whitespace")) (Value.str (Str.ofString "Whitespace") 398) (Value.ref 139)), (DictEntry.mk (PyData.keyHash P (Str.ofString "_law_hues")) (Value.str (Str.ofString "_law_hues") 413) (Value.ref 150)), (DictEntry.mk (PyData.keyHash P (Str.ofString "_law_rooms")) (Value.str (Str.ofString "_law_rooms") 419) (Value.ref 155)), (DictEntry.mk (PyData.keyHash P (Str.ofString "_law_told")) (Value.str (Str.ofString "_law_told") 425) (Value.ref 160)), (DictEntry.mk (PyData.keyHash P (Str.ofString "_law_sums")) (Value.str (Str.ofString "_law_sums") 436) (Value.ref 167)), (DictEntry.mk (PyData.keyHash P (Str.ofString "law")) (Value.str (Str.ofString "law") 442) (Value.ref 172))]) 21) (List.toArray []))),
   (nat_lit 34, (Obj.mk (Value.type "code") none (Data.fields (List.toArray [(Value.str (Str.ofString "__init__") 208), (Value.str (Str.ofString "TupleComp.__init__") 209), (Value.str (Str.ofString "/claim/cut.py") 210), (Value.int 7 0), (Value.int 2 0), (Value.int 0 0), (Value.int 0 0), (Value.int 3 0), (Value.ref 29), (Value.bool true), (Value.int 181 0), (Value.ref 30), Value.none, (Value.ref 31), (Value.ref 32), (Value.ref 33), (Value.int 213 0), (Value.int 7 0), (Value.str (Str.ofString "/claim/cut.py") 214)])) (List.toArray []))),
   (nat_lit 35, (Obj.mk (Value.type "function") none (Data.func (fnD (stIn 2 0) (Str.ofString "TupleComp.__init__") 3 [] Value.none Value.none Value.none (Value.str (Str.ofString "cpy313.pstats") 194) none (Value.ref 34) Value.none 0)) (List.toArray []))),
   (nat_lit 41, (Obj.mk (Value.type "code") none (Data.fields (List.toArray [(Value.str (Str.ofString "compare") 216), (Value.str (Str.ofString "TupleComp.compare") 217), (Value.str (Str.ofString "/claim/cut.py") 218), (Value.int 10 0), (Value.int 3 0), (Value.int 0 0), (Value.int 0 0), (Value.int 3 0), (Value.ref 36), (Value.bool true), (Value.int 181 0), (Value.ref 37), Value.none, (Value.ref 38), (Value.ref 39), (Value.ref 40), (Value.int 226 0), (Value.int 10 0), (Value.str (Str.ofString "/claim/cut.py") 227)])) (List.toArray []))),
   (nat_lit 42, (Obj.mk (Value.type "function") none (Data.func (fnD (stIn 2 1) (Str.ofString "TupleComp.compare") 3 [] Value.none Value.none Value.none (Value.str (Str.ofString "cpy313.pstats") 194) none (Value.ref 41) Value.none 0)) (List.toArray []))),
   (nat_lit 44, (Obj.mk (Value.type "dict") none (Data.dict (List.toArray [(DictEntry.mk (PyData.keyHash P (Str.ofString "__module__")) (Value.str (Str.ofString "__module__") 203) (Value.str (Str.ofString "cpy313.pstats") 194)), (DictEntry.mk (PyData.keyHash P (Str.ofString "__firstlineno__")) (Value.str (Str.ofString "__firstlineno__") 207) (Value.int 5 206)), (DictEntry.mk (PyData.keyHash P (Str.ofString "__init__")) (Value.str (Str.ofString "__init__") 215) (Value.ref 35)), (DictEntry.mk (PyData.keyHash P (Str.ofString "compare")) (Value.str (Str.ofString "compare") 228) (Value.ref 42)), (DictEntry.mk (PyData.keyHash P (Str.ofString "__static_attributes__")) (Value.str (Str.ofString "__static_attributes__") 230) (Value.ref 43)), (DictEntry.mk (PyData.keyHash P (Str.ofString "__dict__")) (Value.str (Str.ofString "__dict__") 232) (Value.ref 46)), (DictEntry.mk (PyData.keyHash P (Str.ofString "__weakref__")) (Value.str (Str.ofString "__weakref__") 234) (Value.ref 47)), (DictEntry.mk (PyData.keyHash P (Str.ofString "__doc__")) (Value.str (Str.ofString "__doc__") 235) Value.none)]) 4) (List.toArray []))),
   (nat_lit 45, (Obj.mk (Value.type "type") none (Data.cls (ClassData.mk (Str.ofString "TupleComp") [(Value.type "object")] [(Value.ref 45), (Value.type "object")] 44 (Str.ofString "TupleComp") true [] [] false none false)) (List.toArray [none, none, (some (Value.str (Str.ofString "TupleComp") 196)), (some (Value.str (Str.ofString "TupleComp") 204)), (some (Value.builtin "object.__new__")), (some (Value.bool true))]))),
   (nat_lit 55, (Obj.mk (Value.type "code") none (Data.fields (List.toArray [(Value.str (Str.ofString "add_func_stats") 238), (Value.str (Str.ofString "add_func_stats") 239), (Value.str (Str.ofString "/claim/cut.py") 240), (Value.int 19 0), (Value.int 2 0), (Value.int 0 0), (Value.int 0 0), (Value.int 3 0), (Value.ref 50), (Value.bool true), (Value.int 181 0), (Value.ref 51), Value.none, (Value.ref 52), (Value.ref 53), (Value.ref 54), (Value.int 253 0), (Value.int 19 0), (Value.str (Str.ofString "/claim/cut.py") 254)])) (List.toArray []))),
   (nat_lit 56, (Obj.mk (Value.type "function") none (Data.func (fnD (stTop 3) (Str.ofString "add_func_stats") 3 [] Value.none Value.none Value.none (Value.str (Str.ofString "cpy313.pstats") 194) none (Value.ref 55) Value.none 0)) (List.toArray []))),
   (nat_lit 62, (Obj.mk (Value.type "code") none (Data.fields (List.toArray [(Value.str (Str.ofString "add_callers") 256), (Value.str (Str.ofString "add_callers") 257), (Value.str (Str.ofString "/claim/cut.py") 258), (Value.int 23 0), (Value.int 2 0), (Value.int 0 0), (Value.int 0 0), (Value.int 3 0), (Value.ref 57), (Value.bool true), (Value.int 181 0), (Value.ref 58), Value.none, (Value.ref 59), (Value.ref 60), (Value.ref 61), (Value.int 264 0), (Value.int 23 0), (Value.str (Str.ofString "/claim/cut.py") 265)])) (List.toArray []))),
   (nat_lit 63, (Obj.mk (Value.type "function") none (Data.func (fnD (stTop 4) (Str.ofString "add_callers") 3 [] Value.none Value.none Value.none (Value.str (Str.ofString "cpy313.pstats") 194) none (Value.ref 62) Value.none 0)) (List.toArray []))),
   (nat_lit 69, (Obj.mk (Value.type "code") none (Data.fields (List.toArray [(Value.str (Str.ofString "rgb_to_hsv") 269), (Value.str (Str.ofString "rgb_to_hsv") 270), (Value.str (Str.ofString "/claim/cut.py") 271), (Value.int 37 0), (Value.int 3 0), (Value.int 0 0), (Value.int 0 0), (Value.int 3 0), (Value.ref 64), (Value.bool true), (Value.int 181 0), (Value.ref 65), Value.none, (Value.ref 66), (Value.ref 67), (Value.ref 68), (Value.int 284 0), (Value.int 37 0), (Value.str (Str.ofString "/claim/cut.py") 285)])) (List.toArray []))),
   (nat_lit 70, (Obj.mk (Value.type "function") none (Data.func (fnD (stTop 6) (Str.ofString "rgb_to_hsv") 3 [] Value.none Value.none Value.none (Value.str (Str.ofString "cpy313.colorsys") 267) none (Value.ref 69) Value.none 0)) (List.toArray []))),
   (nat_lit 76, (Obj.mk (Value.type "code") none (Data.fields (List.toArray [(Value.str (Str.ofString "hsv_to_rgb") 287), (Value.str (Str.ofString "hsv_to_rgb") 288), (Value.str (Str.ofString "/claim/cut.py") 289), (Value.int 56 0), (Value.int 3 0), (Value.int 0 0), (Value.int 0 0), (Value.int 3 0), (Value.ref 71), (Value.bool true), (Value.int 181 0), (Value.ref 72), Value.none, (Value.ref 73), (Value.ref 74), (Value.ref 75), (Value.int 298 0), (Value.int 56 0), (Value.str (Str.ofString "/claim/cut.py") 299)])) (List.toArray []))),
   (nat_lit 77, (Obj.mk (Value.type "function") none (Data.func (fnD (stTop 7) (Str.ofString "hsv_to_rgb") 3 [] Value.none Value.none Value.none (Value.str (Str.ofString "cpy313.colorsys") 267) none (Value.ref 76) Value.none 0)) (List.toArray []))),
   (nat_lit 93, (Obj.mk (Value.type "code") none (Data.fields (List.toArray [(Value.str (Str.ofString "__init__") 320), (Value.str (Str.ofString "Whitespace.__init__") 321), (Value.str (Str.ofString "/claim/cut.py") 322), (Value.int 81 0), (Value.int 2 0), (Value.int 0 0), (Value.int 0 0), (Value.int 3 0), (Value.ref 88), (Value.bool true), (Value.int 181 0), (Value.ref 89), Value.none, (Value.ref 90), (Value.ref 91), (Value.ref 92), (Value.int 332 0), (Value.int 81 0), (Value.str (Str.ofString "/claim/cut.py") 333)])) (List.toArray []))),
   (nat_lit 94, (Obj.mk (Value.type "function") none (Data.func (fnD (stIn 9 1) (Str.ofString "Whitespace.__init__") 3 [] Value.none Value.none Value.none (Value.str (Str.ofString "cpy313.tabnanny") 301) none (Value.ref 93) Value.none 0)) (List.toArray []))),
   (nat_lit 107, (Obj.mk (Value.type "code") none (Data.fields (List.toArray [(Value.str (Str.ofString "indent_level") 342), (Value.str (Str.ofString "Whitespace.indent_level") 343), (Value.str (Str.ofString "/claim/cut.py") 344), (Value.int 107 0), (Value.int 2 0), (Value.int 0 0), (Value.int 0 0), (Value.int 3 0), (Value.ref 102), (Value.bool true), (Value.int 181 0), (Value.ref 103), Value.none, (Value.ref 104), (Value.ref 105), (Value.ref 106), (Value.int 351 0), (Value.int 107 0), (Value.str (Str.ofString "/claim/cut.py") 352)])) (List.toArray []))),
   (nat_lit 108, (Obj.mk (Value.type "function") none (Data.func (fnD (stIn 9 3) (Str.ofString "Whitespace.indent_level") 3 [] Value.none Value.none Value.none (Value.str (Str.ofString "cpy313.tabnanny") 301) none (Value.ref 107) Value.none 0)) (List.toArray []))),
   (nat_lit 138, (Obj.mk (Value.type "dict") none (Data.dict (List.toArray [(DictEntry.mk (PyData.keyHash P (Str.ofString "__module__")) (Value.str (Str.ofString "__module__") 310) (Value.str (Str.ofString "cpy313.tabnanny") 301)), (DictEntry.mk (PyData.keyHash P (Str.ofString "__firstlineno__")) (Value.str (Str.ofString "__firstlineno__") 314) (Value.int 78 313)), (DictEntry.mk (PyData.keyHash P (Str.ofString "S")) (Value.str (Str.ofString "S") 318) (Value.str (Str.ofString " ") 316)), (DictEntry.mk (PyData.keyHash P (Str.ofString "T")) (Value.str (Str.ofString "T") 319) (Value.str (Str.ofString "\t") 317)), (DictEntry.mk (PyData.keyHash P (Str.ofString "__init__")) (Value.str (Str.ofString "__init__") 334) (Value.ref 94)), (DictEntry.mk (PyData.keyHash P (Str.ofString "longest_run_of_spaces")) (Value.str (Str.ofString "longest_run_of_spaces") 341) (Value.ref 101)), (DictEntry.mk (PyData.keyHash P (Str.ofString "indent_level")) (Value.str (Str.ofString "indent_level") 353) (Value.ref 108)), (DictEntry.mk (PyData.keyHash P (Str.ofString "equal")) (Value.str (Str.ofString "equal") 361) (Value.ref 115)), (DictEntry.mk (PyData.keyHash P (Str.ofString "not_equal_witness")) (Value.str (Str.ofString "not_equal_witness") 369) (Value.ref 122)), (DictEntry.mk (PyData.keyHash P (Str.ofString "less")) (Value.str (Str.ofString "less") 377) (Value.ref 129)), (DictEntry.mk (PyData.keyHash P (Str.ofString "not_less_witness")) (Value.str (Str.ofString "not_less_witness") 385) (Value.ref 136)), (DictEntry.mk (PyData.keyHash P (Str.ofString "__static_attributes__")) (Value.str (Str.ofString "__static_attributes__") 391) (Value.ref 137)), (DictEntry.mk (PyData.keyHash P (Str.ofString "__dict__")) (Value.str (Str.ofString "__dict__") 393) (Value.ref 140)), (DictEntry.mk (PyData.keyHash P (Str.ofString "__weakref__")) (Value.str (Str.ofString "__weakref__") 395) (Value.ref 141)), (DictEntry.mk (PyData.keyHash P (Str.ofString "__doc__")) (Value.str (Str.ofString "__doc__") 396) Value.none)]) 4) (List.toArray []))),
   (nat_lit 139, (Obj.mk (Value.type "type") none (Data.cls (ClassData.mk (Str.ofString "Whitespace") [(Value.type "object")] [(Value.ref 139), (Value.type "object")] 138 (Str.ofString "Whitespace") true [] [] false none false)) (List.toArray [none, none, (some (Value.str (Str.ofString "Whitespace") 303)), (some (Value.str (Str.ofString "Whitespace") 311)), (some (Value.builtin "object.__new__")), (some (Value.bool true))]))),
   (nat_lit 149, (Obj.mk (Value.type "code") none (Data.fields (List.toArray [(Value.str (Str.ofString "_law_hues") 401), (Value.str (Str.ofString "_law_hues") 402), (Value.str (Str.ofString "/claim/cut.py") 403), (Value.int 126 0), (Value.int 2 0), (Value.int 0 0), (Value.int 0 0), (Value.int 3 0), (Value.ref 144), (Value.bool true), (Value.int 181 0), (Value.ref 145), Value.none, (Value.ref 146), (Value.ref 147), (Value.ref 148), (Value.int 411 0), (Value.int 126 0), (Value.str (Str.ofString "/claim/cut.py") 412)])) (List.toArray []))),
   (nat_lit 150, (Obj.mk (Value.type "function") none (Data.func (fnD (stTop 11) (Str.ofString "_law_hues") 3 [] Value.none Value.none Value.none (Value.str (Str.ofString "law_pg0229_01") 399) none (Value.ref 149) Value.none 0)) (List.toArray []))),
   (nat_lit 154, (Obj.mk (Value.type "code") none (Data.fields (List.toArray [(Value.str (Str.ofString "_law_rooms") 414), (Value.str (Str.ofString "_law_rooms") 415), (Value.str (Str.ofString "/claim/cut.py") 416), (Value.int 132 0), (Value.int 2 0), (Value.int 0 0), (Value.int 0 0), (Value.int 3 0), (Value.ref 151), (Value.bool true), (Value.int 181 0), (Value.ref 152), Value.none, Value.none, Value.none, (Value.ref 153), (Value.int 417 0), (Value.int 132 0), (Value.str (Str.ofString "/claim/cut.py") 418)])) (List.toArray []))),
   (nat_lit 155, (Obj.mk (Value.type "function") none (Data.func (fnD (stTop 12) (Str.ofString "_law_rooms") 3 [] Value.none Value.none Value.none (Value.str (Str.ofString "law_pg0229_01") 399) none (Value.ref 154) Value.none 0)) (List.toArray []))),
   (nat_lit 159, (Obj.mk (Value.type "code") none (Data.fields (List.toArray [(Value.str (Str.ofString "_law_told") 420), (Value.str (Str.ofString "_law_told") 421), (Value.str (Str.ofString "/claim/cut.py") 422), (Value.int 134 0), (Value.int 2 0), (Value.int 0 0), (Value.int 0 0), (Value.int 3 0), (Value.ref 156), (Value.bool true), (Value.int 181 0), (Value.ref 157), Value.none, Value.none, Value.none, (Value.ref 158), (Value.int 423 0), (Value.int 134 0), (Value.str (Str.ofString "/claim/cut.py") 424)])) (List.toArray []))),
   (nat_lit 160, (Obj.mk (Value.type "function") none (Data.func (fnD (stTop 13) (Str.ofString "_law_told") 3 [] Value.none Value.none Value.none (Value.str (Str.ofString "law_pg0229_01") 399) none (Value.ref 159) Value.none 0)) (List.toArray []))),
   (nat_lit 166, (Obj.mk (Value.type "code") none (Data.fields (List.toArray [(Value.str (Str.ofString "_law_sums") 426), (Value.str (Str.ofString "_law_sums") 427), (Value.str (Str.ofString "/claim/cut.py") 428), (Value.int 137 0), (Value.int 2 0), (Value.int 0 0), (Value.int 0 0), (Value.int 3 0), (Value.ref 161), (Value.bool true), (Value.int 181 0), (Value.ref 162), Value.none, (Value.ref 163), (Value.ref 164), (Value.ref 165), (Value.int 434 0), (Value.int 137 0), (Value.str (Str.ofString "/claim/cut.py") 435)])) (List.toArray []))),
   (nat_lit 167, (Obj.mk (Value.type "function") none (Data.func (fnD (stTop 14) (Str.ofString "_law_sums") 3 [] Value.none Value.none Value.none (Value.str (Str.ofString "law_pg0229_01") 399) none (Value.ref 166) Value.none 0)) (List.toArray []))),
   (nat_lit 171, (Obj.mk (Value.type "code") none (Data.fields (List.toArray [(Value.str (Str.ofString "law") 437), (Value.str (Str.ofString "law") 438), (Value.str (Str.ofString "/claim/cut.py") 439), (Value.int 143 0), (Value.int 1 0), (Value.int 0 0), (Value.int 0 0), (Value.int 3 0), (Value.ref 168), (Value.bool true), (Value.int 181 0), (Value.ref 169), Value.none, Value.none, Value.none, (Value.ref 170), (Value.int 440 0), (Value.int 143 0), (Value.str (Str.ofString "/claim/cut.py") 441)])) (List.toArray []))),
   (nat_lit 172, (Obj.mk (Value.type "function") none (Data.func (fnD (stTop 15) (Str.ofString "law") 3 [] Value.none Value.none Value.none (Value.str (Str.ofString "law_pg0229_01") 399) none (Value.ref 171) Value.none 0)) (List.toArray [])))]
noncomputable def asTop : List Addr := [2,3,34,35,41,42,44,45,55,56,62,63,69,70,76,77,93,94,107,108,138,139,149,150,154,155,159,160,166,167,171,172]
noncomputable def qTop : Program := view PySem.Challenge.pw_pg0229_01 [0, 2, 3, 4, 6, 7, 9, 11, 12, 13, 14, 15]
noncomputable def xTop (s : Shared) : Bool := xlAt qTop [] s && recOk (RowW.records (OpenRow.toRowW (OpenLaw.row PySem.Challenge.rw_pg0229_01))) s
end Mine
end HK1_part
section HK1p_part
open PySem PySem.W PyProof.Rows
set_option Elab.async false
set_option maxRecDepth 1000000
set_option maxHeartbeats 8000000
namespace Mine
set_option linter.unusedVariables false
abbrev O := Params → Obj
noncomputable abbrev nd := BT.node
noncomputable abbrev nl := BT.nil
noncomputable abbrev sf := Str.ofString
noncomputable abbrev v0 := Value.none
noncomputable abbrev vr := Value.ref
noncomputable abbrev vi := Value.int
noncomputable abbrev vs (s : String) (n : Nat) : Value := .str (Str.ofString s) n
noncomputable abbrev de (P : Params) (k : String) (n : Nat) (v : Value) : DictEntry := .mk (PyData.keyHash P (Str.ofString k)) (.str (Str.ofString k) n) v
noncomputable abbrev om (t : String) (d : Data) (l : Array (Option Value)) : Obj := .mk (.type t) none d l
noncomputable def o43 : O := fun P => om "tuple" (Data.seq #[] 0) #[]
noncomputable def o44 : O := fun P => Obj.mk v0 none (Data.fields #[]) #[]
noncomputable def o45 : O := fun P => om "code" (Data.fields #[(vs "<module>" 182), (vs "<module>" 183), (vs "/claim/cut.py" 184), (vi 1 0), (vi 0 0), (vi 0 0), (vi 0 0), (vi 0 0), (vr 11), (Value.bool false), (vi 181 0), (vr 12), v0, v0, v0, v0, (vi 185 0), (vi 1 0), (vs "/claim/cut.py" 186)]) #[]
noncomputable def o46 : O := fun P => om "frame" Data.plain #[(some (vr 13)), (some (vr 3)), (some (vr 3)), none, (some (vs "__main__" 164)), none, (some (vr 0))]
noncomputable def o49 : O := fun P => om "dict" (Data.dict #[(de P "__name__" 165 (vs "cpy313.colorsys" 267)), (de P "__doc__" 166 v0), (de P "__package__" 167 v0), (de P "__loader__" 168 (Value.builtin "__main__.__loader__#opaque")), (de P "__spec__" 169 v0), (de P "__annotations__" 170 (vr 6)), (de P "__builtins__" 171 (vr 4)), (de P "__file__" 173 (vs "/claim/cut.py" 172)), (de P "__cached__" 174 v0), (de P "_wall" 193 (vr 21)), (de P "TupleComp" 237 (vr 45)), (de P "add_func_stats" 255 (vr 56)), (de P "add_callers" 266 (vr 63))] 13) #[]
noncomputable def o50 : O := fun P => Obj.mk v0 none (Data.fields #[(vi 1 0), (vi 0 0), (vr 20), (vi 5 0), (vi 0 0), (vr 27), (vi 19 0), (vi 0 0), (vr 55), (vi 23 0), (vi 0 0), (vr 62)]) #[]
noncomputable def o51 : O := fun P => om "tuple" (Data.seq #[] 0) #[]
noncomputable def o52 : O := fun P => Obj.mk v0 none (Data.fields #[]) #[]
noncomputable def o53 : O := fun P => om "tuple" (Data.seq #[(vs "k" 190)] 0) #[]
noncomputable def o54 : O := fun P => om "tuple" (Data.seq #[] 0) #[]
noncomputable def o55 : O := fun P => Obj.mk v0 none (Data.func (fnD (stTop 0) (sf "_wall") 0 [] v0 v0 v0 v0 none v0 v0 0)) #[]
noncomputable def o56 : O := fun P => om "code" (Data.fields #[(vs "_wall" 187), (vs "_wall" 188), (vs "/claim/cut.py" 189), (vi 1 0), (vi 1 0), (vi 0 0), (vi 0 0), (vi 3 0), (vr 15), (Value.bool true), (vi 181 0), (vr 16), v0, (vr 17), (vr 18), (vr 19), (vi 191 0), (vi 1 0), (vs "/claim/cut.py" 192)]) #[]
noncomputable def o57 : O := fun P => om "function" (Data.func (fnD (stTop 0) (sf "_wall") 3 [] v0 v0 v0 (vs "__main__" 164) none (vr 20) v0 0)) #[]
noncomputable def o58 : O := fun P => om "tuple" (Data.seq #[] 0) #[]
noncomputable def o59 : O := fun P => om "builtin_function_or_method" (Data.fields #[(Value.builtin "type.__prepare__"), (Value.type "type")]) #[]
noncomputable def o60 : O := fun P => om "dict" (Data.dict #[(de P "__module__" 203 (vs "cpy313.pstats" 194)), (de P "__qualname__" 205 (vs "TupleComp" 204)), (de P "__firstlineno__" 207 (vi 5 206)), (de P "__init__" 215 (vr 35)), (de P "compare" 228 (vr 42)), (de P "__static_attributes__" 230 (vr 43))] 6) #[]
noncomputable def o61 : O := fun P => om "tuple" (Data.seq #[] 0) #[]
noncomputable def o62 : O := fun P => Obj.mk v0 none (Data.fields #[(vi 7 0), (vi 4 0), (vr 34), (vi 10 0), (vi 4 0), (vr 41)]) #[]
noncomputable def o63 : O := fun P => om "code" (Data.fields #[(vs "TupleComp" 198), (vs "TupleComp" 199), (vs "/claim/cut.py" 200), (vi 5 0), (vi 0 0), (vi 0 0), (vi 0 0), (vi 0 0), (vr 25), (Value.bool false), (vi 181 0), (vr 26), v0, v0, v0, v0, (vi 201 0), (vi 5 0), (vs "/claim/cut.py" 202)]) #[]
noncomputable def o64 : O := fun P => om "frame" Data.plain #[(some (vr 27)), (some (vr 3)), (some (vr 24)), none, (some (vs "cpy313.pstats" 194)), none, (some (vr 0))]
noncomputable def o65 : O := fun P => om "tuple" (Data.seq #[] 0) #[]
noncomputable def o66 : O := fun P => Obj.mk v0 none (Data.fields #[]) #[]
noncomputable def o67 : O := fun P => om "tuple" (Data.seq #[(vs "self" 211), (vs "comp_select_list" 212)] 0) #[]
noncomputable def o68 : O := fun P => om "tuple" (Data.seq #[] 0) #[]
noncomputable def o69 : O := fun P => Obj.mk v0 none (Data.func (fnD (stIn 2 0) (sf "TupleComp.__init__") 0 [] v0 v0 v0 v0 none v0 v0 0)) #[]
noncomputable def o70 : O := fun P => om "code" (Data.fields #[(vs "__init__" 208), (vs "TupleComp.__init__" 209), (vs "/claim/cut.py" 210), (vi 7 0), (vi 2 0), (vi 0 0), (vi 0 0), (vi 3 0), (vr 29), (Value.bool true), (vi 181 0), (vr 30), v0, (vr 31), (vr 32), (vr 33), (vi 213 0), (vi 7 0), (vs "/claim/cut.py" 214)]) #[]
noncomputable def o71 : O := fun P => om "function" (Data.func (fnD (stIn 2 0) (sf "TupleComp.__init__") 3 [] v0 v0 v0 (vs "cpy313.pstats" 194) none (vr 34) v0 0)) #[]
noncomputable def o72 : O := fun P => om "tuple" (Data.seq #[] 0) #[]
noncomputable def o73 : O := fun P => Obj.mk v0 none (Data.fields #[]) #[]
noncomputable def o74 : O := fun P => om "tuple" (Data.seq #[(vs "self" 219), (vs "left" 220), (vs "right" 221), (vs "index" 222), (vs "direction" 223), (vs "l" 224), (vs "r" 225)] 0) #[]
noncomputable def o75 : O := fun P => om "tuple" (Data.seq #[] 0) #[]
noncomputable def o76 : O := fun P => Obj.mk v0 none (Data.func (fnD (stIn 2 1) (sf "TupleComp.compare") 0 [] v0 v0 v0 v0 none v0 v0 0)) #[]
noncomputable def o77 : O := fun P => om "code" (Data.fields #[(vs "compare" 216), (vs "TupleComp.compare" 217), (vs "/claim/cut.py" 218), (vi 10 0), (vi 3 0), (vi 0 0), (vi 0 0), (vi 3 0), (vr 36), (Value.bool true), (vi 181 0), (vr 37), v0, (vr 38), (vr 39), (vr 40), (vi 226 0), (vi 10 0), (vs "/claim/cut.py" 227)]) #[]
noncomputable def o78 : O := fun P => om "function" (Data.func (fnD (stIn 2 1) (sf "TupleComp.compare") 3 [] v0 v0 v0 (vs "cpy313.pstats" 194) none (vr 41) v0 0)) #[]
noncomputable def o79 : O := fun P => om "tuple" (Data.seq #[(vs "comp_select_list" 229)] 0) #[]
noncomputable def o80 : O := fun P => om "dict" (Data.dict #[(de P "__module__" 203 (vs "cpy313.pstats" 194)), (de P "__firstlineno__" 207 (vi 5 206)), (de P "__init__" 215 (vr 35)), (de P "compare" 228 (vr 42)), (de P "__static_attributes__" 230 (vr 43)), (de P "__dict__" 232 (vr 46)), (de P "__weakref__" 234 (vr 47)), (de P "__doc__" 235 v0)] 4) #[]
noncomputable def o81 : O := fun P => om "type" (Data.cls (ClassData.mk (sf "TupleComp") [(Value.type "object")] [(vr 45), (Value.type "object")] 44 (sf "TupleComp") true [] [] false none false)) #[none, none, (some (vs "TupleComp" 196)), (some (vs "TupleComp" 204)), (some (Value.builtin "object.__new__")), (some (Value.bool true))]
noncomputable def o82 : O := fun P => om "getset_descriptor" (Data.fields #[(vs "__dict__" 231), (vr 45), (Value.builtin "function.__dict__"), (Value.builtin "function.__dict__#set")]) #[]
noncomputable def o83 : O := fun P => om "getset_descriptor" (Data.fields #[(vs "__weakref__" 233), (vr 45), (Value.builtin "ExceptionGroup.__weakref__"), v0]) #[]
noncomputable def o84 : O := fun P => om "super" (Data.fields #[(vr 45), (vr 45), (vr 45)]) #[]
noncomputable def o85 : O := fun P => om "builtin_function_or_method" (Data.fields #[(Value.builtin "object.__init_subclass__"), (vr 45)]) #[]
noncomputable def o86 : O := fun P => om "tuple" (Data.seq #[] 0) #[]
noncomputable def o87 : O := fun P => Obj.mk v0 none (Data.fields #[]) #[]
noncomputable def o88 : O := fun P => om "tuple" (Data.seq #[(vs "target" 241), (vs "source" 242), (vs "cc" 243), (vs "nc" 244), (vs "tt" 245), (vs "ct" 246), (vs "callers" 247), (vs "t_cc" 248), (vs "t_nc" 249), (vs "t_tt" 250), (vs "t_ct" 251), (vs "t_callers" 252)] 0) #[]
noncomputable def o89 : O := fun P => om "tuple" (Data.seq #[] 0) #[]
noncomputable def o90 : O := fun P => Obj.mk v0 none (Data.func (fnD (stTop 3) (sf "add_func_stats") 0 [] v0 v0 v0 v0 none v0 v0 0)) #[]
noncomputable def o91 : O := fun P => om "code" (Data.fields #[(vs "add_func_stats" 238), (vs "add_func_stats" 239), (vs "/claim/cut.py" 240), (vi 19 0), (vi 2 0), (vi 0 0), (vi 0 0), (vi 3 0), (vr 50), (Value.bool true), (vi 181 0), (vr 51), v0, (vr 52), (vr 53), (vr 54), (vi 253 0), (vi 19 0), (vs "/claim/cut.py" 254)]) #[]
noncomputable def o92 : O := fun P => om "function" (Data.func (fnD (stTop 3) (sf "add_func_stats") 3 [] v0 v0 v0 (vs "cpy313.pstats" 194) none (vr 55) v0 0)) #[]
noncomputable def o93 : O := fun P => om "tuple" (Data.seq #[] 0) #[]
noncomputable def o94 : O := fun P => Obj.mk v0 none (Data.fields #[]) #[]
noncomputable def o95 : O := fun P => om "tuple" (Data.seq #[(vs "target" 259), (vs "source" 260), (vs "new_callers" 261), (vs "func" 262), (vs "caller" 263)] 0) #[]
noncomputable def o96 : O := fun P => om "tuple" (Data.seq #[] 0) #[]
noncomputable def o97 : O := fun P => Obj.mk v0 none (Data.func (fnD (stTop 4) (sf "add_callers") 0 [] v0 v0 v0 v0 none v0 v0 0)) #[]
noncomputable def o98 : O := fun P => om "code" (Data.fields #[(vs "add_callers" 256), (vs "add_callers" 257), (vs "/claim/cut.py" 258), (vi 23 0), (vi 2 0), (vi 0 0), (vi 0 0), (vi 3 0), (vr 57), (Value.bool true), (vi 181 0), (vr 58), v0, (vr 59), (vr 60), (vr 61), (vi 264 0), (vi 23 0), (vs "/claim/cut.py" 265)]) #[]
noncomputable def o99 : O := fun P => om "function" (Data.func (fnD (stTop 4) (sf "add_callers") 3 [] v0 v0 v0 (vs "cpy313.pstats" 194) none (vr 62) v0 0)) #[]
noncomputable def o100 : O := fun P => om "dict" (Data.dict #[(de P "__name__" 165 (vs "cpy313.tabnanny" 301)), (de P "__doc__" 166 v0), (de P "__package__" 167 v0), (de P "__loader__" 168 (Value.builtin "__main__.__loader__#opaque")), (de P "__spec__" 169 v0), (de P "__annotations__" 170 (vr 6)), (de P "__builtins__" 171 (vr 4)), (de P "__file__" 173 (vs "/claim/cut.py" 172)), (de P "__cached__" 174 v0), (de P "_wall" 193 (vr 21)), (de P "TupleComp" 237 (vr 45)), (de P "add_func_stats" 255 (vr 56)), (de P "add_callers" 266 (vr 63)), (de P "rgb_to_hsv" 286 (vr 70)), (de P "hsv_to_rgb" 300 (vr 77))] 15) #[]
noncomputable def o101 : O := fun P => Obj.mk v0 none (Data.fields #[(vi 1 0), (vi 0 0), (vr 20), (vi 5 0), (vi 0 0), (vr 27), (vi 19 0), (vi 0 0), (vr 55), (vi 23 0), (vi 0 0), (vr 62), (vi 37 0), (vi 0 0), (vr 69), (vi 56 0), (vi 0 0), (vr 76)]) #[]
noncomputable def o102 : O := fun P => om "tuple" (Data.seq #[] 0) #[]
noncomputable def o103 : O := fun P => Obj.mk v0 none (Data.fields #[]) #[]
noncomputable def o104 : O := fun P => om "tuple" (Data.seq #[(vs "r" 272), (vs "g" 273), (vs "b" 274), (vs "maxc" 275), (vs "minc" 276), (vs "rangec" 277), (vs "v" 278), (vs "s" 279), (vs "rc" 280), (vs "gc" 281), (vs "bc" 282), (vs "h" 283)] 0) #[]
noncomputable def o105 : O := fun P => om "tuple" (Data.seq #[] 0) #[]
noncomputable def o106 : O := fun P => Obj.mk v0 none (Data.func (fnD (stTop 6) (sf "rgb_to_hsv") 0 [] v0 v0 v0 v0 none v0 v0 0)) #[]
noncomputable def o107 : O := fun P => om "code" (Data.fields #[(vs "rgb_to_hsv" 269), (vs "rgb_to_hsv" 270), (vs "/claim/cut.py" 271), (vi 37 0), (vi 3 0), (vi 0 0), (vi 0 0), (vi 3 0), (vr 64), (Value.bool true), (vi 181 0), (vr 65), v0, (vr 66), (vr 67), (vr 68), (vi 284 0), (vi 37 0), (vs "/claim/cut.py" 285)]) #[]
noncomputable def o108 : O := fun P => om "function" (Data.func (fnD (stTop 6) (sf "rgb_to_hsv") 3 [] v0 v0 v0 (vs "cpy313.colorsys" 267) none (vr 69) v0 0)) #[]
noncomputable def o109 : O := fun P => om "tuple" (Data.seq #[] 0) #[]
noncomputable def o110 : O := fun P => Obj.mk v0 none (Data.fields #[]) #[]
noncomputable def o111 : O := fun P => om "tuple" (Data.seq #[(vs "h" 290), (vs "s" 291), (vs "v" 292), (vs "i" 293), (vs "f" 294), (vs "p" 295), (vs "q" 296), (vs "t" 297)] 0) #[]
noncomputable def o112 : O := fun P => om "tuple" (Data.seq #[] 0) #[]
noncomputable def o113 : O := fun P => Obj.mk v0 none (Data.func (fnD (stTop 7) (sf "hsv_to_rgb") 0 [] v0 v0 v0 v0 none v0 v0 0)) #[]
noncomputable def o114 : O := fun P => om "code" (Data.fields #[(vs "hsv_to_rgb" 287), (vs "hsv_to_rgb" 288), (vs "/claim/cut.py" 289), (vi 56 0), (vi 3 0), (vi 0 0), (vi 0 0), (vi 3 0), (vr 71), (Value.bool true), (vi 181 0), (vr 72), v0, (vr 73), (vr 74), (vr 75), (vi 298 0), (vi 56 0), (vs "/claim/cut.py" 299)]) #[]
noncomputable def o115 : O := fun P => om "function" (Data.func (fnD (stTop 7) (sf "hsv_to_rgb") 3 [] v0 v0 v0 (vs "cpy313.colorsys" 267) none (vr 76) v0 0)) #[]
noncomputable def o116 : O := fun P => om "dict" (Data.dict #[(de P "__name__" 165 (vs "cpy313.tabnanny" 301)), (de P "__doc__" 166 v0), (de P "__package__" 167 v0), (de P "__loader__" 168 (Value.builtin "__main__.__loader__#opaque")), (de P "__spec__" 169 v0), (de P "__annotations__" 170 (vr 6)), (de P "__builtins__" 171 (vr 4)), (de P "__file__" 173 (vs "/claim/cut.py" 172)), (de P "__cached__" 174 v0), (de P "_wall" 193 (vr 21)), (de P "TupleComp" 237 (vr 45)), (de P "add_func_stats" 255 (vr 56)), (de P "add_callers" 266 (vr 63)), (de P "rgb_to_hsv" 286 (vr 70)), (de P "hsv_to_rgb" 300 (vr 77)), (de P "Whitespace" 398 (vr 139))] 16) #[]
noncomputable def o117 : O := fun P => Obj.mk v0 none (Data.fields #[(vi 1 0), (vi 0 0), (vr 20), (vi 5 0), (vi 0 0), (vr 27), (vi 19 0), (vi 0 0), (vr 55), (vi 23 0), (vi 0 0), (vr 62), (vi 37 0), (vi 0 0), (vr 69), (vi 56 0), (vi 0 0), (vr 76), (vi 78 0), (vi 0 0), (vr 83)]) #[]
noncomputable def o118 : O := fun P => om "tuple" (Data.seq #[] 0) #[]
noncomputable def o119 : O := fun P => om "builtin_function_or_method" (Data.fields #[(Value.builtin "type.__prepare__"), (Value.type "type")]) #[]
noncomputable def o120 : O := fun P => om "dict" (Data.dict #[(de P "__module__" 310 (vs "cpy313.tabnanny" 301)), (de P "__qualname__" 312 (vs "Whitespace" 311)), (de P "__firstlineno__" 314 (vi 78 313)), (de P "S" 318 (vs " " 316)), (de P "T" 319 (vs "\t" 317)), (de P "__init__" 334 (vr 94)), (de P "longest_run_of_spaces" 341 (vr 101)), (de P "indent_level" 353 (vr 108)), (de P "equal" 361 (vr 115)), (de P "not_equal_witness" 369 (vr 122)), (de P "less" 377 (vr 129)), (de P "not_less_witness" 385 (vr 136)), (de P "__static_attributes__" 391 (vr 137))] 13) #[]
noncomputable def o121 : O := fun P => om "tuple" (Data.seq #[] 0) #[]
noncomputable def o122 : O := fun P => Obj.mk v0 none (Data.fields #[(vi 81 0), (vi 4 0), (vr 93), (vi 104 0), (vi 4 0), (vr 100), (vi 107 0), (vi 4 0), (vr 107), (vi 114 0), (vi 4 0), (vr 114), (vi 117 0), (vi 4 0), (vr 121), (vi 120 0), (vi 4 0), (vr 128), (vi 123 0), (vi 4 0), (vr 135)]) #[]
noncomputable def o123 : O := fun P => om "code" (Data.fields #[(vs "Whitespace" 305), (vs "Whitespace" 306), (vs "/claim/cut.py" 307), (vi 78 0), (vi 0 0), (vi 0 0), (vi 0 0), (vi 0 0), (vr 81), (Value.bool false), (vi 181 0), (vr 82), v0, v0, v0, v0, (vi 308 0), (vi 78 0), (vs "/claim/cut.py" 309)]) #[]
noncomputable def o124 : O := fun P => om "frame" Data.plain #[(some (vr 83)), (some (vr 3)), (some (vr 80)), none, (some (vs "cpy313.tabnanny" 301)), none, (some (vr 0))]
noncomputable def o125 : O := fun P => om "str_ascii_iterator" (Data.fields #[v0, (vi 2 0)]) #[]
noncomputable def o126 : O := fun P => om "tuple" (Data.seq #[] 0) #[]
noncomputable def o127 : O := fun P => om "StopIteration" (Data.fields #[(vr 86), v0, v0, v0, (Value.bool false), v0]) #[]
noncomputable def o128 : O := fun P => om "tuple" (Data.seq #[] 0) #[]
noncomputable def o129 : O := fun P => Obj.mk v0 none (Data.fields #[]) #[]
noncomputable def o130 : O := fun P => om "tuple" (Data.seq #[(vs "self" 323), (vs "ws" 324), (vs "S" 325), (vs "T" 326), (vs "count" 327), (vs "b" 328), (vs "n" 329), (vs "nt" 330), (vs "ch" 331)] 0) #[]
noncomputable def o131 : O := fun P => om "tuple" (Data.seq #[] 0) #[]
noncomputable def o132 : O := fun P => Obj.mk v0 none (Data.func (fnD (stIn 9 1) (sf "Whitespace.__init__") 0 [] v0 v0 v0 v0 none v0 v0 0)) #[]
noncomputable def o133 : O := fun P => om "code" (Data.fields #[(vs "__init__" 320), (vs "Whitespace.__init__" 321), (vs "/claim/cut.py" 322), (vi 81 0), (vi 2 0), (vi 0 0), (vi 0 0), (vi 3 0), (vr 88), (Value.bool true), (vi 181 0), (vr 89), v0, (vr 90), (vr 91), (vr 92), (vi 332 0), (vi 81 0), (vs "/claim/cut.py" 333)]) #[]
noncomputable def o134 : O := fun P => om "function" (Data.func (fnD (stIn 9 1) (sf "Whitespace.__init__") 3 [] v0 v0 v0 (vs "cpy313.tabnanny" 301) none (vr 93) v0 0)) #[]
noncomputable def o135 : O := fun P => om "tuple" (Data.seq #[] 0) #[]
noncomputable def o136 : O := fun P => Obj.mk v0 none (Data.fields #[]) #[]
noncomputable def o137 : O := fun P => om "tuple" (Data.seq #[(vs "self" 338)] 0) #[]
noncomputable def o138 : O := fun P => om "tuple" (Data.seq #[] 0) #[]
noncomputable def o139 : O := fun P => Obj.mk v0 none (Data.func (fnD (stIn 9 2) (sf "Whitespace.longest_run_of_spaces") 0 [] v0 v0 v0 v0 none v0 v0 0)) #[]
noncomputable def o140 : O := fun P => om "code" (Data.fields #[(vs "longest_run_of_spaces" 335), (vs "Whitespace.longest_run_of_spaces" 336), (vs "/claim/cut.py" 337), (vi 104 0), (vi 1 0), (vi 0 0), (vi 0 0), (vi 3 0), (vr 95), (Value.bool true), (vi 181 0), (vr 96), v0, (vr 97), (vr 98), (vr 99), (vi 339 0), (vi 104 0), (vs "/claim/cut.py" 340)]) #[]
noncomputable def o141 : O := fun P => om "function" (Data.func (fnD (stIn 9 2) (sf "Whitespace.longest_run_of_spaces") 3 [] v0 v0 v0 (vs "cpy313.tabnanny" 301) none (vr 100) v0 0)) #[]
noncomputable def o142 : O := fun P => om "tuple" (Data.seq #[] 0) #[]
noncomputable def o143 : O := fun P => Obj.mk v0 none (Data.fields #[]) #[]
noncomputable def o144 : O := fun P => om "tuple" (Data.seq #[(vs "self" 345), (vs "tabsize" 346), (vs "count" 347), (vs "trailing" 348), (vs "il" 349), (vs "i" 350)] 0) #[]
noncomputable def o145 : O := fun P => om "tuple" (Data.seq #[] 0) #[]
noncomputable def o146 : O := fun P => Obj.mk v0 none (Data.func (fnD (stIn 9 3) (sf "Whitespace.indent_level") 0 [] v0 v0 v0 v0 none v0 v0 0)) #[]
noncomputable def o147 : O := fun P => om "code" (Data.fields #[(vs "indent_level" 342), (vs "Whitespace.indent_level" 343), (vs "/claim/cut.py" 344), (vi 107 0), (vi 2 0), (vi 0 0), (vi 0 0), (vi 3 0), (vr 102), (Value.bool true), (vi 181 0), (vr 103), v0, (vr 104), (vr 105), (vr 106), (vi 351 0), (vi 107 0), (vs "/claim/cut.py" 352)]) #[]
noncomputable def o148 : O := fun P => om "function" (Data.func (fnD (stIn 9 3) (sf "Whitespace.indent_level") 3 [] v0 v0 v0 (vs "cpy313.tabnanny" 301) none (vr 107) v0 0)) #[]
noncomputable def o149 : O := fun P => om "tuple" (Data.seq #[] 0) #[]
noncomputable def o150 : O := fun P => Obj.mk v0 none (Data.fields #[]) #[]
noncomputable def o151 : O := fun P => om "tuple" (Data.seq #[(vs "self" 357), (vs "other" 358)] 0) #[]
noncomputable def o152 : O := fun P => om "tuple" (Data.seq #[] 0) #[]
noncomputable def o153 : O := fun P => Obj.mk v0 none (Data.func (fnD (stIn 9 4) (sf "Whitespace.equal") 0 [] v0 v0 v0 v0 none v0 v0 0)) #[]
noncomputable def o154 : O := fun P => om "code" (Data.fields #[(vs "equal" 354), (vs "Whitespace.equal" 355), (vs "/claim/cut.py" 356), (vi 114 0), (vi 2 0), (vi 0 0), (vi 0 0), (vi 3 0), (vr 109), (Value.bool true), (vi 181 0), (vr 110), v0, (vr 111), (vr 112), (vr 113), (vi 359 0), (vi 114 0), (vs "/claim/cut.py" 360)]) #[]
noncomputable def o155 : O := fun P => om "function" (Data.func (fnD (stIn 9 4) (sf "Whitespace.equal") 3 [] v0 v0 v0 (vs "cpy313.tabnanny" 301) none (vr 114) v0 0)) #[]
noncomputable def o156 : O := fun P => om "tuple" (Data.seq #[] 0) #[]
noncomputable def o157 : O := fun P => Obj.mk v0 none (Data.fields #[]) #[]
noncomputable def o158 : O := fun P => om "tuple" (Data.seq #[(vs "self" 365), (vs "other" 366)] 0) #[]
noncomputable def o159 : O := fun P => om "tuple" (Data.seq #[] 0) #[]
noncomputable def o160 : O := fun P => Obj.mk v0 none (Data.func (fnD (stIn 9 5) (sf "Whitespace.not_equal_witness") 0 [] v0 v0 v0 v0 none v0 v0 0)) #[]
noncomputable def o161 : O := fun P => om "code" (Data.fields #[(vs "not_equal_witness" 362), (vs "Whitespace.not_equal_witness" 363), (vs "/claim/cut.py" 364), (vi 117 0), (vi 2 0), (vi 0 0), (vi 0 0), (vi 3 0), (vr 116), (Value.bool true), (vi 181 0), (vr 117), v0, (vr 118), (vr 119), (vr 120), (vi 367 0), (vi 117 0), (vs "/claim/cut.py" 368)]) #[]
noncomputable def o162 : O := fun P => om "function" (Data.func (fnD (stIn 9 5) (sf "Whitespace.not_equal_witness") 3 [] v0 v0 v0 (vs "cpy313.tabnanny" 301) none (vr 121) v0 0)) #[]
noncomputable def o163 : O := fun P => om "tuple" (Data.seq #[] 0) #[]
noncomputable def o164 : O := fun P => Obj.mk v0 none (Data.fields #[]) #[]
noncomputable def o165 : O := fun P => om "tuple" (Data.seq #[(vs "self" 373), (vs "other" 374)] 0) #[]
noncomputable def o166 : O := fun P => om "tuple" (Data.seq #[] 0) #[]
noncomputable def o167 : O := fun P => Obj.mk v0 none (Data.func (fnD (stIn 9 6) (sf "Whitespace.less") 0 [] v0 v0 v0 v0 none v0 v0 0)) #[]
noncomputable def o168 : O := fun P => om "code" (Data.fields #[(vs "less" 370), (vs "Whitespace.less" 371), (vs "/claim/cut.py" 372), (vi 120 0), (vi 2 0), (vi 0 0), (vi 0 0), (vi 3 0), (vr 123), (Value.bool true), (vi 181 0), (vr 124), v0, (vr 125), (vr 126), (vr 127), (vi 375 0), (vi 120 0), (vs "/claim/cut.py" 376)]) #[]
noncomputable def o169 : O := fun P => om "function" (Data.func (fnD (stIn 9 6) (sf "Whitespace.less") 3 [] v0 v0 v0 (vs "cpy313.tabnanny" 301) none (vr 128) v0 0)) #[]
noncomputable def o170 : O := fun P => om "tuple" (Data.seq #[] 0) #[]
noncomputable def o171 : O := fun P => Obj.mk v0 none (Data.fields #[]) #[]
noncomputable def o172 : O := fun P => om "tuple" (Data.seq #[(vs "self" 381), (vs "other" 382)] 0) #[]
noncomputable def o173 : O := fun P => om "tuple" (Data.seq #[] 0) #[]
noncomputable def o174 : O := fun P => Obj.mk v0 none (Data.func (fnD (stIn 9 7) (sf "Whitespace.not_less_witness") 0 [] v0 v0 v0 v0 none v0 v0 0)) #[]
noncomputable def o175 : O := fun P => om "code" (Data.fields #[(vs "not_less_witness" 378), (vs "Whitespace.not_less_witness" 379), (vs "/claim/cut.py" 380), (vi 123 0), (vi 2 0), (vi 0 0), (vi 0 0), (vi 3 0), (vr 130), (Value.bool true), (vi 181 0), (vr 131), v0, (vr 132), (vr 133), (vr 134), (vi 383 0), (vi 123 0), (vs "/claim/cut.py" 384)]) #[]
noncomputable def o176 : O := fun P => om "function" (Data.func (fnD (stIn 9 7) (sf "Whitespace.not_less_witness") 3 [] v0 v0 v0 (vs "cpy313.tabnanny" 301) none (vr 135) v0 0)) #[]
noncomputable def o177 : O := fun P => om "tuple" (Data.seq #[(vs "is_simple" 386), (vs "n" 387), (vs "norm" 388), (vs "nt" 389), (vs "raw" 390)] 0) #[]
noncomputable def o178 : O := fun P => om "dict" (Data.dict #[(de P "__module__" 310 (vs "cpy313.tabnanny" 301)), (de P "__firstlineno__" 314 (vi 78 313)), (de P "S" 318 (vs " " 316)), (de P "T" 319 (vs "\t" 317)), (de P "__init__" 334 (vr 94)), (de P "longest_run_of_spaces" 341 (vr 101)), (de P "indent_level" 353 (vr 108)), (de P "equal" 361 (vr 115)), (de P "not_equal_witness" 369 (vr 122)), (de P "less" 377 (vr 129)), (de P "not_less_witness" 385 (vr 136)), (de P "__static_attributes__" 391 (vr 137)), (de P "__dict__" 393 (vr 140)), (de P "__weakref__" 395 (vr 141)), (de P "__doc__" 396 v0)] 4) #[]
noncomputable def o179 : O := fun P => om "type" (Data.cls (ClassData.mk (sf "Whitespace") [(Value.type "object")] [(vr 139), (Value.type "object")] 138 (sf "Whitespace") true [] [] false none false)) #[none, none, (some (vs "Whitespace" 303)), (some (vs "Whitespace" 311)), (some (Value.builtin "object.__new__")), (some (Value.bool true))]
noncomputable def o180 : O := fun P => om "getset_descriptor" (Data.fields #[(vs "__dict__" 392), (vr 139), (Value.builtin "function.__dict__"), (Value.builtin "function.__dict__#set")]) #[]
noncomputable def o181 : O := fun P => om "getset_descriptor" (Data.fields #[(vs "__weakref__" 394), (vr 139), (Value.builtin "ExceptionGroup.__weakref__"), v0]) #[]
noncomputable def o182 : O := fun P => om "super" (Data.fields #[(vr 139), (vr 139), (vr 139)]) #[]
noncomputable def o183 : O := fun P => om "builtin_function_or_method" (Data.fields #[(Value.builtin "object.__init_subclass__"), (vr 139)]) #[]
noncomputable def o186 : O := fun P => om "dict" (Data.dict #[(de P "__name__" 165 (vs "law_pg0229_01" 399)), (de P "__doc__" 166 v0), (de P "__package__" 167 v0), (de P "__loader__" 168 (Value.builtin "__main__.__loader__#opaque")), (de P "__spec__" 169 v0), (de P "__annotations__" 170 (vr 6)), (de P "__builtins__" 171 (vr 4)), (de P "__file__" 173 (vs "/claim/cut.py" 172)), (de P "__cached__" 174 v0), (de P "_wall" 193 (vr 21)), (de P "TupleComp" 237 (vr 45)), (de P "add_func_stats" 255 (vr 56)), (de P "add_callers" 266 (vr 63)), (de P "rgb_to_hsv" 286 (vr 70)), (de P "hsv_to_rgb" 300 (vr 77)), (de P "Whitespace" 398 (vr 139)), (de P "_law_hues" 413 (vr 150)), (de P "_law_rooms" 419 (vr 155)), (de P "_law_told" 425 (vr 160)), (de P "_law_sums" 436 (vr 167)), (de P "law" 442 (vr 172))] 21) #[]
noncomputable def o187 : O := fun P => Obj.mk v0 none (Data.fields #[(vi 1 0), (vi 0 0), (vr 20), (vi 5 0), (vi 0 0), (vr 27), (vi 19 0), (vi 0 0), (vr 55), (vi 23 0), (vi 0 0), (vr 62), (vi 37 0), (vi 0 0), (vr 69), (vi 56 0), (vi 0 0), (vr 76), (vi 78 0), (vi 0 0), (vr 83), (vi 126 0), (vi 0 0), (vr 149), (vi 132 0), (vi 0 0), (vr 154), (vi 134 0), (vi 0 0), (vr 159), (vi 137 0), (vi 0 0), (vr 166), (vi 143 0), (vi 0 0), (vr 171)]) #[]
noncomputable def o188 : O := fun P => om "tuple" (Data.seq #[] 0) #[]
noncomputable def o189 : O := fun P => Obj.mk v0 none (Data.fields #[]) #[]
noncomputable def o190 : O := fun P => om "tuple" (Data.seq #[(vs "size" 404), (vs "stops" 405), (vs "rows" 406), (vs "k" 407), (vs "r" 408), (vs "g" 409), (vs "b" 410)] 0) #[]
noncomputable def o191 : O := fun P => om "tuple" (Data.seq #[] 0) #[]
noncomputable def o192 : O := fun P => Obj.mk v0 none (Data.func (fnD (stTop 11) (sf "_law_hues") 0 [] v0 v0 v0 v0 none v0 v0 0)) #[]
noncomputable def o193 : O := fun P => om "code" (Data.fields #[(vs "_law_hues" 401), (vs "_law_hues" 402), (vs "/claim/cut.py" 403), (vi 126 0), (vi 2 0), (vi 0 0), (vi 0 0), (vi 3 0), (vr 144), (Value.bool true), (vi 181 0), (vr 145), v0, (vr 146), (vr 147), (vr 148), (vi 411 0), (vi 126 0), (vs "/claim/cut.py" 412)]) #[]
noncomputable def o194 : O := fun P => om "function" (Data.func (fnD (stTop 11) (sf "_law_hues") 3 [] v0 v0 v0 (vs "law_pg0229_01" 399) none (vr 149) v0 0)) #[]
noncomputable def o195 : O := fun P => om "tuple" (Data.seq #[] 0) #[]
noncomputable def o196 : O := fun P => Obj.mk v0 none (Data.fields #[]) #[]
noncomputable def o197 : O := fun P => Obj.mk v0 none (Data.func (fnD (stTop 12) (sf "_law_rooms") 0 [] v0 v0 v0 v0 none v0 v0 0)) #[]
noncomputable def o198 : O := fun P => om "code" (Data.fields #[(vs "_law_rooms" 414), (vs "_law_rooms" 415), (vs "/claim/cut.py" 416), (vi 132 0), (vi 2 0), (vi 0 0), (vi 0 0), (vi 3 0), (vr 151), (Value.bool true), (vi 181 0), (vr 152), v0, v0, v0, (vr 153), (vi 417 0), (vi 132 0), (vs "/claim/cut.py" 418)]) #[]
noncomputable def o199 : O := fun P => om "function" (Data.func (fnD (stTop 12) (sf "_law_rooms") 3 [] v0 v0 v0 (vs "law_pg0229_01" 399) none (vr 154) v0 0)) #[]
noncomputable def o200 : O := fun P => om "tuple" (Data.seq #[] 0) #[]
noncomputable def o201 : O := fun P => Obj.mk v0 none (Data.fields #[]) #[]
noncomputable def o202 : O := fun P => Obj.mk v0 none (Data.func (fnD (stTop 13) (sf "_law_told") 0 [] v0 v0 v0 v0 none v0 v0 0)) #[]
noncomputable def o203 : O := fun P => om "code" (Data.fields #[(vs "_law_told" 420), (vs "_law_told" 421), (vs "/claim/cut.py" 422), (vi 134 0), (vi 2 0), (vi 0 0), (vi 0 0), (vi 3 0), (vr 156), (Value.bool true), (vi 181 0), (vr 157), v0, v0, v0, (vr 158), (vi 423 0), (vi 134 0), (vs "/claim/cut.py" 424)]) #[]
noncomputable def o204 : O := fun P => om "function" (Data.func (fnD (stTop 13) (sf "_law_told") 3 [] v0 v0 v0 (vs "law_pg0229_01" 399) none (vr 159) v0 0)) #[]
noncomputable def o205 : O := fun P => om "tuple" (Data.seq #[] 0) #[]
noncomputable def o206 : O := fun P => Obj.mk v0 none (Data.fields #[]) #[]
noncomputable def o207 : O := fun P => om "tuple" (Data.seq #[(vs "rests" 429), (vs "many" 430), (vs "total" 431), (vs "k" 432), (vs "rest" 433)] 0) #[]
noncomputable def o208 : O := fun P => om "tuple" (Data.seq #[] 0) #[]
noncomputable def o209 : O := fun P => Obj.mk v0 none (Data.func (fnD (stTop 14) (sf "_law_sums") 0 [] v0 v0 v0 v0 none v0 v0 0)) #[]
noncomputable def o210 : O := fun P => om "code" (Data.fields #[(vs "_law_sums" 426), (vs "_law_sums" 427), (vs "/claim/cut.py" 428), (vi 137 0), (vi 2 0), (vi 0 0), (vi 0 0), (vi 3 0), (vr 161), (Value.bool true), (vi 181 0), (vr 162), v0, (vr 163), (vr 164), (vr 165), (vi 434 0), (vi 137 0), (vs "/claim/cut.py" 435)]) #[]
noncomputable def o211 : O := fun P => om "function" (Data.func (fnD (stTop 14) (sf "_law_sums") 3 [] v0 v0 v0 (vs "law_pg0229_01" 399) none (vr 166) v0 0)) #[]
noncomputable def o212 : O := fun P => om "tuple" (Data.seq #[] 0) #[]
noncomputable def o213 : O := fun P => Obj.mk v0 none (Data.fields #[]) #[]
noncomputable def o214 : O := fun P => Obj.mk v0 none (Data.func (fnD (stTop 15) (sf "law") 0 [] v0 v0 v0 v0 none v0 v0 0)) #[]
noncomputable def o215 : O := fun P => om "code" (Data.fields #[(vs "law" 437), (vs "law" 438), (vs "/claim/cut.py" 439), (vi 143 0), (vi 1 0), (vi 0 0), (vi 0 0), (vi 3 0), (vr 168), (Value.bool true), (vi 181 0), (vr 169), v0, v0, v0, (vr 170), (vi 440 0), (vi 143 0), (vs "/claim/cut.py" 441)]) #[]
noncomputable def o216 : O := fun P => om "function" (Data.func (fnD (stTop 15) (sf "law") 3 [] v0 v0 v0 (vs "law_pg0229_01" 399) none (vr 171) v0 0)) #[]
noncomputable def t47 : Params → BT := fun P => nd (boot_o_0 P) (nd (boot_o_1 P) (nd (boot_o_3 P) (nd (boot_o_7 P) W.BT.nil W.BT.nil) (nd (o43 P) W.BT.nil W.BT.nil)) (nd (boot_o_5 P) (nd (boot_o_9 P) W.BT.nil W.BT.nil) (nd (o45 P) W.BT.nil W.BT.nil))) (nd (boot_o_2 P) (nd (boot_o_4 P) (nd (boot_o_8 P) W.BT.nil W.BT.nil) (nd (o44 P) W.BT.nil W.BT.nil)) (nd (boot_o_6 P) (nd (boot_o_10 P) W.BT.nil W.BT.nil) (nd (o46 P) W.BT.nil W.BT.nil)))
noncomputable def t99 : Params → BT := fun P => nd (boot_o_0 P) (nd (boot_o_1 P) (nd (o49 P) (nd (boot_o_7 P) (nd (o51 P) (nd (o67 P) (nd (o99 P) W.BT.nil W.BT.nil) W.BT.nil) (nd (o83 P) W.BT.nil W.BT.nil)) (nd (o59 P) (nd (o75 P) W.BT.nil W.BT.nil) (nd (o91 P) W.BT.nil W.BT.nil))) (nd (o43 P) (nd (o55 P) (nd (o71 P) W.BT.nil W.BT.nil) (nd (o87 P) W.BT.nil W.BT.nil)) (nd (o63 P) (nd (o79 P) W.BT.nil W.BT.nil) (nd (o95 P) W.BT.nil W.BT.nil)))) (nd (boot_o_5 P) (nd (boot_o_9 P) (nd (o53 P) (nd (o69 P) W.BT.nil W.BT.nil) (nd (o85 P) W.BT.nil W.BT.nil)) (nd (o61 P) (nd (o77 P) W.BT.nil W.BT.nil) (nd (o93 P) W.BT.nil W.BT.nil))) (nd (o45 P) (nd (o57 P) (nd (o73 P) W.BT.nil W.BT.nil) (nd (o89 P) W.BT.nil W.BT.nil)) (nd (o65 P) (nd (o81 P) W.BT.nil W.BT.nil) (nd (o97 P) W.BT.nil W.BT.nil))))) (nd (boot_o_2 P) (nd (boot_o_4 P) (nd (boot_o_8 P) (nd (o52 P) (nd (o68 P) W.BT.nil W.BT.nil) (nd (o84 P) W.BT.nil W.BT.nil)) (nd (o60 P) (nd (o76 P) W.BT.nil W.BT.nil) (nd (o92 P) W.BT.nil W.BT.nil))) (nd (o50 P) (nd (o56 P) (nd (o72 P) W.BT.nil W.BT.nil) (nd (o88 P) W.BT.nil W.BT.nil)) (nd (o64 P) (nd (o80 P) W.BT.nil W.BT.nil) (nd (o96 P) W.BT.nil W.BT.nil)))) (nd (boot_o_6 P) (nd (boot_o_10 P) (nd (o54 P) (nd (o70 P) W.BT.nil W.BT.nil) (nd (o86 P) W.BT.nil W.BT.nil)) (nd (o62 P) (nd (o78 P) W.BT.nil W.BT.nil) (nd (o94 P) W.BT.nil W.BT.nil))) (nd (o46 P) (nd (o58 P) (nd (o74 P) W.BT.nil W.BT.nil) (nd (o90 P) W.BT.nil W.BT.nil)) (nd (o66 P) (nd (o82 P) W.BT.nil W.BT.nil) (nd (o98 P) W.BT.nil W.BT.nil)))))
noncomputable def t115 : Params → BT := fun P => nd (boot_o_0 P) (nd (boot_o_1 P) (nd (o100 P) (nd (boot_o_7 P) (nd (o51 P) (nd (o67 P) (nd (o99 P) W.BT.nil W.BT.nil) W.BT.nil) (nd (o83 P) W.BT.nil W.BT.nil)) (nd (o59 P) (nd (o75 P) (nd (o109 P) W.BT.nil W.BT.nil) W.BT.nil) (nd (o91 P) W.BT.nil W.BT.nil))) (nd (o43 P) (nd (o55 P) (nd (o71 P) (nd (o105 P) W.BT.nil W.BT.nil) W.BT.nil) (nd (o87 P) W.BT.nil W.BT.nil)) (nd (o63 P) (nd (o79 P) (nd (o113 P) W.BT.nil W.BT.nil) W.BT.nil) (nd (o95 P) W.BT.nil W.BT.nil)))) (nd (boot_o_5 P) (nd (boot_o_9 P) (nd (o53 P) (nd (o69 P) (nd (o103 P) W.BT.nil W.BT.nil) W.BT.nil) (nd (o85 P) W.BT.nil W.BT.nil)) (nd (o61 P) (nd (o77 P) (nd (o111 P) W.BT.nil W.BT.nil) W.BT.nil) (nd (o93 P) W.BT.nil W.BT.nil))) (nd (o45 P) (nd (o57 P) (nd (o73 P) (nd (o107 P) W.BT.nil W.BT.nil) W.BT.nil) (nd (o89 P) W.BT.nil W.BT.nil)) (nd (o65 P) (nd (o81 P) (nd (o115 P) W.BT.nil W.BT.nil) W.BT.nil) (nd (o97 P) W.BT.nil W.BT.nil))))) (nd (boot_o_2 P) (nd (boot_o_4 P) (nd (boot_o_8 P) (nd (o52 P) (nd (o68 P) (nd (o102 P) W.BT.nil W.BT.nil) W.BT.nil) (nd (o84 P) W.BT.nil W.BT.nil)) (nd (o60 P) (nd (o76 P) (nd (o110 P) W.BT.nil W.BT.nil) W.BT.nil) (nd (o92 P) W.BT.nil W.BT.nil))) (nd (o101 P) (nd (o56 P) (nd (o72 P) (nd (o106 P) W.BT.nil W.BT.nil) W.BT.nil) (nd (o88 P) W.BT.nil W.BT.nil)) (nd (o64 P) (nd (o80 P) (nd (o114 P) W.BT.nil W.BT.nil) W.BT.nil) (nd (o96 P) W.BT.nil W.BT.nil)))) (nd (boot_o_6 P) (nd (boot_o_10 P) (nd (o54 P) (nd (o70 P) (nd (o104 P) W.BT.nil W.BT.nil) W.BT.nil) (nd (o86 P) W.BT.nil W.BT.nil)) (nd (o62 P) (nd (o78 P) (nd (o112 P) W.BT.nil W.BT.nil) W.BT.nil) (nd (o94 P) W.BT.nil W.BT.nil))) (nd (o46 P) (nd (o58 P) (nd (o74 P) (nd (o108 P) W.BT.nil W.BT.nil) W.BT.nil) (nd (o90 P) W.BT.nil W.BT.nil)) (nd (o66 P) (nd (o82 P) W.BT.nil W.BT.nil) (nd (o98 P) W.BT.nil W.BT.nil)))))
noncomputable def t183 : Params → BT := fun P => nd (boot_o_0 P) (nd (boot_o_1 P) (nd (o116 P) (nd (boot_o_7 P) (nd (o51 P) (nd (o67 P) (nd (o99 P) (nd (o167 P) W.BT.nil W.BT.nil) W.BT.nil) (nd (o135 P) W.BT.nil W.BT.nil)) (nd (o83 P) (nd (o119 P) (nd (o183 P) W.BT.nil W.BT.nil) W.BT.nil) (nd (o151 P) W.BT.nil W.BT.nil))) (nd (o59 P) (nd (o75 P) (nd (o109 P) (nd (o175 P) W.BT.nil W.BT.nil) W.BT.nil) (nd (o143 P) W.BT.nil W.BT.nil)) (nd (o91 P) (nd (o127 P) W.BT.nil W.BT.nil) (nd (o159 P) W.BT.nil W.BT.nil)))) (nd (o43 P) (nd (o55 P) (nd (o71 P) (nd (o105 P) (nd (o171 P) W.BT.nil W.BT.nil) W.BT.nil) (nd (o139 P) W.BT.nil W.BT.nil)) (nd (o87 P) (nd (o123 P) W.BT.nil W.BT.nil) (nd (o155 P) W.BT.nil W.BT.nil))) (nd (o63 P) (nd (o79 P) (nd (o113 P) (nd (o179 P) W.BT.nil W.BT.nil) W.BT.nil) (nd (o147 P) W.BT.nil W.BT.nil)) (nd (o95 P) (nd (o131 P) W.BT.nil W.BT.nil) (nd (o163 P) W.BT.nil W.BT.nil))))) (nd (boot_o_5 P) (nd (boot_o_9 P) (nd (o53 P) (nd (o69 P) (nd (o103 P) (nd (o169 P) W.BT.nil W.BT.nil) W.BT.nil) (nd (o137 P) W.BT.nil W.BT.nil)) (nd (o85 P) (nd (o121 P) W.BT.nil W.BT.nil) (nd (o153 P) W.BT.nil W.BT.nil))) (nd (o61 P) (nd (o77 P) (nd (o111 P) (nd (o177 P) W.BT.nil W.BT.nil) W.BT.nil) (nd (o145 P) W.BT.nil W.BT.nil)) (nd (o93 P) (nd (o129 P) W.BT.nil W.BT.nil) (nd (o161 P) W.BT.nil W.BT.nil)))) (nd (o45 P) (nd (o57 P) (nd (o73 P) (nd (o107 P) (nd (o173 P) W.BT.nil W.BT.nil) W.BT.nil) (nd (o141 P) W.BT.nil W.BT.nil)) (nd (o89 P) (nd (o125 P) W.BT.nil W.BT.nil) (nd (o157 P) W.BT.nil W.BT.nil))) (nd (o65 P) (nd (o81 P) (nd (o115 P) (nd (o181 P) W.BT.nil W.BT.nil) W.BT.nil) (nd (o149 P) W.BT.nil W.BT.nil)) (nd (o97 P) (nd (o133 P) W.BT.nil W.BT.nil) (nd (o165 P) W.BT.nil W.BT.nil)))))) (nd (boot_o_2 P) (nd (boot_o_4 P) (nd (boot_o_8 P) (nd (o52 P) (nd (o68 P) (nd (o102 P) (nd (o168 P) W.BT.nil W.BT.nil) W.BT.nil) (nd (o136 P) W.BT.nil W.BT.nil)) (nd (o84 P) (nd (o120 P) W.BT.nil W.BT.nil) (nd (o152 P) W.BT.nil W.BT.nil))) (nd (o60 P) (nd (o76 P) (nd (o110 P) (nd (o176 P) W.BT.nil W.BT.nil) W.BT.nil) (nd (o144 P) W.BT.nil W.BT.nil)) (nd (o92 P) (nd (o128 P) W.BT.nil W.BT.nil) (nd (o160 P) W.BT.nil W.BT.nil)))) (nd (o117 P) (nd (o56 P) (nd (o72 P) (nd (o106 P) (nd (o172 P) W.BT.nil W.BT.nil) W.BT.nil) (nd (o140 P) W.BT.nil W.BT.nil)) (nd (o88 P) (nd (o124 P) W.BT.nil W.BT.nil) (nd (o156 P) W.BT.nil W.BT.nil))) (nd (o64 P) (nd (o80 P) (nd (o114 P) (nd (o180 P) W.BT.nil W.BT.nil) W.BT.nil) (nd (o148 P) W.BT.nil W.BT.nil)) (nd (o96 P) (nd (o132 P) W.BT.nil W.BT.nil) (nd (o164 P) W.BT.nil W.BT.nil))))) (nd (boot_o_6 P) (nd (boot_o_10 P) (nd (o54 P) (nd (o70 P) (nd (o104 P) (nd (o170 P) W.BT.nil W.BT.nil) W.BT.nil) (nd (o138 P) W.BT.nil W.BT.nil)) (nd (o86 P) (nd (o122 P) W.BT.nil W.BT.nil) (nd (o154 P) W.BT.nil W.BT.nil))) (nd (o62 P) (nd (o78 P) (nd (o112 P) (nd (o178 P) W.BT.nil W.BT.nil) W.BT.nil) (nd (o146 P) W.BT.nil W.BT.nil)) (nd (o94 P) (nd (o130 P) W.BT.nil W.BT.nil) (nd (o162 P) W.BT.nil W.BT.nil)))) (nd (o46 P) (nd (o58 P) (nd (o74 P) (nd (o108 P) (nd (o174 P) W.BT.nil W.BT.nil) W.BT.nil) (nd (o142 P) W.BT.nil W.BT.nil)) (nd (o90 P) (nd (o126 P) W.BT.nil W.BT.nil) (nd (o158 P) W.BT.nil W.BT.nil))) (nd (o66 P) (nd (o82 P) (nd (o118 P) (nd (o182 P) W.BT.nil W.BT.nil) W.BT.nil) (nd (o150 P) W.BT.nil W.BT.nil)) (nd (o98 P) (nd (o134 P) W.BT.nil W.BT.nil) (nd (o166 P) W.BT.nil W.BT.nil))))))
noncomputable def t216 : Params → BT := fun P => nd (boot_o_0 P) (nd (boot_o_1 P) (nd (o186 P) (nd (boot_o_7 P) (nd (o51 P) (nd (o67 P) (nd (o99 P) (nd (o167 P) W.BT.nil W.BT.nil) W.BT.nil) (nd (o135 P) (nd (o203 P) W.BT.nil W.BT.nil) W.BT.nil)) (nd (o83 P) (nd (o119 P) (nd (o183 P) W.BT.nil W.BT.nil) W.BT.nil) (nd (o151 P) W.BT.nil W.BT.nil))) (nd (o59 P) (nd (o75 P) (nd (o109 P) (nd (o175 P) W.BT.nil W.BT.nil) W.BT.nil) (nd (o143 P) (nd (o211 P) W.BT.nil W.BT.nil) W.BT.nil)) (nd (o91 P) (nd (o127 P) (nd (o195 P) W.BT.nil W.BT.nil) W.BT.nil) (nd (o159 P) W.BT.nil W.BT.nil)))) (nd (o43 P) (nd (o55 P) (nd (o71 P) (nd (o105 P) (nd (o171 P) W.BT.nil W.BT.nil) W.BT.nil) (nd (o139 P) (nd (o207 P) W.BT.nil W.BT.nil) W.BT.nil)) (nd (o87 P) (nd (o123 P) (nd (o191 P) W.BT.nil W.BT.nil) W.BT.nil) (nd (o155 P) W.BT.nil W.BT.nil))) (nd (o63 P) (nd (o79 P) (nd (o113 P) (nd (o179 P) W.BT.nil W.BT.nil) W.BT.nil) (nd (o147 P) (nd (o215 P) W.BT.nil W.BT.nil) W.BT.nil)) (nd (o95 P) (nd (o131 P) (nd (o199 P) W.BT.nil W.BT.nil) W.BT.nil) (nd (o163 P) W.BT.nil W.BT.nil))))) (nd (boot_o_5 P) (nd (boot_o_9 P) (nd (o53 P) (nd (o69 P) (nd (o103 P) (nd (o169 P) W.BT.nil W.BT.nil) W.BT.nil) (nd (o137 P) (nd (o205 P) W.BT.nil W.BT.nil) W.BT.nil)) (nd (o85 P) (nd (o121 P) (nd (o189 P) W.BT.nil W.BT.nil) W.BT.nil) (nd (o153 P) W.BT.nil W.BT.nil))) (nd (o61 P) (nd (o77 P) (nd (o111 P) (nd (o177 P) W.BT.nil W.BT.nil) W.BT.nil) (nd (o145 P) (nd (o213 P) W.BT.nil W.BT.nil) W.BT.nil)) (nd (o93 P) (nd (o129 P) (nd (o197 P) W.BT.nil W.BT.nil) W.BT.nil) (nd (o161 P) W.BT.nil W.BT.nil)))) (nd (o45 P) (nd (o57 P) (nd (o73 P) (nd (o107 P) (nd (o173 P) W.BT.nil W.BT.nil) W.BT.nil) (nd (o141 P) (nd (o209 P) W.BT.nil W.BT.nil) W.BT.nil)) (nd (o89 P) (nd (o125 P) (nd (o193 P) W.BT.nil W.BT.nil) W.BT.nil) (nd (o157 P) W.BT.nil W.BT.nil))) (nd (o65 P) (nd (o81 P) (nd (o115 P) (nd (o181 P) W.BT.nil W.BT.nil) W.BT.nil) (nd (o149 P) W.BT.nil W.BT.nil)) (nd (o97 P) (nd (o133 P) (nd (o201 P) W.BT.nil W.BT.nil) W.BT.nil) (nd (o165 P) W.BT.nil W.BT.nil)))))) (nd (boot_o_2 P) (nd (boot_o_4 P) (nd (boot_o_8 P) (nd (o52 P) (nd (o68 P) (nd (o102 P) (nd (o168 P) W.BT.nil W.BT.nil) W.BT.nil) (nd (o136 P) (nd (o204 P) W.BT.nil W.BT.nil) W.BT.nil)) (nd (o84 P) (nd (o120 P) (nd (o188 P) W.BT.nil W.BT.nil) W.BT.nil) (nd (o152 P) W.BT.nil W.BT.nil))) (nd (o60 P) (nd (o76 P) (nd (o110 P) (nd (o176 P) W.BT.nil W.BT.nil) W.BT.nil) (nd (o144 P) (nd (o212 P) W.BT.nil W.BT.nil) W.BT.nil)) (nd (o92 P) (nd (o128 P) (nd (o196 P) W.BT.nil W.BT.nil) W.BT.nil) (nd (o160 P) W.BT.nil W.BT.nil)))) (nd (o187 P) (nd (o56 P) (nd (o72 P) (nd (o106 P) (nd (o172 P) W.BT.nil W.BT.nil) W.BT.nil) (nd (o140 P) (nd (o208 P) W.BT.nil W.BT.nil) W.BT.nil)) (nd (o88 P) (nd (o124 P) (nd (o192 P) W.BT.nil W.BT.nil) W.BT.nil) (nd (o156 P) W.BT.nil W.BT.nil))) (nd (o64 P) (nd (o80 P) (nd (o114 P) (nd (o180 P) W.BT.nil W.BT.nil) W.BT.nil) (nd (o148 P) (nd (o216 P) W.BT.nil W.BT.nil) W.BT.nil)) (nd (o96 P) (nd (o132 P) (nd (o200 P) W.BT.nil W.BT.nil) W.BT.nil) (nd (o164 P) W.BT.nil W.BT.nil))))) (nd (boot_o_6 P) (nd (boot_o_10 P) (nd (o54 P) (nd (o70 P) (nd (o104 P) (nd (o170 P) W.BT.nil W.BT.nil) W.BT.nil) (nd (o138 P) (nd (o206 P) W.BT.nil W.BT.nil) W.BT.nil)) (nd (o86 P) (nd (o122 P) (nd (o190 P) W.BT.nil W.BT.nil) W.BT.nil) (nd (o154 P) W.BT.nil W.BT.nil))) (nd (o62 P) (nd (o78 P) (nd (o112 P) (nd (o178 P) W.BT.nil W.BT.nil) W.BT.nil) (nd (o146 P) (nd (o214 P) W.BT.nil W.BT.nil) W.BT.nil)) (nd (o94 P) (nd (o130 P) (nd (o198 P) W.BT.nil W.BT.nil) W.BT.nil) (nd (o162 P) W.BT.nil W.BT.nil)))) (nd (o46 P) (nd (o58 P) (nd (o74 P) (nd (o108 P) (nd (o174 P) W.BT.nil W.BT.nil) W.BT.nil) (nd (o142 P) (nd (o210 P) W.BT.nil W.BT.nil) W.BT.nil)) (nd (o90 P) (nd (o126 P) (nd (o194 P) W.BT.nil W.BT.nil) W.BT.nil) (nd (o158 P) W.BT.nil W.BT.nil))) (nd (o66 P) (nd (o82 P) (nd (o118 P) (nd (o182 P) W.BT.nil W.BT.nil) W.BT.nil) (nd (o150 P) W.BT.nil W.BT.nil)) (nd (o98 P) (nd (o134 P) (nd (o202 P) W.BT.nil W.BT.nil) W.BT.nil) (nd (o166 P) W.BT.nil W.BT.nil))))))
noncomputable def h46 : Params → Heap := fun P => Heap.mk (Array.mk [(boot_o_0 P), (boot_o_1 P), (boot_o_2 P), (boot_o_3 P), (boot_o_4 P), (boot_o_5 P), (boot_o_6 P), (boot_o_7 P), (boot_o_8 P), (boot_o_9 P), (boot_o_10 P), (o43 P), (o44 P), (o45 P), (o46 P)]) (Life.mk [] [] [] 0 [] [] false #[] [] 0 false false false 0 [2000, 10, 10] false 0 true [] [] 0 false)
noncomputable def h217 : Params → Heap := fun P => Heap.mk (Array.mk [(boot_o_0 P), (boot_o_1 P), (boot_o_2 P), (o186 P), (boot_o_4 P), (boot_o_5 P), (boot_o_6 P), (boot_o_7 P), (boot_o_8 P), (boot_o_9 P), (boot_o_10 P), (o43 P), (o187 P), (o45 P), (o46 P), (o51 P), (o52 P), (o53 P), (o54 P), (o55 P), (o56 P), (o57 P), (o58 P), (o59 P), (o60 P), (o61 P), (o62 P), (o63 P), (o64 P), (o65 P), (o66 P), (o67 P), (o68 P), (o69 P), (o70 P), (o71 P), (o72 P), (o73 P), (o74 P), (o75 P), (o76 P), (o77 P), (o78 P), (o79 P), (o80 P), (o81 P), (o82 P), (o83 P), (o84 P), (o85 P), (o86 P), (o87 P), (o88 P), (o89 P), (o90 P), (o91 P), (o92 P), (o93 P), (o94 P), (o95 P), (o96 P), (o97 P), (o98 P), (o99 P), (o102 P), (o103 P), (o104 P), (o105 P), (o106 P), (o107 P), (o108 P), (o109 P), (o110 P), (o111 P), (o112 P), (o113 P), (o114 P), (o115 P), (o118 P), (o119 P), (o120 P), (o121 P), (o122 P), (o123 P), (o124 P), (o125 P), (o126 P), (o127 P), (o128 P), (o129 P), (o130 P), (o131 P), (o132 P), (o133 P), (o134 P), (o135 P), (o136 P), (o137 P), (o138 P), (o139 P), (o140 P), (o141 P), (o142 P), (o143 P), (o144 P), (o145 P), (o146 P), (o147 P), (o148 P), (o149 P), (o150 P), (o151 P), (o152 P), (o153 P), (o154 P), (o155 P), (o156 P), (o157 P), (o158 P), (o159 P), (o160 P), (o161 P), (o162 P), (o163 P), (o164 P), (o165 P), (o166 P), (o167 P), (o168 P), (o169 P), (o170 P), (o171 P), (o172 P), (o173 P), (o174 P), (o175 P), (o176 P), (o177 P), (o178 P), (o179 P), (o180 P), (o181 P), (o182 P), (o183 P), (o188 P), (o189 P), (o190 P), (o191 P), (o192 P), (o193 P), (o194 P), (o195 P), (o196 P), (o197 P), (o198 P), (o199 P), (o200 P), (o201 P), (o202 P), (o203 P), (o204 P), (o205 P), (o206 P), (o207 P), (o208 P), (o209 P), (o210 P), (o211 P), (o212 P), (o213 P), (o214 P), (o215 P), (o216 P)]) (Life.mk [] [] [] 0 [] [] false #[] [] 0 false false false 0 [2000, 10, 10] false 0 true [] [] 0 false)
noncomputable abbrev pP : Program := (OpenRow.toRowW (OpenLaw.row PySem.Challenge.rw_pg0229_01)).prog
noncomputable def bP : List Stmt := behindTheImports pP
noncomputable def eP : Env := { scope := pP.main.scope, locals := mainNs, globals := mainNs, cells := [], code := .ref 13, frame := some 14 }
noncomputable def cP : Code := .body bP eP
noncomputable def z0 : Pos := { line := 0, col := 0, endLine := 0, endCol := 0 }
noncomputable abbrev sT (t : Params → BT) (n k : Nat) (w : World) (os : OsState) : SharedT := ⟨t w.params, n, {}, #[], {}, k, os⟩
noncomputable abbrev sH (h : Params → Heap) (k : Nat) (w : World) (os : OsState) : Shared := ⟨h w.params, #[], {}, k, os⟩
theorem g0 (w : World) (os : OsState) : topGo treeTable pP w 11 (some (.ref 6)) 12 ⟨boot_heap w.params, #[], boot_drawn, boot_toks, os⟩ (topStub pP) = some (sH h46 187 w os, ⟨denote treeTable cP, cP, z0, [topFrame z0]⟩) := by kernel_rfl
theorem gb (w : World) (os : OsState) : segRun treeTable pP w 11 (some (.ref 6)) 1 1 (sH h46 187 w os) (blockOf bP eP cP z0 [topFrame z0]) = some (.next, (sT t47 15 187 w os).abs, cP, z0) := by kernel_rfl
theorem g1 (w : World) (os : OsState) : segRunT treeTable pP w 11 (some (.ref 6)) 1 380 (sT t47 15 187 w os) (piecesOf ((bP.drop 0).take 6) eP cP z0 [topFrame z0]) = some (.next, sT t99 64 269 w os, cP, ⟨36, 0, 36, 8⟩) := by
  first | (rw [PySem.W.Fast.te10110043849684766642, PySem.W.Fast.te14364793385576792824]; kernel_rfl) | kernel_rfl
theorem g2 (w : World) (os : OsState) : segRunT treeTable pP w 11 (some (.ref 6)) 1 86 (sT t99 64 269 w os) (piecesOf ((bP.drop 6).take 3) eP cP ⟨36, 0, 36, 8⟩ [topFrame z0]) = some (.next, sT t115 78 303 w os, cP, ⟨77, 0, 77, 8⟩) := by
  first | (rw [PySem.W.Fast.te10110043849684766642, PySem.W.Fast.te14364793385576792824]; kernel_rfl) | kernel_rfl
theorem g3f (w : World) (os : OsState) : segRunT treeTable pP (w.withFollow "special-get-raises" false) 11 (some (.ref 6)) 1 489 (sT t115 78 303 (w.withFollow "special-get-raises" false) os) (piecesOf ((bP.drop 9).take 1) eP cP ⟨77, 0, 77, 8⟩ [topFrame z0]) = some (.next, sT t183 144 399 (w.withFollow "special-get-raises" false) os, cP, ⟨78, 0, 124, 16⟩) := by
  first | (rw [PySem.W.Fast.te10110043849684766642, PySem.W.Fast.te14364793385576792824]; kernel_rfl) | kernel_rfl
theorem g3t (w : World) (os : OsState) : segRunT treeTable pP (w.withFollow "special-get-raises" true) 11 (some (.ref 6)) 1 489 (sT t115 78 303 (w.withFollow "special-get-raises" true) os) (piecesOf ((bP.drop 9).take 1) eP cP ⟨77, 0, 77, 8⟩ [topFrame z0]) = some (.next, sT t183 144 399 (w.withFollow "special-get-raises" true) os, cP, ⟨78, 0, 124, 16⟩) := by
  first | (rw [PySem.W.Fast.te10110043849684766642, PySem.W.Fast.te14364793385576792824]; kernel_rfl) | kernel_rfl
theorem g3 (w : World) (os : OsState) : segRunT treeTable pP w 11 (some (.ref 6)) 1 489 (sT t115 78 303 w os) (piecesOf ((bP.drop 9).take 1) eP cP ⟨77, 0, 77, 8⟩ [topFrame z0]) = some (.next, sT t183 144 399 w os, cP, ⟨78, 0, 124, 16⟩) :=
  byRow2 "special-get-raises" (P := fun w => segRunT treeTable pP w 11 (some (.ref 6)) 1 489 (sT t115 78 303 w os) (piecesOf ((bP.drop 9).take 1) eP cP ⟨77, 0, 77, 8⟩ [topFrame z0]) = some (.next, sT t183 144 399 w os, cP, ⟨78, 0, 124, 16⟩)) (fun w => g3f w os) (fun w => g3t w os) w
theorem g4 (w : World) (os : OsState) : segRunT treeTable pP w 11 (some (.ref 6)) 1 156 (sT t183 144 399 w os) (piecesOf ((bP.drop 10).take 6) eP cP ⟨78, 0, 124, 16⟩ [topFrame z0]) = some (.next, sT t216 173 443 w os, cP, ⟨143, 0, 167, 15⟩) := by
  first | (rw [PySem.W.Fast.te10110043849684766642, PySem.W.Fast.te14364793385576792824]; kernel_rfl) | kernel_rfl
theorem ge (w : World) (os : OsState) : topRun treeTable pP w 11 (some (.ref 6)) 2 (sT t216 173 443 w os).abs ⟨doneF .next, cP, ⟨143, 0, 167, 15⟩, [topFrame z0]⟩ = some (sH h217 443 w os) := by kernel_rfl
theorem piece_at {tb : String → Option Builtin} {p : Program} {w : World} {n₀ : Nat} {ann : Option Value} {q : Pos} {env : Env} {n N : Nat} {s s' r : Shared} {l m : List Stmt} {c : Code} {pos p' : Pos} (i : Nat) (hm : l.drop i = m)
    (h : segRun tb p w n₀ ann 1 n s (piecesOf (l.take i) env c pos [topFrame q]) = some (.next, s', c, p')) (k : topRun tb p w n₀ ann N s' (restOf m env c p' [topFrame q]) = some r) :
    topRun tb p w n₀ ann (n + N) s (restOf l env c pos [topFrame q]) = some r := by
  subst hm
  have := piece_app h k
  rwa [List.take_append_drop] at this
theorem run_top (w : World) (os : OsState) : topRun treeTable pP w 11 (some (.ref 6)) (12 + (1 + (380 + (86 + (489 + (156 + 2)))))) ⟨boot_heap w.params, #[], boot_drawn, boot_toks, os⟩ (topStub pP) = some (sH h217 443 w os) := by
  have hn : bP.drop 16 = [] := by kernel_rfl
  refine go_top (g0 w os) (piece_block (b := bP) (env := eP) (gb w os) ?_)
  show topRun treeTable pP w 11 (some (.ref 6)) _ (sT t47 15 187 w os).abs (restOf (bP.drop 0) eP cP z0 [topFrame z0]) = _
  refine piece_at 6 (by rw [List.drop_drop]) (segRun_of (g1 w os)) ?_
  refine piece_at 3 (by rw [List.drop_drop]) (segRun_of (g2 w os)) ?_
  refine piece_at 1 (by rw [List.drop_drop]) (segRun_of (g3 w os)) ?_
  refine piece_at 6 (by rw [List.drop_drop]) (segRun_of (g4 w os)) ?_
  rw [hn]
  exact piece_nil (ge w os)
theorem look_a (w : World) (os : OsState) : (staticsOk (importedModules pP.main.body) (boot_heap w.params) (h217 w.params) && namesBound pP (h217 w.params) && gensDone (sH h217 443 w os) && laidKept (boot_heap w.params) (h217 w.params)) = true := by kernel_rfl
theorem look_b (w : World) (os : OsState) : openSeen qTop [Str.ofString "Whitespace"] (importedModules pP.main.body) xTop true (sH h217 443 w os) = openGood qTop [Str.ofString "Whitespace"] := by kernel_rfl
theorem look_c (w : World) (os : OsState) : asTop.map (sH h217 443 w os).heap.get? = (kTop w.params).map fun p => some p.2 := by kernel_rfl
theorem left_top : LeftO pP qTop [Str.ofString "Whitespace"] xTop (fun s => asTop.map s.heap.get?) (fun w => (kTop w.params).map fun p => some p.2) 2340 :=
  LeftO.of_pieces (H₀ := boot_heap) (H₁ := h217) (gs₀ := #[]) (gs₁ := #[]) (d₀ := boot_drawn) (d₁ := {}) (k₀ := boot_toks) (k₁ := 443) (m₀ := 11) (ann := some (.ref 6)) (M := 12 + (1 + (380 + (86 + (489 + (156 + 2))))))
    (boot_open (p := pP) (N := 2340) (by rfl) (by decide) (fun s => by rfl)) (fun w => by kernel_rfl) (fun w os => run_top w os) (by decide)
    (fun w => funext fun os => looks_pair (look_a w os) (looks_pair (look_b w os) (look_c w os)))
end Mine
end HK1p_part
section Core1_part
open PySem PySem.W PyProof.Rows PySem.Calls
set_option Elab.async false
set_option genSizeOfSpec false
set_option genInjectivity false
set_option maxRecDepth 100000
namespace Mine
abbrev Key := Int
abbrev keyKind (prog : Program) (w : World) : PySem.KeyKind prog w Key := intKind prog w
noncomputable def clsComp : Addr := 45
noncomputable def clsWs : Addr := 139
noncomputable def flds (C : Addr) : List Str := match Nat.beq C clsComp with
  | true => [Str.ofString "comp_select_list"]
  | false => [Str.ofString "raw", Str.ofString "n", Str.ofString "nt", Str.ofString "norm", Str.ofString "is_simple"]
theorem flds_nodup (C : Addr) : (flds C).Nodup := by
  unfold flds
  cases Nat.beq C clsComp <;> decide +kernel
inductive V where
  | none
  | bool (b : Bool)
  | int (z : Int)
  | flt (f : UInt64)
  | str (s : Str)
  | tup (l : List V)
  | lst (l : List V)
  | dct (l : List (Key × V))
  | inst (c : Addr) (l : List V)
  | raw (v : Value)
abbrev Hid := Addr → Prop
inductive VR (prog : Program) (w : World) (h : Heap) (H : Hid) : V → Value → Prop
  | none : VR prog w h H .none .none
  | bool (b : Bool) : VR prog w h H (.bool b) (.bool b)
  | int (z : Int) (t : Tok) : VR prog w h H (.int z) (.int z t)
  | flt (f : UInt64) (t : Tok) : VR prog w h H (.flt f) (.float f t)
  | str (s : Str) (t : Tok) : VR prog w h H (.str s) (.str s t)
  | raw (v : Value) : VR prog w h H (.raw v) v
  | tup (a : Addr) (l : List V) (xs : List Value) (ho : h.IsTuple a xs.toArray) (hH : ¬ H a) (hl : l.length = xs.length)
      (hx : ∀ (i : Nat) v x, l[i]? = some v → xs[i]? = some x → VR prog w h H v x) : VR prog w h H (.tup l) (.ref a)
  | lst (a : Addr) (l : List V) (xs : List Value) (ho : h.PlainList a xs.toArray) (hH : ¬ H a) (hl : l.length = xs.length)
      (hx : ∀ (i : Nat) v x, l[i]? = some v → xs[i]? = some x → VR prog w h H v x) : VR prog w h H (.lst l) (.ref a)
  | dct (a : Addr) (l : List (Key × V)) (kvs : List (Key × Value)) (ho : h.DictOf (keyKind prog w) a kvs) (hs : (a == sysModules) = false) (hH : ¬ H a) (hk : l.map (·.1) = kvs.map (·.1))
      (hx : ∀ (i : Nat) v x, l[i]? = some v → kvs[i]? = some x → VR prog w h H v.2 x.2) : VR prog w h H (.dct l) (.ref a)
  | inst (a dx C : Addr) (l : List V) (es : List DictEntry) (n : Nat) (ho : h.get? a = some (instObj C dx)) (hd : h.get? dx = some (dictOf es n)) (hH : ¬ H a) (hHd : ¬ H dx) (hl : l.length = es.length)
      (hk : ∀ (i : Nat) e, es[i]? = some e → ∃ nm t, (flds C)[i]? = some nm ∧ e.key = .str nm t) (hv : ∀ (i : Nat) e, es[i]? = some e → handedIn e.val = true)
      (hx : ∀ (i : Nat) v e, l[i]? = some v → es[i]? = some e → VR prog w h H v e.val) : VR prog w h H (.inst C l) (.ref a)
variable {prog : Program} {w : World}
structure Goes (h : Heap) (H : Hid) (h' : Heap) (H' : Hid) : Prop where
  keep : ∀ b o, ¬ H b → h.get? b = some o → h'.get? b = some o
  off : ∀ b o, ¬ H b → h.get? b = some o → ¬ H' b
theorem VR.go {h h' : Heap} {H H' : Hid} (g : Goes h H h' H') {v : V} {x : Value} (r : VR prog w h H v x) : VR prog w h' H' v x := by
  induction r with
  | none => exact .none
  | bool b => exact .bool b
  | int z t => exact .int z t
  | flt f t => exact .flt f t
  | str s t => exact .str s t
  | raw v => exact .raw v
  | tup a l xs ho hH hl hx ih =>
    obtain ⟨o, h1, h2⟩ := ho
    exact .tup a l xs ⟨o, g.keep a o hH h1, h2⟩ (g.off a o hH h1) hl fun i v x e1 e2 => ih i v x e1 e2
  | lst a l xs ho hH hl hx ih =>
    obtain ⟨n, h1⟩ := ho
    exact .lst a l xs ⟨n, g.keep a _ hH h1⟩ (g.off a _ hH h1) hl fun i v x e1 e2 => ih i v x e1 e2
  | dct a l kvs ho hs hH hk hx ih =>
    obtain ⟨o, es, ep, h1, h2⟩ := ho
    exact .dct a l kvs ⟨o, es, ep, g.keep a o hH h1, h2⟩ hs (g.off a o hH h1) hk fun i v x e1 e2 => ih i v x e1 e2
  | inst a dx C l es n ho hd hH hHd hl hk hv hx ih =>
    exact .inst a dx C l es n (g.keep a _ hH ho) (g.keep dx _ hHd hd) (g.off a _ hH ho) (g.off dx _ hHd hd) hl hk hv fun i v x e1 e2 => ih i v x e1 e2
abbrev Kept (h h' : Heap) : Prop := ∀ b o, h.get? b = some o → h'.get? b = some o
theorem Kept.refl (h : Heap) : Kept h h := fun _ _ e => e
theorem Kept.trans {h h' h'' : Heap} (x : Kept h h') (y : Kept h' h'') : Kept h h'' := fun b o e => y b o (x b o e)
theorem Kept.push {h h' : Heap} (x : Kept h h') (o : Obj) : Kept h (h'.push o) := fun b o' e => Heap.get?_push_of_some o (x b o' e)
theorem Kept.pushes (h : Heap) (o : Obj) : Kept h (h.push o) := fun _ _ e => Heap.get?_push_of_some o e
theorem Kept.goes {h h' : Heap} (k : Kept h h') (H : Hid) : Goes h H h' H := ⟨fun b o _ e => k b o e, fun _ _ n _ => n⟩
theorem VR.keeps {h h' : Heap} {H : Hid} (k : Kept h h') {v : V} {x : Value} (r : VR prog w h H v x) : VR prog w h' H v x := r.go (k.goes H)
theorem VR.less {h : Heap} {H H' : Hid} (k : ∀ a, H' a → H a) {v : V} {x : Value} (r : VR prog w h H v x) : VR prog w h H' v x := r.go ⟨fun _ _ _ e => e, fun _ _ n _ q => n (k _ q)⟩
structure Step (s s' : Shared) : Prop where
  same : ∃ h tk, s' = { s with heap := h, toks := tk }
  kept : Kept s.heap s'.heap
theorem Step.refl (s : Shared) : Step s s := ⟨⟨_, _, rfl⟩, Kept.refl _⟩
theorem Step.trans {s s' s'' : Shared} (x : Step s s') (y : Step s' s'') : Step s s'' := by
  obtain ⟨⟨h, tk, rfl⟩, k⟩ := x
  obtain ⟨⟨h', tk', rfl⟩, k'⟩ := y
  exact ⟨⟨_, _, rfl⟩, Kept.trans k k'⟩
theorem Step.tok (s : Shared) (tk : Nat) : Step s { s with toks := tk } := ⟨⟨_, _, rfl⟩, Kept.refl _⟩
theorem Step.of {s : Shared} {h : Heap} {tk : Nat} (k : Kept s.heap h) : Step s { s with heap := h, toks := tk } := ⟨⟨_, _, rfl⟩, k⟩
theorem Step.size {s s' : Shared} (x : Step s s') {a : Addr} {o : Obj} (e : s.heap.get? a = some o) : a < s'.heap.objs.size := Heap.lt_size (x.kept _ _ e)
noncomputable def Under (H : Hid) (h : Heap) : Prop := ∀ a, H a → ∃ o, h.get? a = some o
theorem Under.keeps {H : Hid} {h h' : Heap} (u : Under H h) (k : Kept h h') : Under H h' := fun a ha => let ⟨o, e⟩ := u a ha; ⟨o, k a o e⟩
theorem Under.fresh {H : Hid} {h : Heap} (u : Under H h) {a : Addr} (e : h.get? a = none) : ¬ H a := fun ha => by
  obtain ⟨o, q⟩ := u a ha
  rw [e] at q; cases q
theorem get_size_none (h : Heap) {a : Addr} (ha : h.objs.size ≤ a) : h.get? a = none := by
  cases e : h.get? a with
  | none => rfl
  | some o => exact absurd (Heap.lt_size e) (Nat.not_lt.mpr ha)
theorem Under.size {H : Hid} {h : Heap} (u : Under H h) : ¬ H h.objs.size := u.fresh (get_size_none h (Nat.le_refl _))
noncomputable def Ev (prog : Program) (w : World) (A : Around) (H : Hid) (s : Shared) (t : Sem Value) (v : V) : Prop :=
  ∀ (Q : Value → Shared → Prop) (E : Value → Shared → Prop), (∀ x s', Step s s' → VR prog w s'.heap H v x → Q x s') → wpAny (model prog w) A t Q E s
structure Amb (n : Nat) (A : Around) : Prop where
  handled : A.handled = none
  depth : A.depth + 4 * n < recursionLimit
  units : A.units + 40 * n + 40 < cLine
end Mine
end Core1_part
section Core2_part
open PySem PySem.W PyProof.Rows PySem.Calls
set_option Elab.async false
set_option genSizeOfSpec false
set_option genInjectivity false
set_option maxRecDepth 100000
namespace Mine
inductive Slot where
  | no
  | val (v : V)
  | own (k : Nat)
structure St where
  vars : List Slot
  owns : List V
inductive Acc where
  | loc | cell | cap
  deriving DecidableEq
structure Lay where
  names : List (Str × Acc)
  globs : List Str
noncomputable def Acc.fits : Acc → Option NameKind → Bool
  | .loc, some .local => true
  | .cell, some .cell => true
  | .cap, some .cell => true
  | .cap, some .free => true
  | _, _ => false
theorem Acc.fits_loc {o : Option NameKind} (h : Acc.loc.fits o = true) : o = some .local := by
  cases o with
  | none => cases h
  | some k => cases k <;> first | rfl | cases h
theorem Acc.fits_cell {o : Option NameKind} (h : Acc.cell.fits o = true) : o = some .cell := by
  cases o with
  | none => cases h
  | some k => cases k <;> first | rfl | cases h
theorem Acc.fits_cap {o : Option NameKind} (h : Acc.cap.fits o = true) : o = some .cell ∨ o = some .free := by
  cases o with
  | none => cases h
  | some k => cases k <;> first | exact .inl rfl | exact .inr rfl | cases h
noncomputable def layOk (sc : Scope) (lay : Lay) : Bool :=
  (sc.kind == .function) && (lay.names.all fun p => p.2.fits (sc.names.lookup p.1) && !(p.1 == ("__debug__" : Str)) && !(p.1 == ("__classdict__" : Str)))
    && decide ((lay.names.map (·.1)).Nodup) && (lay.globs.all fun x => (sc.names.lookup x == some .globalImplicit) && !(x == ("__debug__" : Str)) && !(x == ("__name__" : Str)))
noncomputable def hid (B : Hid) (env : Env) (O : List Addr) : Hid := fun a => B a ∨ a = env.locals ∨ (∃ n, env.cells.lookup n = some a) ∨ a ∈ O
section
variable (prog : Program) (w : World)
noncomputable def SlotR (h : Heap) (H : Hid) (O : List Addr) : Slot → Option Value → Prop
  | .no, _ => True
  | .val v, y => ∃ x, y = some x ∧ VR prog w h H v x
  | .own k, y => ∃ a, O[k]? = some a ∧ y = some (.ref a)
noncomputable def Items (h : Heap) (H : Hid) (l : List V) (xs : List Value) : Prop := l.length = xs.length ∧ ∀ (i : Nat) v x, l[i]? = some v → xs[i]? = some x → VR prog w h H v x
noncomputable def OwnR (h : Heap) (H : Hid) (O : List Addr) (k : Nat) (a : Addr) : V → Prop
  | .lst l => ∃ xs : List Value, h.PlainList a xs.toArray ∧ Items prog w h H l xs
  | .dct l => ∃ kvs : List (Key × Value), h.DictOf (keyKind prog w) a kvs ∧ (a == sysModules) = false ∧ l.map (·.1) = kvs.map (·.1) ∧ ∀ (i : Nat) v x, l[i]? = some v → kvs[i]? = some x → VR prog w h H v.2 x.2
  | .inst C l => ∃ dx es n, O[k + 1]? = some dx ∧ h.get? a = some (instObj C dx) ∧ h.get? dx = some (dictOf es n) ∧ l.length = es.length ∧ (∀ (i : Nat) e, es[i]? = some e → ∃ nm t, (flds C)[i]? = some nm ∧ e.key = .str nm t) ∧
      (∀ (i : Nat) e, es[i]? = some e → handedIn e.val = true) ∧ (∀ (i : Nat) v e, l[i]? = some v → es[i]? = some e → VR prog w h H v e.val)
  | .none => ∃ o, h.get? a = some o
  | _ => False
structure Frm (env : Env) (lay : Lay) (h₀ : Heap) (B : Hid) (O : List Addr) (h : Heap) (σ : St) : Prop where
  ok : layOk env.scope lay = true
  glob : env.globals = mainGlobals
  blt : env.builtins = builtinsNs
  keep : Kept h₀ h
  under : Under B h
  locN : h₀.get? env.locals = none
  oNew : ∀ a ∈ O, h₀.get? a = none ∧ a ≠ env.locals ∧ (∀ n, env.cells.lookup n ≠ some a) ∧ ¬ B a
  oNodup : O.Nodup
  cApart : env.cells.Pairwise (fun x y => x.2 ≠ y.2)
  cLoc : ∀ n c, env.cells.lookup n = some c → c ≠ env.locals ∧ ∃ o, h.get? c = some o
  cNew : ∀ x, (x, Acc.cell) ∈ lay.names → ∀ c, env.cells.lookup x = some c → h₀.get? c = none
  oLen : O.length = σ.owns.length
  vLen : σ.vars.length = lay.names.length
  ns : ∃ m, h.Ns env.locals m ∧ ∀ (i : Nat) x sl, lay.names[i]? = some (x, .loc) → σ.vars[i]? = some sl → SlotR prog w h (hid B env O) O sl (m x)
  cs : ∀ (i : Nat) x k sl, lay.names[i]? = some (x, k) → k ≠ .loc → σ.vars[i]? = some sl → ∃ c y, env.cells.lookup x = some c ∧ h.IsCell c y ∧ SlotR prog w h (hid B env O) O sl y
  os : ∀ (k : Nat) a v, O[k]? = some a → σ.owns[k]? = some v → OwnR prog w h (hid B env O) O k a v
end
variable {prog : Program} {w : World}
theorem SlotR.go {h h' : Heap} {H H' : Hid} {O O' : List Addr} (g : Goes h H h' H') (ho : ∀ (k : Nat) a, O[k]? = some a → O'[k]? = some a) {sl : Slot} {y : Option Value} (r : SlotR prog w h H O sl y) : SlotR prog w h' H' O' sl y := by
  cases sl with
  | no => trivial
  | val v => obtain ⟨x, e, r⟩ := r; exact ⟨x, e, r.go g⟩
  | own k => obtain ⟨a, e, r⟩ := r; exact ⟨a, ho k a e, r⟩
theorem Items.go {h h' : Heap} {H H' : Hid} (g : Goes h H h' H') {l : List V} {xs : List Value} (r : Items prog w h H l xs) : Items prog w h' H' l xs :=
  ⟨r.1, fun i v x e1 e2 => (r.2 i v x e1 e2).go g⟩
theorem OwnR.go {h h' : Heap} {H H' : Hid} {O O' : List Addr} (g : Goes h H h' H') (ho : ∀ (k : Nat) a, O[k]? = some a → O'[k]? = some a) {k : Nat} {a : Addr} {v : V}
    (ha : ∀ o, h.get? a = some o → h'.get? a = some o) (hd : ∀ b o, O[k + 1]? = some b → h.get? b = some o → h'.get? b = some o) (r : OwnR prog w h H O k a v) : OwnR prog w h' H' O' k a v := by
  cases v with
  | lst l => obtain ⟨xs, h1, h2⟩ := r; exact ⟨xs, h1.at ha, h2.go g⟩
  | dct l =>
    obtain ⟨kvs, ⟨o, es, ep, h1, hr⟩, h2, h3, h4⟩ := r
    exact ⟨kvs, ⟨o, es, ep, ha _ h1, hr⟩, h2, h3, fun i v x e1 e2 => (h4 i v x e1 e2).go g⟩
  | inst C l =>
    obtain ⟨dx, es, n, h1, h2, h3, h4, h5, h6, h7⟩ := r
    exact ⟨dx, es, n, ho _ _ h1, ha _ h2, hd _ _ h1 h3, h4, h5, h6, fun i v x e1 e2 => (h7 i v x e1 e2).go g⟩
  | none => obtain ⟨o, e⟩ := r; exact ⟨o, ha _ e⟩
  | bool b => exact r
  | int b => exact r
  | flt b => exact r
  | str b => exact r
  | tup b => exact r
  | raw b => exact r
namespace Frm
variable {env : Env} {lay : Lay} {h₀ h h' : Heap} {B : Hid} {O : List Addr} {σ : St}
theorem step (F : Frm prog w env lay h₀ B O h σ) (k : Kept h h') : Frm prog w env lay h₀ B O h' σ where
  ok := F.ok
  glob := F.glob
  blt := F.blt
  keep := Kept.trans F.keep k
  under := F.under.keeps k
  locN := F.locN
  oNew := F.oNew
  oNodup := F.oNodup
  cApart := F.cApart
  cLoc := fun n c m => ⟨(F.cLoc n c m).1, let ⟨o, e⟩ := (F.cLoc n c m).2; ⟨o, k _ _ e⟩⟩
  cNew := F.cNew
  oLen := F.oLen
  vLen := F.vLen
  ns := let ⟨m, hn, hr⟩ := F.ns; ⟨m, hn.keeps k, fun i x sl e1 e2 => (hr i x sl e1 e2).go (k.goes _) fun _ _ e => e⟩
  cs := fun i x kd sl e1 e2 e3 => let ⟨c, y, e4, e5, e6⟩ := F.cs i x kd sl e1 e2 e3; ⟨c, y, e4, e5.keeps k, e6.go (k.goes _) fun _ _ e => e⟩
  os := fun i a v e1 e2 => (F.os i a v e1 e2).go (k.goes _) (fun _ _ e => e) (fun o e => k _ o e) fun b o _ e => k b o e
theorem fn (F : Frm prog w env lay h₀ B O h σ) : env.scope.kind = .function := by
  have := F.ok
  unfold layOk at this
  simp only [Bool.and_eq_true, beq_iff_eq] at this
  exact this.1.1.1
theorem name (F : Frm prog w env lay h₀ B O h σ) {i : Nat} {x : Str} {k : Acc} (e : lay.names[i]? = some (x, k)) : k.fits (env.kindOf x) = true ∧ (x == ("__debug__" : Str)) = false ∧ (x == ("__classdict__" : Str)) = false := by
  have := F.ok
  unfold layOk at this
  simp only [Bool.and_eq_true, List.all_eq_true, Bool.not_eq_true'] at this
  have q := this.1.1.2 (x, k) (List.mem_of_getElem? e)
  exact ⟨q.1.1, q.1.2, q.2⟩
theorem gname (F : Frm prog w env lay h₀ B O h σ) {x : Str} (e : x ∈ lay.globs) : env.kindOf x = some .globalImplicit ∧ (x == ("__debug__" : Str)) = false ∧ x ≠ ("__name__" : Str) := by
  have := F.ok
  unfold layOk at this
  simp only [Bool.and_eq_true, List.all_eq_true, Bool.not_eq_true', beq_iff_eq] at this
  have q := this.2 x e
  exact ⟨q.1.1, q.1.2, fun z => by have := q.2; rw [z] at this; simp at this⟩
theorem distinct (F : Frm prog w env lay h₀ B O h σ) {i j : Nat} {x : Str} {k k' : Acc} (e : lay.names[i]? = some (x, k)) (e' : lay.names[j]? = some (x, k')) : i = j := by
  have := F.ok
  unfold layOk at this
  simp only [Bool.and_eq_true, decide_eq_true_eq] at this
  have nd := this.1.2
  have hi : (lay.names.map (·.1))[i]? = some x := by rw [List.getElem?_map, e]; rfl
  have hj : (lay.names.map (·.1))[j]? = some x := by rw [List.getElem?_map, e']; rfl
  have li : i < (lay.names.map (·.1)).length := (List.getElem?_eq_some_iff.mp hi).1
  exact (List.getElem?_inj li nd).mp (hi.trans hj.symm)
theorem own_at {k : Nat} {a : Addr} {v : V} {H : Hid} (r : OwnR prog w h H O k a v) : ∃ o, h.get? a = some o := by
  cases v with
  | lst l => obtain ⟨xs, ⟨n, h1⟩, h2⟩ := r; exact ⟨_, h1⟩
  | dct l => obtain ⟨kvs, ⟨o, es, ep, h1, hr⟩, h2⟩ := r; exact ⟨_, h1⟩
  | inst C l => obtain ⟨dx, es, n, h1, h2, h3⟩ := r; exact ⟨_, h2⟩
  | none => exact r
  | bool b => exact r.elim
  | int b => exact r.elim
  | flt b => exact r.elim
  | str b => exact r.elim
  | tup b => exact r.elim
  | raw b => exact r.elim
theorem hidden (F : Frm prog w env lay h₀ B O h σ) : Under (hid B env O) h := by
  rintro a (hb | rfl | ⟨n, hc⟩ | ho)
  · exact F.under a hb
  · obtain ⟨m, ⟨o, es, ep, e, _⟩, _⟩ := F.ns
    exact ⟨o, e⟩
  · exact (F.cLoc n a hc).2
  · obtain ⟨k, hk, rfl⟩ := List.getElem_of_mem ho
    have hl : k < σ.owns.length := F.oLen ▸ hk
    exact own_at (F.os k _ (σ.owns[k]'hl) (by simp) (by rw [List.getElem?_eq_getElem hl]))
end Frm
structure Base (K : Frag) (mg mb : Str → Option Value) (h : Heap) : Prop where
  X : K.In h
  g : h.Ns mainGlobals mg
  b : h.Ns builtinsNs mb
  nl : h.NoLimit
  bi : ∀ x, x ≠ ("__name__" : Str) → mb x = bootBuiltins x
theorem Base.keeps {K : Frag} {mg mb : Str → Option Value} {h h' : Heap} (b : Base K mg mb h) (k : Kept h h') : Base K mg mb h' := ⟨b.X.keeps k, b.g.keeps k, b.b.keeps k, b.nl.keeps k, b.bi⟩
noncomputable def St.get (σ : St) (i : Nat) : Option V := match σ.vars[i]? with
  | some (.val v) => some v
  | _ => none
noncomputable def Impl (prog : Program) (w : World) (K : Frag) (mg mb : Str → Option Value) (n : Nat) (env : Env) (lay : Lay) (t : Sem Value) (f : St → Option V) : Prop :=
  ∀ A s h₀ B O σ v, Amb n A → Base K mg mb h₀ → Frm prog w env lay h₀ B O s.heap σ → f σ = some v → Ev prog w A (hid B env O) s t v
variable {K : Frag} {mg mb : Str → Option Value} {n : Nat} {env : Env} {lay : Lay}
theorem Impl.eq {t : Sem Value} {f f' : St → Option V} (i : Impl prog w K mg mb n env lay t f) (e : ∀ σ, f' σ = f σ) : Impl prog w K mg mb n env lay t f' :=
  fun A s h₀ B O σ v a b F q => i A s h₀ B O σ v a b F (by rw [← e]; exact q)
theorem impl_int {z : Int} {k : Nat} {pos : Pos} : Impl prog w K mg mb n env lay (eval (.Constant (.int z) k pos) env) (fun _ => some (.int z)) := by
  intro A s h₀ B O σ v _ _ _ e Q E h
  cases e
  exact wpAny_Constant_int (h _ _ (Step.tok ..) (.int ..))
theorem impl_flt {z : UInt64} {k : Nat} {pos : Pos} : Impl prog w K mg mb n env lay (eval (.Constant (.float z) k pos) env) (fun _ => some (.flt z)) := by
  intro A s h₀ B O σ v _ _ _ e Q E h
  cases e
  exact fun _ _ _ => h _ _ (Step.tok ..) (.flt ..)
theorem impl_str {z : Str} {k : Nat} {pos : Pos} : Impl prog w K mg mb n env lay (eval (.Constant (.str z) k pos) env) (fun _ => some (.str z)) := by
  intro A s h₀ B O σ v _ _ _ e Q E h
  cases e
  exact fun _ _ _ => h _ _ (Step.tok ..) (.str ..)
theorem impl_bool {z : Bool} {k : Nat} {pos : Pos} : Impl prog w K mg mb n env lay (eval (.Constant (.bool z) k pos) env) (fun _ => some (.bool z)) := by
  intro A s h₀ B O σ v _ _ _ e Q E h
  cases e
  exact fun _ _ _ => h _ _ (Step.refl ..) (.bool ..)
theorem load_sound {A : Around} {s : Shared} {h₀ : Heap} {B : Hid} {O : List Addr} {σ : St} {v : V} {i : Nat} {x : Str} {k : Acc} {Q : Value → Shared → Prop} {E : Value → Shared → Prop} (hi : lay.names[i]? = some (x, k))
    (F : Frm prog w env lay h₀ B O s.heap σ) (e : σ.get i = some v) (h : ∀ y, VR prog w s.heap (hid B env O) v y → Q y s) : wpAny (model prog w) A (loadName env x) Q E s := by
  unfold St.get at e
  split at e
  · rename_i v' hv
    cases e
    obtain ⟨hk, hd, hcd⟩ := F.name hi
    cases k with
    | loc =>
      obtain ⟨m, hn, hr⟩ := F.ns
      obtain ⟨y, hy, r⟩ := hr i x _ hi hv
      exact wpAny_loadName_local F.fn (Acc.fits_loc hk) hn hy (h _ r)
    | cell =>
      obtain ⟨c, y, hc, hcell, r⟩ := F.cs i x _ _ hi (by decide) hv
      obtain ⟨y', rfl, r⟩ := r
      exact wpAny_loadName_cell F.fn (Acc.fits_cell hk) hc hcell (h _ r)
    | cap =>
      obtain ⟨c, y, hc, hcell, r⟩ := F.cs i x _ _ hi (by decide) hv
      obtain ⟨y', rfl, r⟩ := r
      rcases Acc.fits_cap hk with q | q
      · exact wpAny_loadName_cell F.fn q hc hcell (h _ r)
      · exact wpAny_loadName_free F.fn q hc hcell (h _ r) hcd
  · cases e
theorem impl_name (i : Nat) {x : Str} {k : Acc} {pos : Pos} (hi : lay.names[i]? = some (x, k) := by rfl) : Impl prog w K mg mb n env lay (eval (.Name x pos) env) (fun σ => σ.get i) := by
  intro A s h₀ B O σ v _ _ F e Q E h
  obtain ⟨hk, hd, hcd⟩ := F.name hi
  exact wpAny_Name (load_sound hi F e fun y r => h _ _ (Step.refl _) r) hd
theorem impl_glob {x : Str} {pos : Pos} {v : Value} (hx : x ∈ lay.globs) (hv : nsIn K mainGlobals x = some (some v)) : Impl prog w K mg mb n env lay (eval (.Name x pos) env) (fun _ => some (.raw v)) := by
  intro A s h₀ B O σ v' _ b F e Q E h
  cases e
  obtain ⟨hk, hd, _⟩ := F.gname hx
  refine Name_function_global F.fn hk (loadGlobal_global (mg := mg) ?_ (mg_of b.X b.g hv) (h _ _ (Step.refl _) (.raw _))) hd
  rw [F.glob]
  exact b.g.keeps F.keep
theorem impl_blt {x : Str} {pos : Pos} {v : Value} (hx : x ∈ lay.globs) (hv : nsIn K mainGlobals x = some none) (hb : bootBuiltins x = some v) : Impl prog w K mg mb n env lay (eval (.Name x pos) env) (fun _ => some (.raw v)) := by
  intro A s h₀ B O σ v' _ b F e Q E h
  cases e
  obtain ⟨hk, hd, hn⟩ := F.gname hx
  refine Name_function_global F.fn hk ?_ hd
  refine loadGlobal_builtin (mg := mg) (mb := mb) ?_ (mg_none_of b.X b.g hv) ?_ ((b.bi x hn).trans hb) (h _ _ (Step.refl _) (.raw _))
  · rw [F.glob]
    exact b.g.keeps F.keep
  · rw [F.blt]
    exact b.b.keeps F.keep
end Mine
end Core2_part
section Core3_part
open PySem PySem.W PyProof.Rows PySem.Calls
set_option Elab.async false
set_option maxRecDepth 100000
namespace Mine
variable {prog : Program} {w : World}
noncomputable def smallI (z : Int) : Bool := decide (-(2 ^ 63 : Int) < z) && decide (z < 2 ^ 63)
noncomputable def smallD (z : Int) : Bool := decide (0 < z) && decide (z < 1073741824)
theorem smallD_ne {z : Int} (h : smallD z = true) : z ≠ 0 := by
  unfold smallD at h
  simp only [Bool.and_eq_true, decide_eq_true_eq] at h
  omega
theorem smallD_lt {z : Int} (h : smallD z = true) : z.natAbs < 1073741824 := by
  unfold smallD at h
  simp only [Bool.and_eq_true, decide_eq_true_eq] at h
  omega
noncomputable def addV (a b : V) : Option V := match a, b with
  | .int x, .int y => some (.int (x + y))
  | .flt x, .flt y => some (.flt (Float64.add x y))
  | .str x, .str y => if x.length + y.length ≤ sizeLine then some (.str (x ++ y)) else none
  | .lst x, .lst y => if x.length + y.length ≤ sizeLine then some (.lst (x ++ y)) else none
  | _, _ => none
noncomputable def subV (a b : V) : Option V := match a, b with
  | .int x, .int y => some (.int (x - y))
  | .flt x, .flt y => some (.flt (Float64.sub x y))
  | .flt x, .int y => if Float64.isInf (Float64.ofInt y) then none else some (.flt (Float64.sub x (Float64.ofInt y)))
  | _, _ => none
noncomputable def mulV (a b : V) : Option V := match a, b with
  | .int x, .int y => if smallI x then some (.int (x * y)) else none
  | .flt x, .flt y => some (.flt (Float64.mul x y))
  | .flt x, .int y => if Float64.isInf (Float64.ofInt y) then none else some (.flt (Float64.mul x (Float64.ofInt y)))
  | .str x, .int y => if x.length ≤ 4096 ∧ smallI y = true ∧ y ≤ 4096 then some (.str (Txt.mul x y)) else none
  | .lst x, .int y => if x.isEmpty = false ∧ smallI y = true ∧ x.length * y.toNat ≤ 2 ^ 24 then some (.lst (List.replicate y.toNat x).flatten) else none
  | _, _ => none
noncomputable def divV (a b : V) : Option V := match a, b with
  | .int x, .int y => if y = 0 then none else if Float64.isInf (Float64.ofFrac (decide (x < 0) != decide (y < 0)) x.natAbs y.natAbs) then none else some (.flt (Float64.ofFrac (decide (x < 0) != decide (y < 0)) x.natAbs y.natAbs))
  | .flt x, .flt y => if Float64.isZero y then none else some (.flt (Float64.div x y))
  | _, _ => none
noncomputable def fdivV (a b : V) : Option V := match a, b with
  | .int x, .int y => if smallD y then some (.int (x.fdiv y)) else none
  | _, _ => none
noncomputable def modV (a b : V) : Option V := match a, b with
  | .int x, .int y => if smallD y then some (.int (x.fmod y)) else none
  | .flt x, .flt y => if Float64.isZero y then none else some (.flt (Float64.divmod x y).2)
  | _, _ => none
noncomputable def binV (op : Operator) (a b : V) : Option V := match op with
  | .Add => addV a b
  | .Sub => subV a b
  | .Mult => mulV a b
  | .Div => divV a b
  | .FloorDiv => fdivV a b
  | .Mod => modV a b
  | _ => none
theorem smallI_bits {z : Int} (h : smallI z = true) : Builtin.Int.intBits z ≤ 64 := by
  unfold smallI at h
  simp only [Bool.and_eq_true, decide_eq_true_eq] at h
  refine PySem.intBits_le_64 ?_ ?_
  · have := h.1; have e : (2 : Int) ^ 64 = 2 * 2 ^ 63 := by decide
    omega
  · have := h.2; have e : (2 : Int) ^ 64 = 2 * 2 ^ 63 := by decide
    omega
theorem Items.append {h : Heap} {H : Hid} {l l' : List V} {xs xs' : List Value} (a : Items prog w h H l xs) (b : Items prog w h H l' xs') : Items prog w h H (l ++ l') (xs ++ xs') := by
  refine ⟨by rw [List.length_append, List.length_append, a.1, b.1], fun i v x e1 e2 => ?_⟩
  by_cases hi : i < l.length
  · rw [List.getElem?_append_left hi] at e1
    rw [List.getElem?_append_left (a.1 ▸ hi)] at e2
    exact a.2 i v x e1 e2
  · have hi' : l.length ≤ i := Nat.le_of_not_lt hi
    rw [List.getElem?_append_right hi'] at e1
    rw [List.getElem?_append_right (a.1 ▸ hi'), ← a.1] at e2
    exact b.2 _ v x e1 e2
theorem add_listsP {A : Around} {E : Value → Shared → Prop} {s : Shared} {l b : Addr} {vs ws : List Value} {Q : Value → Shared → Prop} (hl : s.heap.PlainList l vs.toArray) (hb : s.heap.PlainList b ws.toArray)
    (h : Q (.ref s.heap.objs.size) { s with heap := s.heap.push { cls := .type "list", data := .seq (vs ++ ws).toArray } })
    (hsz : vs.length + ws.length ≤ sizeLine) : wpAny (model prog w) A (binaryOp .Add (.ref l) (.ref b)) Q E s := by
  obtain ⟨n, ho⟩ := hl
  obtain ⟨n2, ho2⟩ := hb
  have e : vs.toArray ++ ws.toArray = (vs ++ ws).toArray := by simp
  refine concat_meets ⟨_, ho, rfl⟩ ⟨_, ho2, rfl⟩ noFill_list_add seq_list_add PySem.F.slot_list_add PySem.F.entry_list_add (PySem.F.args_list_add_2 _ _) (list_addW l b vs.toArray ws.toArray n n2 none none #[] #[] (by simpa using hsz)) ⟨ho, ho2, ?_⟩
  rw [e]
  exact h
theorem foldl_rep (xs : List Value) : ∀ (k : Nat) (acc : Array Value), List.foldl (fun x1 x2 => x1 ++ x2) acc (List.replicate k xs.toArray) = (acc.toList ++ (List.replicate k xs).flatten).toArray
  | 0, acc => by simp
  | k + 1, acc => by
    rw [List.replicate_succ, List.foldl_cons, foldl_rep xs k, List.replicate_succ, List.flatten_cons]
    simp
theorem Items.rep {h : Heap} {H : Hid} {l : List V} {xs : List Value} (a : Items prog w h H l xs) : ∀ k, Items prog w h H (List.replicate k l).flatten (List.replicate k xs).flatten
  | 0 => ⟨rfl, fun i v x e => by simp at e⟩
  | k + 1 => by
    rw [List.replicate_succ, List.replicate_succ, List.flatten_cons, List.flatten_cons]
    exact a.append (a.rep k)
theorem mul_listP {A : Around} {E : Value → Shared → Prop} {s : Shared} {l : Addr} {vs : List Value} {x : Int} {u : Tok} {Q : Value → Shared → Prop} (hl : s.heap.PlainList l vs.toArray) (hne : vs ≠ []) (hlo : -(2 ^ 63 : Int) ≤ x) (hhi : x < 2 ^ 63) (hsz : vs.length * x.toNat ≤ 2 ^ 24)
    (h : Q (.ref s.heap.objs.size) { s with heap := s.heap.push { cls := .type "list", data := .seq (List.replicate x.toNat vs).flatten.toArray } }) : wpAny (model prog w) A (binaryOp .Mult (.ref l) (.int x u)) Q E s := by
  obtain ⟨k, hl⟩ := hl
  have hem : vs.toArray.isEmpty = false := by cases vs with | nil => exact absurd rfl hne | cons => rfl
  have key : (List.foldl (fun x1 x2 => x1 ++ x2) #[] (List.replicate (if vs.toArray.isEmpty = true then 0 else x.toNat) vs.toArray)) = (List.replicate x.toNat vs).flatten.toArray := by
    rw [hem, if_neg Bool.false_ne_true, foldl_rep]
    simp
  rw [← key] at h
  have hbig : ¬ vs.toArray.size * x.toNat > (2 ^ 63 - 1) / 8 := by
    have e1 : vs.toArray.size = vs.length := by simp
    rw [e1]
    omega
  exact wpAny_binaryOp_repeat_ref (T := "list") (U := "int") (by decide) ⟨_, hl, rfl⟩ (fun s' => typeIs_int s' x u) noFill_list_mul PySem.F.fills_int_mul PySem.F.slot_int_rmul repeat_list PySem.F.slot_int_index.lookup
    (call_meets PySem.F.slot_int_rmul (typeIs_int s x u) PySem.F.entry_int_rmul (PySem.F.args_int_rmul_2 _ _) (int___rmul___int_list x u l vs.toArray k)
      ⟨hl, rfl, ⟨_, hl, rfl⟩, call_meets PySem.F.slot_list_mul ⟨_, hl, rfl⟩ PySem.F.entry_list_mul (PySem.F.args_list_mul_2 _ _)
        (AutoListH.list___mul___list_int_3 l vs.toArray k x u (by simp [Builtin.List.listFitsIndex]; omega) hbig (by simp [Builtin.List.listTooLong, sizeLine]; omega))
        ⟨hl, h⟩⟩)
theorem VR.newList {s : Shared} {H : Hid} {l : List V} {xs : List Value} (u : Under H s.heap) (it : Items prog w s.heap H l xs) :
    VR prog w (s.heap.push { cls := .type "list", data := .seq xs.toArray }) H (.lst l) (.ref s.heap.objs.size) :=
  .lst _ l xs ⟨0, Heap.get?_push_size _ rfl⟩ u.size it.1 fun i v x e1 e2 => (it.2 i v x e1 e2).keeps (Kept.pushes _ _)
theorem VR.newTuple {s : Shared} {H : Hid} {l : List V} {xs : List Value} (u : Under H s.heap) (it : Items prog w s.heap H l xs) :
    VR prog w (s.heap.push { cls := .type "tuple", data := .seq xs.toArray }) H (.tup l) (.ref s.heap.objs.size) :=
  .tup _ l xs ⟨_, Heap.get?_push_size _ rfl, rfl, _, rfl⟩ u.size it.1 fun i v x e1 e2 => (it.2 i v x e1 e2).keeps (Kept.pushes _ _)
theorem Step.push (s : Shared) (o : Obj) : Step s { s with heap := s.heap.push o } := ⟨⟨_, _, rfl⟩, Kept.pushes _ _⟩
section
variable {A : Around} {H : Hid} {s : Shared} {a b v : V} {x y : Value}
theorem addV_sound (u : Under H s.heap) (hx : VR prog w s.heap H a x) (hy : VR prog w s.heap H b y) (e : addV a b = some v) : Ev prog w A H s (binaryOp .Add x y) v := by
  intro Q E h
  unfold addV at e
  split at e
  · cases hx; cases hy; cases e; exact PyProof.Rows.add_int (h _ _ (Step.tok ..) (.int ..))
  · cases hx; cases hy; cases e; exact add_float (h _ _ (Step.tok ..) (.flt ..))
  · split at e
    · rename_i hz
      cases hx; cases hy; cases e
      exact PyProof.Rows.add_str (fun t' k => h _ _ (Step.tok ..) (.str ..)) hz
    · cases e
  · split at e
    · rename_i hz
      cases hx with
      | lst a l xs ho hH hl hxx =>
      cases hy with
      | lst a' l' xs' ho' hH' hl' hxx' =>
      cases e
      exact add_listsP ho ho' (h _ _ (Step.push ..) (VR.newList u (Items.append ⟨hl, hxx⟩ ⟨hl', hxx'⟩))) (by rw [← hl, ← hl']; exact hz)
    · cases e
  · cases e
theorem subV_sound (hx : VR prog w s.heap H a x) (hy : VR prog w s.heap H b y) (e : subV a b = some v) : Ev prog w A H s (binaryOp .Sub x y) v := by
  intro Q E h
  unfold subV at e
  split at e
  · cases hx; cases hy; cases e; exact PyProof.Rows.sub_int (h _ _ (Step.tok ..) (.int ..))
  · cases hx; cases hy; cases e; exact sub_float (h _ _ (Step.tok ..) (.flt ..))
  · split at e
    · cases e
    · rename_i hz
      cases hx; cases hy; cases e; exact AutoFloatOps.sub_fi_1 hz (h _ _ (Step.tok ..) (.flt ..))
  · cases e
theorem mulV_sound (u : Under H s.heap) (hx : VR prog w s.heap H a x) (hy : VR prog w s.heap H b y) (e : mulV a b = some v) : Ev prog w A H s (binaryOp .Mult x y) v := by
  intro Q E h
  unfold mulV at e
  split at e
  · split at e
    · rename_i hs
      cases hx; cases hy; cases e; exact PyProof.Rows.mul_int (h _ _ (Step.tok ..) (.int ..)) (.of_left (smallI_bits hs))
    · cases e
  · cases hx; cases hy; cases e; exact mul_float (h _ _ (Step.tok ..) (.flt ..))
  · split at e
    · cases e
    · rename_i hz
      cases hx; cases hy; cases e; exact AutoFloatOps.mul_fi_1 hz (h _ _ (Step.tok ..) (.flt ..))
  · split at e
    · rename_i hz
      cases hx; cases hy; cases e
      have hs := hz.2.1
      unfold smallI at hs
      simp only [Bool.and_eq_true, decide_eq_true_eq] at hs
      exact SB.mul (mulOk_of 4096 4096 hz.1 (by have := hz.2.2; omega) (by omega) (by decide) (by decide)) fun t' k => h _ _ (Step.tok ..) (.str ..)
    · cases e
  · split at e
    · rename_i hz
      cases hx with
      | lst a l xs ho hH hl hxx =>
      cases hy
      cases e
      have hs := hz.2.1
      unfold smallI at hs
      simp only [Bool.and_eq_true, decide_eq_true_eq] at hs
      refine mul_listP ho (fun q => ?_) (Int.le_of_lt hs.1) hs.2 (hl ▸ hz.2.2) (h _ _ (Step.push ..) (VR.newList u (Items.rep ⟨hl, hxx⟩ _)))
      subst q
      have h1 := hz.1
      rw [List.isEmpty_eq_false_iff] at h1
      exact h1 (List.length_eq_zero_iff.mp hl)
    · cases e
  · cases e
theorem divV_sound (hx : VR prog w s.heap H a x) (hy : VR prog w s.heap H b y) (e : divV a b = some v) : Ev prog w A H s (binaryOp .Div x y) v := by
  intro Q E h
  unfold divV at e
  split at e
  · split at e
    · cases e
    · rename_i hz
      split at e
      · cases e
      · rename_i hi
        cases hx; cases hy; cases e
        exact AutoIntOps.truediv_2 (by simpa using hz) hi (h _ _ (Step.tok ..) (.flt ..))
  · split at e
    · cases e
    · rename_i hz
      cases hx; cases hy; cases e; exact AutoFloatOps.truediv_1 hz (h _ _ (Step.tok ..) (.flt ..))
  · cases e
theorem fdivV_sound (hx : VR prog w s.heap H a x) (hy : VR prog w s.heap H b y) (e : fdivV a b = some v) : Ev prog w A H s (binaryOp .FloorDiv x y) v := by
  intro Q E h
  unfold fdivV at e
  split at e
  · split at e
    · rename_i hz
      cases hx; cases hy; cases e; exact floordiv_int (smallD_ne hz) (h _ _ (Step.tok ..) (.int ..)) (.inl (PyProof.noPylong_small (smallD_lt hz)))
    · cases e
  · cases e
theorem modV_sound (hx : VR prog w s.heap H a x) (hy : VR prog w s.heap H b y) (e : modV a b = some v) : Ev prog w A H s (binaryOp .Mod x y) v := by
  intro Q E h
  unfold modV at e
  split at e
  · split at e
    · rename_i hz
      cases hx; cases hy; cases e; exact mod_int' (smallD_ne hz) (h _ _ (Step.tok ..) (.int ..))
    · cases e
  · split at e
    · cases e
    · rename_i hz
      cases hx; cases hy; cases e; exact AutoFloatOps.mod_1 hz (h _ _ (Step.tok ..) (.flt ..))
  · cases e
theorem bin_sound {op : Operator} (u : Under H s.heap) (hx : VR prog w s.heap H a x) (hy : VR prog w s.heap H b y) (e : binV op a b = some v) :
    Ev prog w A H s (binaryOp op x y) v := by
  cases op
  case Add => exact addV_sound u hx hy e
  case Sub => exact subV_sound hx hy e
  case Mult => exact mulV_sound u hx hy e
  case Div => exact divV_sound hx hy e
  case FloorDiv => exact fdivV_sound hx hy e
  case Mod => exact modV_sound hx hy e
  all_goals cases e
end
variable {K : Frag} {mg mb : Str → Option Value} {n : Nat} {env : Env} {lay : Lay}
theorem impl_bin {l r : Expr} {op : Operator} {pos : Pos} {f g : St → Option V} (hf : Impl prog w K mg mb n env lay (eval l env) f) (hg : Impl prog w K mg mb n env lay (eval r env) g) :
    Impl prog w K mg mb n env lay (eval (.BinOp l op r pos) env) (fun σ => (f σ).bind fun a => (g σ).bind fun b => binV op a b) := by
  intro A s h₀ B O σ v a b F e Q E h
  obtain ⟨va, ea, e⟩ := Option.bind_eq_some_iff.mp e
  obtain ⟨vb, eb, e⟩ := Option.bind_eq_some_iff.mp e
  refine wpAny_BinOp (hf A s h₀ B O σ va a b F ea _ _ fun x s₁ k₁ r₁ => hg A s₁ h₀ B O σ vb a b (F.step k₁.kept) eb _ _ fun y s₂ k₂ r₂ => ?_)
  refine bin_sound ((F.hidden.keeps k₁.kept).keeps k₂.kept) (r₁.keeps k₂.kept) r₂ e _ _ fun z s₃ k₃ r₃ => h z s₃ ((k₁.trans k₂).trans k₃) r₃
mutual
noncomputable def eqV : V → V → Option Bool
  | .int x, .int y => some (x == y)
  | .bool x, .bool y => some (x == y)
  | .str x, .str y => some (x == y)
  | .tup l, .tup l' => if l.length = l'.length then eqVs l l' else some false
  | .lst l, .lst l' => if l.length = l'.length then eqVs l l' else some false
  | _, _ => none
noncomputable def eqVs : List V → List V → Option Bool
  | [], [] => some true
  | x :: r, y :: q => match eqV x y with
    | some true => eqVs r q
    | some false => some false
    | none => none
  | _, _ => none
end
noncomputable def isEq (o : Option Ordering) : Bool := match o with | some .eq => true | _ => false
noncomputable def isLt (o : Option Ordering) : Bool := match o with | some .lt => true | _ => false
noncomputable def isGt (o : Option Ordering) : Bool := match o with | some .gt => true | _ => false
theorem isEq_is (o : Option Ordering) : isEq o = (o == some .eq) := by cases o with | none => rfl | some x => cases x <;> rfl
theorem isLt_is (o : Option Ordering) : isLt o = (o == some .lt) := by cases o with | none => rfl | some x => cases x <;> rfl
theorem isGt_is (o : Option Ordering) : isGt o = (o == some .gt) := by cases o with | none => rfl | some x => cases x <;> rfl
noncomputable def cmpIV (op : CmpOp) (x y : Int) : Option Bool := match op with
  | .Lt => some (decide (x < y))
  | .LtE => some (decide (x ≤ y))
  | .Gt => some (decide (y < x))
  | .GtE => some (decide (y ≤ x))
  | .Eq => some (x == y)
  | .NotEq => some (x != y)
  | _ => none
noncomputable def cmpFV (op : CmpOp) (x y : UInt64) : Option Bool := match op with
  | .Lt => some (isLt (Float64.cmp x y))
  | .Gt => some (isGt (Float64.cmp x y))
  | .Eq => some (isEq (Float64.cmp x y))
  | _ => none
noncomputable def cmpV (op : CmpOp) (a b : V) : Option Bool := match a, b with
  | .int x, .int y => cmpIV op x y
  | .flt x, .flt y => cmpFV op x y
  | .str x, .str y => match op with
    | .Eq => some (x == y)
    | _ => none
  | _, _ => none
theorem cmp_sound {A : Around} {H : Hid} {s : Shared} {op : CmpOp} {a b : V} {r : Bool} {x y : Value} (hx : VR prog w s.heap H a x) (hy : VR prog w s.heap H b y) (e : cmpV op a b = some r) :
    ∀ (Q : Value → Shared → Prop) E, Q (.bool r) s → wpAny (model prog w) A (compareOp op x y) Q E s := by
  intro Q E h
  unfold cmpV at e
  split at e
  · cases hx; cases hy
    cases op
    case Lt => cases e; exact PyProof.Rows.lt_int h
    case LtE => cases e; exact PyProof.Rows.le_int h
    case Gt => cases e; exact PyProof.Rows.gt_int h
    case GtE => cases e; exact PyProof.Rows.ge_int h
    case Eq => cases e; exact PyProof.Rows.eq_int h
    case NotEq => cases e; exact PyProof.Rows.ne_int h
    all_goals cases e
  · cases hx; cases hy
    cases op
    case Lt => cases e; rw [isLt_is] at h; exact AutoFloatOps.lt_0 h
    case Gt => cases e; rw [isGt_is] at h; exact AutoFloatOps.gt_0 h
    case Eq => cases e; rw [isEq_is] at h; exact AutoFloatOps.eq_0 h
    all_goals cases e
  · cases hx; cases hy
    cases op
    case Eq => cases e; exact PyProof.Rows.eq_str h
    all_goals cases e
  · cases e
end Mine
end Core3_part
section Core4_part
open PySem PySem.W PyProof.Rows PySem.Calls
set_option Elab.async false
set_option maxRecDepth 100000
namespace Mine
variable {prog : Program} {w : World}
mutual
noncomputable def V.py : V → Option PyData
  | .int z => some (.int z)
  | .tup l => (V.pys l).map .tuple
  | .lst l => (V.pys l).map .list
  | _ => Option.none
noncomputable def V.pys : List V → Option (List PyData)
  | [] => some []
  | v :: r => match V.py v, V.pys r with
    | some d, some ds => some (d :: ds)
    | _, _ => Option.none
end
noncomputable def eqD (a b : V) : Option Bool := match a.py, b.py with
  | some x, some y => if SeqAt.shaped x && SeqAt.shaped y then some (PyData.eqv x y) else none
  | _, _ => none
mutual
theorem py_reads {h : Heap} {H : Hid} : ∀ {v : V} {d : PyData} {x : Value}, v.py = some d → VR prog w h H v x → ∃ as, Reads h x d as
  | .int z, d, x, e, r => by cases r; cases e; exact ⟨_, Reads.int _ _⟩
  | .tup l, d, x, e, r => by
    cases r with
    | tup a l xs ho hH hl hx =>
    unfold V.py at e
    obtain ⟨ds, e1, rfl⟩ := Option.map_eq_some_iff.mp e
    obtain ⟨as, q⟩ := pys_reads (xs := xs) e1 ⟨hl, hx⟩
    obtain ⟨o, h1, h2, n, h3⟩ := ho
    exact ⟨_, reads_tuple_at h1 h2 h3 (by simpa using q)⟩
  | .lst l, d, x, e, r => by
    cases r with
    | lst a l xs ho hH hl hx =>
    unfold V.py at e
    obtain ⟨ds, e1, rfl⟩ := Option.map_eq_some_iff.mp e
    obtain ⟨as, q⟩ := pys_reads (xs := xs) e1 ⟨hl, hx⟩
    obtain ⟨n, h1⟩ := ho
    exact ⟨_, reads_list_at h1 rfl rfl (by simpa using q)⟩
  | .none, _, _, e, _ => by cases e
  | .bool _, _, _, e, _ => by cases e
  | .flt _, _, _, e, _ => by cases e
  | .str _, _, _, e, _ => by cases e
  | .dct _, _, _, e, _ => by cases e
  | .inst _ _, _, _, e, _ => by cases e
  | .raw _, _, _, e, _ => by cases e
theorem pys_reads {h : Heap} {H : Hid} : ∀ {l : List V} {ds : List PyData} {xs : List Value}, V.pys l = some ds → Items prog w h H l xs → ∃ as, ReadsAll h xs ds as
  | [], ds, xs, e, r => by
    cases e
    cases xs with
    | nil => exact ⟨_, ReadsAll.nil⟩
    | cons x xs => cases r.1
  | v :: l, ds, xs, e, r => by
    cases xs with
    | nil => cases r.1
    | cons x xs =>
    unfold V.pys at e
    cases e1 : V.py v with
    | none => rw [e1] at e; cases e
    | some d =>
    cases e2 : V.pys l with
    | none => rw [e1, e2] at e; cases e
    | some dr =>
    rw [e1, e2] at e
    cases e
    obtain ⟨as, q⟩ := py_reads e1 (r.2 0 v x rfl rfl)
    obtain ⟨bs, p⟩ := pys_reads (xs := xs) e2 ⟨by simpa using r.1, fun i v' x' a b => r.2 (i + 1) v' x' (by simpa using a) (by simpa using b)⟩
    exact ⟨_, ReadsAll.cons q p⟩
end
noncomputable def cmpB (op : CmpOp) (a b : V) : Option Bool := match cmpV op a b with
  | some r => some r
  | none => match op with
    | .Eq => eqD a b
    | .NotEq => (eqD a b).map not
    | _ => none
theorem cmpB_sound {A : Around} {H : Hid} {s : Shared} {op : CmpOp} {a b : V} {r : Bool} {x y : Value} (hu : A.units + 64 < cLine) (hx : VR prog w s.heap H a x) (hy : VR prog w s.heap H b y) (e : cmpB op a b = some r) :
    ∀ (Q : Value → Shared → Prop) E, Q (.bool r) s → wpAny (model prog w) A (compareOp op x y) Q E s := by
  intro Q E h
  unfold cmpB at e
  split at e
  · rename_i r' e'
    cases e
    exact cmp_sound hx hy e' Q E h
  · have key : ∀ q, eqD a b = some q → ∃ da db as bs, Reads s.heap x da as ∧ Reads s.heap y db bs ∧ SeqAt.shaped da = true ∧ SeqAt.shaped db = true ∧ PyData.eqv da db = q := by
      intro q e
      unfold eqD at e
      split at e
      · rename_i da db e1 e2
        split at e
        · rename_i hs
          rw [Bool.and_eq_true] at hs
          cases e
          obtain ⟨as, ra⟩ := py_reads e1 hx
          obtain ⟨bs, rb⟩ := py_reads e2 hy
          exact ⟨da, db, as, bs, ra, rb, hs.1, hs.2, rfl⟩
        · cases e
      · cases e
    split at e
    · obtain ⟨da, db, as, bs, ra, rb, sa, sb, rfl⟩ := key _ e
      exact eq_dataH ra rb sa sb hu h
    · obtain ⟨q, e1, rfl⟩ := Option.map_eq_some_iff.mp e
      obtain ⟨da, db, as, bs, ra, rb, sa, sb, rfl⟩ := key _ e1
      exact ne_dataH ra rb sa sb hu h
    · cases e
theorem Amb.room {n : Nat} {A : Around} (a : Amb (n + 1) A) : A.units + 64 < cLine := by have := a.units; omega
variable {K : Frag} {mg mb : Str → Option Value} {n : Nat} {env : Env} {lay : Lay}
theorem impl_cmp {l r : Expr} {op : CmpOp} {pos : Pos} {f g : St → Option V} (hf : Impl prog w K mg mb (n + 1) env lay (eval l env) f) (hg : Impl prog w K mg mb (n + 1) env lay (eval r env) g)
    (hm : behindInMarks op r = false := by with_unfolding_all rfl) :
    Impl prog w K mg mb (n + 1) env lay (eval (.Compare l [op] [r] pos) env) (fun σ => (f σ).bind fun a => (g σ).bind fun b => (cmpB op a b).map .bool) := by
  intro A s h₀ B O σ v a b F e Q E h
  obtain ⟨va, ea, e⟩ := Option.bind_eq_some_iff.mp e
  obtain ⟨vb, eb, e⟩ := Option.bind_eq_some_iff.mp e
  obtain ⟨r, er, rfl⟩ := Option.map_eq_some_iff.mp e
  refine wpAny_Compare1 (hf A s h₀ B O σ va a b F ea _ _ fun x s₁ k₁ r₁ => hg A s₁ h₀ B O σ vb a b (F.step k₁.kept) eb _ _ fun y s₂ k₂ r₂ => ?_) hm
  exact cmpB_sound a.room (r₁.keeps k₂.kept) r₂ er _ _ (h _ s₂ (k₁.trans k₂) (.bool _))
noncomputable def ImplT (prog : Program) (w : World) (K : Frag) (mg mb : Str → Option Value) (n : Nat) (env : Env) (lay : Lay) (t : Sem Bool) (f : St → Option Bool) : Prop :=
  ∀ A s h₀ B O σ r, Amb n A → Base K mg mb h₀ → Frm prog w env lay h₀ B O s.heap σ → f σ = some r → ∀ (Q : Bool → Shared → Prop) E, (∀ s', Step s s' → Q r s') → wpAny (model prog w) A t Q E s
theorem test_cmp {l r : Expr} {op : CmpOp} {pos : Pos} {whole : Sem Value} {f g : St → Option V} (hf : Impl prog w K mg mb (n + 1) env lay (eval l env) f) (hg : Impl prog w K mg mb (n + 1) env lay (eval r env) g)
    (hm : behindInMarks op r = false := by with_unfolding_all rfl) :
    ImplT prog w K mg mb (n + 1) env lay (isTrue (.Compare l [op] [r] pos) env whole) (fun σ => (f σ).bind fun a => (g σ).bind fun b => cmpB op a b) := by
  intro A s h₀ B O σ v a b F e Q E h
  obtain ⟨va, ea, e⟩ := Option.bind_eq_some_iff.mp e
  obtain ⟨vb, eb, e⟩ := Option.bind_eq_some_iff.mp e
  refine wpAny_isTrue_Compare1 (hf A s h₀ B O σ va a b F ea _ _ fun x s₁ k₁ r₁ => hg A s₁ h₀ B O σ vb a b (F.step k₁.kept) eb _ _ fun y s₂ k₂ r₂ => ?_) hm
  exact cmpB_sound a.room (r₁.keeps k₂.kept) r₂ e _ _ (wpAny_truthy_bool (h s₂ (k₁.trans k₂)))
theorem test_and_nil : ImplT prog w K mg mb n env lay (allTrue .And [] env) (fun _ => some true) := by
  intro A s h₀ B O σ v a b F e Q E h
  cases e
  exact wpAny_allTrue_And_nil (h _ (Step.refl _))
theorem test_and_cons {x : Expr} {rest : List Expr} {f g : St → Option Bool} (hf : ImplT prog w K mg mb n env lay (isTrue x env (eval x env)) f) (hg : ImplT prog w K mg mb n env lay (allTrue .And rest env) g) :
    ImplT prog w K mg mb n env lay (allTrue .And (x :: rest) env) (fun σ => (f σ).bind fun a => if a then g σ else some false) := by
  intro A s h₀ B O σ v a b F e Q E h
  obtain ⟨va, ea, e⟩ := Option.bind_eq_some_iff.mp e
  refine wpAny_allTrue_And_cons (hf A s h₀ B O σ va a b F ea _ _ fun s₁ k₁ => ?_)
  cases va with
  | true => exact hg A s₁ h₀ B O σ v a b (F.step k₁.kept) e _ _ fun s₂ k₂ => h s₂ (k₁.trans k₂)
  | false => cases e; exact h _ k₁
theorem test_bool {op : BoolOp} {values : List Expr} {pos : Pos} {whole : Sem Value} {f : St → Option Bool} (hf : ImplT prog w K mg mb n env lay (allTrue op values env) f) :
    ImplT prog w K mg mb n env lay (isTrue (.BoolOp op values pos) env whole) f := by
  intro A s h₀ B O σ v a b F e Q E h
  exact wpAny_isTrue_BoolOp (hf A s h₀ B O σ v a b F e _ _ h)
theorem impl_ifexp {test body orelse : Expr} {pos : Pos} {c : St → Option Bool} {f g : St → Option V} (hc : ImplT prog w K mg mb n env lay (isTrue test env (eval test env)) c)
    (hf : Impl prog w K mg mb n env lay (eval body env) f) (hg : Impl prog w K mg mb n env lay (eval orelse env) g) :
    Impl prog w K mg mb n env lay (eval (.IfExp test body orelse pos) env) (fun σ => (c σ).bind fun b => if b then f σ else g σ) := by
  intro A s h₀ B O σ v a b F e Q E h
  obtain ⟨va, ea, e⟩ := Option.bind_eq_some_iff.mp e
  refine wpAny_IfExp (hc A s h₀ B O σ va a b F ea _ _ fun s₁ k₁ => ?_)
  cases va with
  | true => exact hf A s₁ h₀ B O σ v a b (F.step k₁.kept) e _ _ fun x s₂ k₂ => h x s₂ (k₁.trans k₂)
  | false => exact hg A s₁ h₀ B O σ v a b (F.step k₁.kept) e _ _ fun x s₂ k₂ => h x s₂ (k₁.trans k₂)
noncomputable def negV : V → Option V
  | .int z => some (.int (-z))
  | _ => none
theorem impl_neg {x : Expr} {pos : Pos} {f : St → Option V} (hf : Impl prog w K mg mb n env lay (eval x env) f) :
    Impl prog w K mg mb n env lay (eval (.UnaryOp .USub x pos) env) (fun σ => (f σ).bind negV) := by
  intro A s h₀ B O σ v a b F e Q E h
  obtain ⟨va, ea, e⟩ := Option.bind_eq_some_iff.mp e
  refine wpAny_UnaryOp (hf A s h₀ B O σ va a b F ea _ _ fun x s₁ k₁ r₁ => ?_)
  unfold negV at e
  split at e
  · cases e; cases r₁; exact PyProof.Rows.neg_int (h _ _ (k₁.trans (Step.tok ..)) (.int ..))
  · cases e
noncomputable def ImplL (prog : Program) (w : World) (K : Frag) (mg mb : Str → Option Value) (n : Nat) (env : Env) (lay : Lay) (t : Sem (List Value)) (f : St → Option (List V)) : Prop :=
  ∀ A s h₀ B O σ l, Amb n A → Base K mg mb h₀ → Frm prog w env lay h₀ B O s.heap σ → f σ = some l → ∀ (Q : List Value → Shared → Prop) E, (∀ xs s', Step s s' → Items prog w s'.heap (hid B env O) l xs → Q xs s') → wpAny (model prog w) A t Q E s
theorem Items.nil {h : Heap} {H : Hid} : Items prog w h H [] [] := ⟨rfl, fun i v x e => by simp at e⟩
theorem Items.cons {h : Heap} {H : Hid} {v : V} {x : Value} {l : List V} {xs : List Value} (a : VR prog w h H v x) (b : Items prog w h H l xs) : Items prog w h H (v :: l) (x :: xs) := by
  refine ⟨by simp [b.1], fun i v' x' e1 e2 => ?_⟩
  cases i with
  | zero => simp at e1 e2; subst e1 e2; exact a
  | succ i => exact b.2 i v' x' (by simpa using e1) (by simpa using e2)
theorem Items.keeps {h h' : Heap} {H : Hid} {l : List V} {xs : List Value} (k : Kept h h') (a : Items prog w h H l xs) : Items prog w h' H l xs := ⟨a.1, fun i v x e1 e2 => (a.2 i v x e1 e2).keeps k⟩
theorem args_nil : ImplL prog w K mg mb n env lay (spliced []) (fun _ => some []) := by
  intro A s h₀ B O σ v a b F e Q E h
  cases e
  exact spliced_nil (h _ _ (Step.refl _) Items.nil)
theorem args_cons {t : Sem Value} {rest : List (Bool × Sem Value)} {f : St → Option V} {g : St → Option (List V)} (hf : Impl prog w K mg mb n env lay t f) (hg : ImplL prog w K mg mb n env lay (spliced rest) g) :
    ImplL prog w K mg mb n env lay (spliced ((false, t) :: rest)) (fun σ => (f σ).bind fun a => (g σ).bind fun l => some (a :: l)) := by
  intro A s h₀ B O σ v a b F e Q E h
  obtain ⟨va, ea, e⟩ := Option.bind_eq_some_iff.mp e
  obtain ⟨vl, el, e⟩ := Option.bind_eq_some_iff.mp e
  cases e
  exact spliced_cons (hf A s h₀ B O σ va a b F ea _ _ fun x s₁ k₁ r₁ => hg A s₁ h₀ B O σ vl a b (F.step k₁.kept) el _ _ fun xs s₂ k₂ r₂ => h _ s₂ (k₁.trans k₂) (Items.cons (r₁.keeps k₂.kept) r₂))
theorem impl_tuple {elts : List Expr} {k : Nat} {pos : Pos} {f : St → Option (List V)} (hf : ImplL prog w K mg mb n env lay (spliced (backTo pos (starEach elts env))) f) :
    Impl prog w K mg mb n env lay (eval (.Tuple elts k pos) env) (fun σ => (f σ).bind fun l => if l.length ≤ sizeLine then some (.tup l) else none) := by
  intro A s h₀ B O σ v a b F e Q E h
  obtain ⟨vl, el, e⟩ := Option.bind_eq_some_iff.mp e
  split at e
  · rename_i hz
    cases e
    refine wpAny_Tuple (hf A s h₀ B O σ vl a b F el _ _ fun xs s₁ k₁ r₁ => ⟨r₁.1 ▸ hz, ?_⟩)
    exact h _ _ (k₁.trans (Step.push ..)) (VR.newTuple (F.hidden.keeps k₁.kept) r₁)
  · cases e
theorem impl_list {elts : List Expr} {pos : Pos} {f : St → Option (List V)} (hf : ImplL prog w K mg mb n env lay (spliced (backTo pos (starEach elts env))) f) :
    Impl prog w K mg mb n env lay (eval (.List elts pos) env) (fun σ => (f σ).bind fun l => if l.length ≤ sizeLine then some (.lst l) else none) := by
  intro A s h₀ B O σ v a b F e Q E h
  obtain ⟨vl, el, e⟩ := Option.bind_eq_some_iff.mp e
  split at e
  · rename_i hz
    cases e
    refine wpAny_List (hf A s h₀ B O σ vl a b F el _ _ fun xs s₁ k₁ r₁ => ⟨r₁.1 ▸ hz, ?_⟩)
    exact h _ _ (k₁.trans (Step.push ..)) (VR.newList (F.hidden.keeps k₁.kept) r₁)
  · cases e
noncomputable def itemV (a i : V) : Option V := match a, i with
  | .tup l, .int z => if 0 ≤ z ∧ l.length ≤ sizeLine then l[z.toNat]? else none
  | .lst l, .int z => if 0 ≤ z ∧ l.length ≤ sizeLine then l[z.toNat]? else none
  | _, _ => none
theorem Items.at {h : Heap} {H : Hid} {l : List V} {xs : List Value} (a : Items prog w h H l xs) {i : Nat} {v : V} (e : l[i]? = some v) : ∃ x, xs[i]? = some x ∧ VR prog w h H v x := by
  have hi : i < l.length := (List.getElem?_eq_some_iff.mp e).1
  have hi' : i < xs.length := a.1 ▸ hi
  exact ⟨xs[i], List.getElem?_eq_getElem hi', a.2 i v _ e (List.getElem?_eq_getElem hi')⟩
theorem item_sound {A : Around} {H : Hid} {s : Shared} {a i v : V} {x y : Value} {value slice : Expr} (hx : VR prog w s.heap H a x) (hy : VR prog w s.heap H i y) (e : itemV a i = some v)
    (hs : ∀ (o : Addr) z t, subscripted slice false (.ref o) (.int z t) = operate [.ref o, .int z t] (getItem (.ref o) (.int z t))) :
    Ev prog w A H s (subscriptTail value slice x y) v := by
  intro Q E h
  unfold itemV at e
  split at e
  · split at e
    · rename_i l z hz
      cases hx with
      | tup a l xs ho hH hl hx =>
      cases hy
      obtain ⟨q, hq, r⟩ := Items.at ⟨hl, hx⟩ e
      have hlt : z.toNat < xs.length := (List.getElem?_eq_some_iff.mp hq).1
      have hb : xs.length ≤ sizeLine := hl ▸ hz.2
      have h0 := hz.1
      rw [sizeLine_eq] at hb
      refine item_tupleT (j := z.toNat) (l := xs) ho (by omega) (by omega) ?_ hq (h _ _ (Step.refl _) r) (hs _ _ _)
      unfold seqIndex?
      have h1 : ¬ z < 0 := by omega
      simp only [h1, if_false]
      rw [if_pos (by simp only [Bool.and_eq_true, decide_eq_true_eq]; omega)]
    · cases e
  · split at e
    · rename_i l z hz
      cases hx with
      | lst a l xs ho hH hl hx =>
      cases hy
      obtain ⟨q, hq, r⟩ := Items.at ⟨hl, hx⟩ e
      have hlt : z.toNat < xs.length := (List.getElem?_eq_some_iff.mp hq).1
      have hb : xs.length ≤ sizeLine := hl ▸ hz.2
      have h0 := hz.1
      rw [sizeLine_eq] at hb
      exact tail_any ho.isList.typeIs slot_list_getitem.lookup (wpAny_getItem_list ho.isList hz.1 (by omega) (by simpa using hq) (h _ _ (Step.refl _) r)) (hs _ _ _)
    · cases e
  · cases e
theorem impl_sub {value slice : Expr} {pos : Pos} {f g : St → Option V} (hf : Impl prog w K mg mb n env lay (eval value env) f) (hg : Impl prog w K mg mb n env lay (eval slice env) g)
    (hs : ∀ (o : Addr) z t, subscripted slice false (.ref o) (.int z t) = operate [.ref o, .int z t] (getItem (.ref o) (.int z t)) := by intro _ _ _; with_unfolding_all rfl) :
    Impl prog w K mg mb n env lay (eval (.Subscript value slice pos) env) (fun σ => (f σ).bind fun a => (g σ).bind fun b => itemV a b) := by
  intro A s h₀ B O σ v a b F e Q E h
  obtain ⟨va, ea, e⟩ := Option.bind_eq_some_iff.mp e
  obtain ⟨vb, eb, e⟩ := Option.bind_eq_some_iff.mp e
  refine Subscript_ (hf A s h₀ B O σ va a b F ea _ _ fun x s₁ k₁ r₁ => hg A s₁ h₀ B O σ vb a b (F.step k₁.kept) eb _ _ fun y s₂ k₂ r₂ => ?_)
  exact item_sound (r₁.keeps k₂.kept) r₂ e hs _ _ fun z s₃ k₃ r₃ => h z s₃ ((k₁.trans k₂).trans k₃) r₃
end Mine
end Core4_part
section Core5_part
open PySem PySem.W PyProof.Rows PySem.Calls
set_option Elab.async false
set_option genSizeOfSpec false
set_option genInjectivity false
set_option maxRecDepth 100000
namespace Mine
variable {prog : Program} {w : World}
noncomputable def St.put (σ : St) (i : Nat) (sl : Slot) : St := { σ with vars := σ.vars.set i sl }
namespace Frm
variable {env : Env} {lay : Lay} {h₀ h h' : Heap} {B : Hid} {O : List Addr} {σ : St}
theorem goesBut {a : Addr} (ha : hid B env O a) (k : ∀ b o, b ≠ a → h.get? b = some o → h'.get? b = some o) : Goes h (hid B env O) h' (hid B env O) :=
  ⟨fun b o n e => k b o (fun q => n (q ▸ ha)) e, fun _ _ n _ => n⟩
end Frm
theorem getElem?_set_self' {α : Type} {l : List α} {i : Nat} {a b : α} (h : (l.set i a)[i]? = some b) : b = a := by
  rw [List.getElem?_set] at h
  simp only [if_true] at h
  split at h
  · exact (Option.some.inj h).symm
  · cases h
noncomputable def Same (s s' : Shared) : Prop := ∃ h tk, s' = { s with heap := h, toks := tk }
theorem Same.refl (s : Shared) : Same s s := ⟨_, _, rfl⟩
theorem Same.trans {s s' s'' : Shared} (x : Same s s') (y : Same s' s'') : Same s s'' := by
  obtain ⟨h, tk, rfl⟩ := x
  obtain ⟨h', tk', rfl⟩ := y
  exact ⟨_, _, rfl⟩
theorem Step.toSame {s s' : Shared} (x : Step s s') : Same s s' := x.same
noncomputable def ownH (env : Env) (O : List Addr) : Hid := fun a => a = env.locals ∨ (∃ n, env.cells.lookup n = some a) ∨ a ∈ O
structure Mv (env : Env) (O O' : List Addr) (s s' : Shared) : Prop where
  same : Same s s'
  kept : ∀ b o, ¬ ownH env O b → s.heap.get? b = some o → s'.heap.get? b = some o
  fresh : ∀ a ∈ O', a ∈ O ∨ s.heap.get? a = none
  pre : ∀ (k : Nat) a, O[k]? = some a → O'[k]? = some a
theorem Mv.of {env : Env} {O : List Addr} {s s' : Shared} (x : Step s s') : Mv env O O s s' := ⟨x.same, fun b o _ e => x.kept b o e, fun _ ha => .inl ha, fun _ _ e => e⟩
theorem Mv.trans {prog : Program} {w : World} {env : Env} {lay : Lay} {h₀ : Heap} {B : Hid} {O O' O'' : List Addr} {σ : St} {s s' s'' : Shared} (F : Frm prog w env lay h₀ B O' s'.heap σ) (x : Mv env O O' s s') (y : Mv env O' O'' s' s'') : Mv env O O'' s s'' where
  same := x.same.trans y.same
  pre := fun k a e => y.pre k a (x.pre k a e)
  kept := fun b o n e => y.kept b o (fun q => by
    rcases q with q | q | q
    · exact n (.inl q)
    · exact n (.inr (.inl q))
    · rcases x.fresh b q with q | q
      · exact n (.inr (.inr q))
      · rw [e] at q; cases q) (x.kept b o n e)
  fresh := fun a ha => by
    rcases y.fresh a ha with q | q
    · exact x.fresh a q
    · by_cases hO : a ∈ O
      · exact .inl hO
      · right
        cases e : s.heap.get? a with
        | none => rfl
        | some o =>
          exfalso
          have hex : ∃ o', s'.heap.get? a = some o' := by
            by_cases ho : ownH env O a
            · rcases ho with q | q | q
              · exact F.hidden a (.inr (.inl q))
              · exact F.hidden a (.inr (.inr (.inl q)))
              · exact absurd q hO
            · exact ⟨o, x.kept a o ho e⟩
          obtain ⟨o', e'⟩ := hex
          rw [q] at e'; cases e'
theorem Frm.store {A : Around} {E : Value → Shared → Prop} {s : Shared} {Q : Unit → Shared → Prop} {env : Env} {lay : Lay} {h₀ : Heap} {B : Hid} {O : List Addr} {σ : St} {i : Nat} {x : Str} {k : Acc} {sl : Slot} {y : Value}
    (F : Frm prog w env lay h₀ B O s.heap σ) (hi : lay.names[i]? = some (x, k)) (hk : k ≠ .cap) (r : SlotR prog w s.heap (hid B env O) O sl (some y))
    (h : ∀ h' tk, Mv env O O s { s with heap := h', toks := tk } → Frm prog w env lay h₀ B O h' (σ.put i sl) → Q () { s with heap := h', toks := tk }) :
    wpAny (model prog w) A (storeName env x y) Q E s := by
  obtain ⟨hkd, _, _⟩ := F.name hi
  have oth : ∀ (j : Nat) x' k' sl', lay.names[j]? = some (x', k') → (σ.put i sl).vars[j]? = some sl' → (x' = x ∧ sl' = sl ∧ k' = k) ∨ (x' ≠ x ∧ σ.vars[j]? = some sl') := by
    intro j x' k' sl' e1 e2
    unfold St.put at e2
    by_cases hj : j = i
    · subst hj
      rw [hi] at e1
      cases e1
      exact .inl ⟨rfl, getElem?_set_self' e2, rfl⟩
    · right
      rw [List.getElem?_set_ne (Ne.symm hj)] at e2
      exact ⟨fun q => hj (F.distinct (q ▸ e1) hi), e2⟩
  cases k with
  | cap => exact absurd rfl hk
  | loc =>
    obtain ⟨m, hn, hr⟩ := F.ns
    refine wpAny_storeName_local (Acc.fits_loc hkd) hn (fun h' hn' hs' => ?_) (by rw [F.fn]; rfl)
    have hl : hid B env O env.locals := .inr (.inl rfl)
    have kb : ∀ b o, b ≠ env.locals → s.heap.get? b = some o → h'.get? b = some o := fun b o n e => hs'.extBut b o n e
    have g := Frm.goesBut (B := B) (O := O) hl kb
    refine h h' _ ⟨⟨_, _, rfl⟩, fun b o nb e => kb b o (fun q => nb (.inl q)) e, fun a ha => .inl ha, fun _ _ e => e⟩ ?_
    exact {
      ok := F.ok, glob := F.glob, blt := F.blt
      keep := fun b o e => kb b o (fun q => by have := F.locN; rw [← q, e] at this; cases this) (F.keep b o e)
      under := fun a ha => by
        by_cases q : a = env.locals
        · subst q
          obtain ⟨o, es, ep, e, _⟩ := hn'
          exact ⟨o, e⟩
        · obtain ⟨o, e⟩ := F.under a ha
          exact ⟨o, kb a o q e⟩
      locN := F.locN, oNew := F.oNew, oNodup := F.oNodup, cApart := F.cApart
      cLoc := fun n c m => ⟨(F.cLoc n c m).1, let ⟨o, e⟩ := (F.cLoc n c m).2; ⟨o, kb _ _ (F.cLoc n c m).1 e⟩⟩
      cNew := F.cNew, oLen := F.oLen
      vLen := by unfold St.put; simp [F.vLen]
      ns := ⟨_, hn', fun j x' sl' e1 e2 => by
        rcases oth j x' _ sl' e1 e2 with ⟨rfl, rfl, _⟩ | ⟨n, e3⟩
        · simp only [if_true]; exact r.go g fun _ _ e => e
        · simp only [if_neg n]; exact (hr j x' sl' e1 e3).go g fun _ _ e => e⟩
      cs := fun j x' k' sl' e1 hk' e2 => by
        rcases oth j x' _ sl' e1 e2 with ⟨_, _, rfl⟩ | ⟨n, e3⟩
        · exact absurd rfl hk'
        · obtain ⟨c, y', e4, e5, e6⟩ := F.cs j x' k' sl' e1 hk' e3
          exact ⟨c, y', e4, e5.sameBut hs' (F.cLoc x' c e4).1, e6.go g fun _ _ e => e⟩
      os := fun k a v e1 e2 => (F.os k a v e1 e2).go g (fun _ _ e => e) (fun o e => kb a o (F.oNew a (List.mem_of_getElem? e1)).2.1 e) fun b o e1 e => kb b o (F.oNew b (List.mem_of_getElem? e1)).2.1 e }
  | cell =>
    have hiv : i < σ.vars.length := by rw [F.vLen]; exact (List.getElem?_eq_some_iff.mp hi).1
    obtain ⟨c, y₀, hc, hcell, _⟩ := F.cs i x .cell _ hi (by decide) (List.getElem?_eq_getElem hiv)
    have hcm := mem_of_lookup hc
    refine wpAny_storeName_cell F.fn (Acc.fits_cell hkd) hc hcell fun h' hc' hs' => ?_
    have hl : hid B env O c := .inr (.inr (.inl ⟨x, hc⟩))
    have kb : ∀ b o, b ≠ c → s.heap.get? b = some o → h'.get? b = some o := fun b o n e => hs'.extBut b o n e
    have g := Frm.goesBut (B := B) (O := O) hl kb
    refine h h' _ ⟨⟨_, _, rfl⟩, fun b o nb e => kb b o (fun q => nb (.inr (.inl ⟨x, q ▸ hc⟩))) e, fun a ha => .inl ha, fun _ _ e => e⟩ ?_
    exact {
      ok := F.ok, glob := F.glob, blt := F.blt
      keep := fun b o e => kb b o (fun q => by have := F.cNew x (List.mem_of_getElem? hi) c hc; rw [← q, e] at this; cases this) (F.keep b o e)
      under := fun a ha => by
        by_cases q : a = c
        · subst q
          obtain ⟨o, ho, _⟩ := hc'
          exact ⟨o, ho⟩
        · obtain ⟨o, e⟩ := F.under a ha
          exact ⟨o, kb a o q e⟩
      locN := F.locN, oNew := F.oNew, oNodup := F.oNodup, cApart := F.cApart
      cLoc := fun n c₁ m => ⟨(F.cLoc n c₁ m).1, by
        by_cases q : c₁ = c
        · subst q
          obtain ⟨o, ho, _⟩ := hc'
          exact ⟨o, ho⟩
        · exact let ⟨o, e⟩ := (F.cLoc n c₁ m).2; ⟨o, kb _ _ q e⟩⟩
      cNew := F.cNew, oLen := F.oLen
      vLen := by unfold St.put; simp [F.vLen]
      ns := by
        obtain ⟨m, hn, hr⟩ := F.ns
        exact ⟨m, hn.sameBut hs' (Ne.symm (F.cLoc x c hc).1), fun j x' sl' e1 e2 => by
          rcases oth j x' _ sl' e1 e2 with ⟨_, _, q⟩ | ⟨n, e3⟩
          · cases q
          · exact (hr j x' sl' e1 e3).go g fun _ _ e => e⟩
      cs := fun j x' k' sl' e1 hk' e2 => by
        rcases oth j x' _ sl' e1 e2 with ⟨rfl, rfl, rfl⟩ | ⟨n, e3⟩
        · exact ⟨c, some y, hc, hc', r.go g fun _ _ e => e⟩
        · obtain ⟨c₁, y', e4, e5, e6⟩ := F.cs j x' k' sl' e1 hk' e3
          exact ⟨c₁, y', e4, e5.sameBut hs' (fun q => n (name_of_addr F.cApart (mem_of_lookup e4) (q ▸ hcm))), e6.go g fun _ _ e => e⟩
      os := fun k a v e1 e2 => (F.os k a v e1 e2).go g (fun _ _ e => e) (fun o e => kb a o (fun q => (F.oNew a (List.mem_of_getElem? e1)).2.2.1 x (q ▸ hc)) e) fun b o e1 e => kb b o (fun q => (F.oNew b (List.mem_of_getElem? e1)).2.2.1 x (q ▸ hc)) e }
theorem hid_nil {B : Hid} {env : Env} {O : List Addr} (a : Addr) (q : hid B env [] a) : hid B env O a := by
  rcases q with q | q | q | q
  · exact .inl q
  · exact .inr (.inl q)
  · exact .inr (.inr (.inl q))
  · cases q
inductive Fl where
  | next | brk | cont
  | ret (v : V)
noncomputable def FlR (prog : Program) (w : World) (h : Heap) (H : Hid) : Fl → Flow → Prop
  | .next, f => f = .next
  | .brk, f => f = .brk
  | .cont, f => f = .cont
  | .ret v, f => ∃ x, f = .ret x ∧ VR prog w h H v x
noncomputable def ImplS (prog : Program) (w : World) (K : Frag) (mg mb : Str → Option Value) (n : Nat) (env : Env) (lay : Lay) (t : Sem Flow) (f : St → Option (Fl × St)) : Prop :=
  ∀ A s h₀ B O σ r σ', Amb n A → Base K mg mb h₀ → Frm prog w env lay h₀ B O s.heap σ → f σ = some (r, σ') → ∀ (Q : Flow → Shared → Prop) E,
    (∀ x s' O', Mv env O O' s s' → Frm prog w env lay h₀ B O' s'.heap σ' → FlR prog w s'.heap (hid B env []) r x → Q x s') → wpAny (model prog w) A t Q E s
noncomputable def ImplA (prog : Program) (w : World) (K : Frag) (mg mb : Str → Option Value) (n : Nat) (env : Env) (lay : Lay) (t : Value → Sem Unit) (f : V → St → Option St) : Prop :=
  ∀ A s h₀ B O σ v y σ', Amb n A → Base K mg mb h₀ → Frm prog w env lay h₀ B O s.heap σ → VR prog w s.heap (hid B env O) v y → f v σ = some σ' → ∀ (Q : Unit → Shared → Prop) E,
    (∀ s', Mv env O O s s' → Frm prog w env lay h₀ B O s'.heap σ' → Q () s') → wpAny (model prog w) A (t y) Q E s
variable {K : Frag} {mg mb : Str → Option Value} {n : Nat} {env : Env} {lay : Lay}
theorem tgt_name (i : Nat) {x : Str} {k : Acc} {pos : Pos} (hi : lay.names[i]? = some (x, k) := by rfl) (hk : k ≠ .cap := by decide) : ImplA prog w K mg mb n env lay (assign (.Name x pos) env) (fun v σ => some (σ.put i (.val v))) := by
  intro A s h₀ B O σ v y σ' a b F r e Q E h
  cases e
  exact wpAny_assign_Name (F.store (sl := .val v) hi hk ⟨y, rfl, r⟩ fun h' tk k F' => h _ k F')
theorem stm_nil : ImplS prog w K mg mb n env lay (execs [] env) (fun σ => some (.next, σ)) := by
  intro A s h₀ B O σ r σ' a b F e Q E h
  cases e
  exact wpAny_execs_nil (h _ _ _ (Mv.of (Step.refl _)) F rfl)
noncomputable def thenS (f g : St → Option (Fl × St)) (σ : St) : Option (Fl × St) := (f σ).bind fun p => match p with
  | (.next, σ') => g σ'
  | p => some p
theorem stm_cons {st : Stmt} {rest : List Stmt} {f g : St → Option (Fl × St)} (hf : ImplS prog w K mg mb n env lay (exec st env) f) (hg : ImplS prog w K mg mb n env lay (execs rest env) g) :
    ImplS prog w K mg mb n env lay (execs (st :: rest) env) (thenS f g) := by
  intro A s h₀ B O σ r σ' a b F e Q E h
  unfold thenS at e
  obtain ⟨⟨r₁, σ₁⟩, e1, e⟩ := Option.bind_eq_some_iff.mp e
  refine wpAny_execs_cons (hf A s h₀ B O σ r₁ σ₁ a b F e1 _ _ fun x s₁ O₁ k₁ F₁ q₁ => ?_)
  cases r₁ with
  | next =>
    cases q₁
    exact hg A s₁ h₀ B O₁ σ₁ r σ' a b F₁ e _ _ fun x s₂ O₂ k₂ F₂ q₂ => h x s₂ O₂ (Mv.trans F₁ k₁ k₂) F₂ q₂
  | brk => cases q₁; cases e; exact h _ _ _ k₁ F₁ rfl
  | cont => cases q₁; cases e; exact h _ _ _ k₁ F₁ rfl
  | ret v =>
    obtain ⟨y, rfl, q₁⟩ := q₁
    cases e
    exact h _ _ _ k₁ F₁ ⟨y, rfl, q₁⟩
theorem stm_assign (i : Nat) {x : Str} {k : Acc} {pos' pos : Pos} {value : Expr} {f : St → Option V} (hf : Impl prog w K mg mb n env lay (eval value env) f) (hi : lay.names[i]? = some (x, k) := by rfl) (hk : k ≠ .cap := by decide)
    (hs : swapsWith value (some (.Name x pos')) pos.line env = pure false := by rfl) :
    ImplS prog w K mg mb n env lay (exec (.Assign [.Name x pos'] value pos) env) (fun σ => (f σ).bind fun v => some (.next, σ.put i (.val v))) := by
  intro A s h₀ B O σ r σ' a b F e Q E h
  obtain ⟨v, ev, e⟩ := Option.bind_eq_some_iff.mp e
  cases e
  refine wpAny_Assign_Name (hf A s h₀ B O σ v a b F ev _ _ fun x s₁ k₁ r₁ => ?_) hs
  refine (F.step k₁.kept).store (sl := .val v) hi hk ⟨_, rfl, r₁⟩ fun h' tk k₂ F' => ?_
  exact h _ _ O (Mv.trans (F.step k₁.kept) (Mv.of k₁) k₂) F' rfl
theorem stm_aug (i : Nat) {x : Str} {k : Acc} {pos' pos : Pos} {op : Operator} {value : Expr} {f : St → Option V} (hf : Impl prog w K mg mb n env lay (eval value env) f) (hi : lay.names[i]? = some (x, k) := by rfl) (hk : k ≠ .cap := by decide)
    (hop : op = .Add := by rfl) :
    ImplS prog w K mg mb n env lay (exec (.AugAssign (.Name x pos') op value pos) env) (fun σ => (σ.get i).bind fun a => (f σ).bind fun v => match a, v with
      | .int a, .int b => some (.next, σ.put i (.val (.int (a + b))))
      | _, _ => none) := by
  subst hop
  intro A s h₀ B O σ r σ' a b F e Q E h
  obtain ⟨v, ev, e⟩ := Option.bind_eq_some_iff.mp e
  obtain ⟨v', ev', e⟩ := Option.bind_eq_some_iff.mp e
  refine wpAny_AugAssign_Name (load_sound hi F ev fun y r => hf A s h₀ B O σ v' a b F ev' _ _ fun x s₁ k₁ r₁ => ?_)
  cases v with
  | int za =>
    cases v' with
    | int zb =>
      cases r; cases r₁; cases e
      exact wpAny_iadd_int ((F.step (k₁.trans (Step.tok ..)).kept).store (sl := .val (.int (za + zb))) hi hk ⟨_, rfl, .int ..⟩ fun h' tk k₂ F' => h _ _ O (Mv.trans (F.step (k₁.trans (Step.tok ..)).kept) (Mv.of (k₁.trans (Step.tok ..))) k₂) F' rfl)
    | _ => cases e
  | _ => cases e
theorem stm_if {test : Expr} {body orelse : List Stmt} {pos : Pos} {c : St → Option Bool} {f g : St → Option (Fl × St)} (hc : ImplT prog w K mg mb n env lay (isTrue test env (eval test env)) c)
    (hf : ImplS prog w K mg mb n env lay (execs body env) f) (hg : ImplS prog w K mg mb n env lay (execs orelse env) g) :
    ImplS prog w K mg mb n env lay (exec (.If test body orelse pos) env) (fun σ => (c σ).bind fun b => if b then f σ else g σ) := by
  intro A s h₀ B O σ r σ' a b F e Q E h
  obtain ⟨vb, ev, e⟩ := Option.bind_eq_some_iff.mp e
  refine wpAny_If (hc A s h₀ B O σ vb a b F ev _ _ fun s₁ k₁ => ?_)
  cases vb with
  | true => exact hf A s₁ h₀ B O σ r σ' a b (F.step k₁.kept) e _ _ fun x s₂ O' k₂ F' q => h x s₂ O' (Mv.trans (F.step k₁.kept) (Mv.of k₁) k₂) F' q
  | false => exact hg A s₁ h₀ B O σ r σ' a b (F.step k₁.kept) e _ _ fun x s₂ O' k₂ F' q => h x s₂ O' (Mv.trans (F.step k₁.kept) (Mv.of k₁) k₂) F' q
theorem stm_ret {e : Expr} {pos : Pos} {f : St → Option V} (hf : Impl prog w K mg mb n env lay (eval e env) f) :
    ImplS prog w K mg mb n env lay (exec (.Return (some e) pos) env) (fun σ => (f σ).bind fun v => some (.ret v, σ)) := by
  intro A s h₀ B O σ r σ' a b F e Q E h
  obtain ⟨v, ev, e⟩ := Option.bind_eq_some_iff.mp e
  cases e
  exact wpAny_Return_some (hf A s h₀ B O σ v a b F ev _ _ fun x s₁ k₁ r₁ => h _ _ O (Mv.of k₁) (F.step k₁.kept) ⟨x, rfl, r₁.less hid_nil⟩)
theorem stm_break {pos : Pos} : ImplS prog w K mg mb n env lay (exec (.Break pos) env) (fun σ => some (.brk, σ)) := by
  intro A s h₀ B O σ r σ' a b F e Q E h
  cases e
  exact wpAny_Break (h _ _ O (Mv.of (Step.refl _)) F rfl)
end Mine
end Core5_part
section Core6_part
open PySem PySem.W PyProof.Rows PySem.Calls
set_option Elab.async false
set_option maxRecDepth 100000
namespace Mine
variable {prog : Program} {w : World} {K : Frag} {mg mb : Str → Option Value} {n : Nat} {env : Env} {lay : Lay}
noncomputable def FnSpec (prog : Program) (w : World) (K : Frag) (mg mb : Str → Option Value) (n : Nat) (fv : Value) (F : List V → Option V) : Prop :=
  ∀ A s B args xs v, Amb n A → Base K mg mb s.heap → Under B s.heap → F args = some v → Items prog w s.heap B args xs → Ev prog w A B s (call fv xs) v
theorem FnSpec.eq {fv : Value} {F F' : List V → Option V} (i : FnSpec prog w K mg mb n fv F) (e : ∀ a v, F' a = some v → F a = some v) : FnSpec prog w K mg mb n fv F' :=
  fun A s B args xs v a b u q => i A s B args xs v a b u (e _ _ q)
theorem bindL_skip (kd : Str → Option NameKind) : ∀ (l : List (Str × Value)) (m : Str → Option Value) (x : Str), x ∉ l.map (·.1) → bindL kd l m x = m x
  | [], m, x, _ => rfl
  | (n, v) :: r, m, x, h => by
    simp only [List.map_cons, List.mem_cons, not_or] at h
    unfold bindL
    rw [bindL_skip kd r _ x h.2]
    split
    · simp [h.1]
    · rfl
theorem bindC_skip (kd : Str → Option NameKind) : ∀ (l : List (Str × Value)) (m : Str → Option Value) (x : Str), x ∉ l.map (·.1) → bindC kd l m x = m x
  | [], m, x, _ => rfl
  | (n, v) :: r, m, x, h => by
    simp only [List.map_cons, List.mem_cons, not_or] at h
    unfold bindC
    rw [bindC_skip kd r _ x h.2]
    split
    · rfl
    · simp [h.1]
theorem bindL_get (kd : Str → Option NameKind) : ∀ (l : List (Str × Value)) (m : Str → Option Value) (i : Nat) (x : Str) (v : Value), (l.map (·.1)).Nodup → l[i]? = some (x, v) → kd x = some .local → bindL kd l m x = some v
  | [], m, i, x, v, _, h, _ => by simp at h
  | (n, y) :: r, m, i, x, v, hn, h, hk => by
    simp only [List.map_cons, List.nodup_cons] at hn
    cases i with
    | zero =>
      simp at h
      obtain ⟨rfl, rfl⟩ := h
      unfold bindL
      rw [bindL_skip kd r _ n hn.1, if_pos hk]
      simp
    | succ i => exact bindL_get kd r _ i x v hn.2 (by simpa using h) hk
theorem bindC_get (kd : Str → Option NameKind) : ∀ (l : List (Str × Value)) (m : Str → Option Value) (i : Nat) (x : Str) (v : Value), (l.map (·.1)).Nodup → l[i]? = some (x, v) → kd x = some .cell → bindC kd l m x = some v
  | [], m, i, x, v, _, h, _ => by simp at h
  | (n, y) :: r, m, i, x, v, hn, h, hk => by
    simp only [List.map_cons, List.nodup_cons] at hn
    cases i with
    | zero =>
      simp at h
      obtain ⟨rfl, rfl⟩ := h
      unfold bindC
      rw [bindC_skip kd r _ n hn.1, if_neg (by rw [hk]; decide)]
      simp
    | succ i => exact bindC_get kd r _ i x v hn.2 (by simpa using h) hk
noncomputable def initSt (lay : Lay) (args : List V) : St := { vars := args.map Slot.val ++ List.replicate (lay.names.length - args.length) Slot.no, owns := [] }
noncomputable def retV : Option (Fl × St) → Option V
  | some (.ret v, _) => some v
  | some (.next, _) => some .none
  | _ => none
noncomputable def defOk (fd : FuncData) (lay : Lay) (ps : List Str) (L : Addr) : Bool :=
  layOk fd.scope lay && decide (ps.length ≤ lay.names.length) && decide ((lay.names.take ps.length).map (·.1) = ps) && (lay.names.all fun p => !(p.2 == .cap)) &&
    (lay.names.all fun p => !(p.2 == .cell) || ((cellsFrom (L + 1) fd.scope.names []).lookup p.1).isSome) && (fd.globals == mainGlobals) && (fd.builtins == builtinsNs)
theorem len1 {α : Type} {xs : List α} (h : xs.length = 1) : ∃ a, xs = [a] := match xs, h with | [a], _ => ⟨a, rfl⟩
theorem len2 {α : Type} {xs : List α} (h : xs.length = 2) : ∃ a b, xs = [a, b] := match xs, h with | [a, b], _ => ⟨a, b, rfl⟩
theorem len3 {α : Type} {xs : List α} (h : xs.length = 3) : ∃ a b c, xs = [a, b, c] := match xs, h with | [a, b, c], _ => ⟨a, b, c, rfl⟩
theorem if_some {α : Type} {c : Prop} [Decidable c] {o : Option α} {v : α} (e : (if c then o else none) = some v) : c ∧ o = some v := by
  split at e
  · rename_i h
    exact ⟨h, e⟩
  · cases e
theorem fn_code {f : Addr} {oc : Value} {od : Option Addr} {osl : Array (Option Value)} {fd : FuncData} {body : List Stmt} {ps : List Str} {fb : St → Option (Fl × St)}
    (ho : K.lookup f = some ⟨oc, od, .func fd, osl⟩) (hbody : fd.body = .stmts body) (hclo : fd.closure = []) (hcd : codeIn K fd.code fd.qualname = true)
    (hok : ∀ L, defOk fd lay ps L = true)
    (hbind : ∀ xs : List Value, xs.length = ps.length → bindArgs fd ⟨xs, []⟩ = pure (ps.zip xs))
    (hb : ∀ L, ImplS prog w K mg mb n (callEnvC fd L f) lay (execs body (callEnvC fd L f)) fb)
    (hco : fd.scope.isCoroutine = false := by rfl) (hgen : fd.scope.isGenerator = false := by rfl) :
    ∀ A s B args xs v, Amb (n + 1) A → Base K mg mb s.heap → Under B s.heap → (if args.length = ps.length then retV (fb (initSt lay args)) else none) = some v → Items prog w s.heap B args xs →
    ∀ R : Result → Shared → Prop, (∀ x s', Step s s' → VR prog w s'.heap B v x → R (.ok (.ret x)) s') → codeAny (model prog w) A (.call (.ref f) ⟨xs, []⟩) R s := by
  intro A s B args xs v am b u e it R h
  split at e
  · rename_i hlen
    have hlx : xs.length = ps.length := it.1 ▸ hlen
    have hok' := hok s.heap.objs.size
    unfold defOk at hok'
    simp only [Bool.and_eq_true, decide_eq_true_eq, beq_iff_eq, List.all_eq_true, Bool.or_eq_true, Bool.not_eq_true'] at hok'
    obtain ⟨⟨⟨⟨⟨⟨hl1, hl2⟩, hl3⟩, hl4⟩, hl5⟩, hl6⟩, hl7⟩ := hok'
    have hl1' := hl1
    unfold layOk at hl1'
    simp only [Bool.and_eq_true, beq_iff_eq, List.all_eq_true, Bool.not_eq_true', decide_eq_true_eq] at hl1'
    have hfn := hl1'.1.1.1
    have hzl : (ps.zip xs).map (·.1) = ps := List.map_fst_zip (by omega)
    have hat : ∀ (i : Nat) x k, lay.names[i]? = some (x, k) → i < ps.length → ps[i]? = some x := by
      intro i x k e1 hi
      rw [← hl3, List.getElem?_map, List.getElem?_take_of_lt hi, e1]
      rfl
    have hnd : ps.Nodup := by
      have := hl1'.1.2
      rw [← hl3, List.map_take]
      exact this.sublist (List.take_sublist ..)
    have hpk : ∀ x ∈ ps, ∃ k, (x, k) ∈ lay.names ∧ k.fits (fd.scope.names.lookup x) = true := by
      intro x hx
      rw [← hl3] at hx
      obtain ⟨⟨y, k⟩, hy, rfl⟩ := List.mem_map.mp hx
      have hy' := List.mem_of_mem_take hy
      exact ⟨k, hy', (hl1'.1.1.2 _ hy').1.1⟩
    refine codeAny_call_cells (fd := fd) (body := body) (binds := ps.zip xs) (by have := am.depth; omega) ((b.X) _ _ ho) rfl b.nl (codeRec_of b.X hcd) hbody (hbind xs hlx) hclo ?_ ?_ hco hgen hfn
    · intro x hx
      have hx1 : x.1 ∈ ps := by rw [← hzl]; exact List.mem_map_of_mem hx
      obtain ⟨k, hk1, hk2⟩ := hpk x.1 hx1
      cases k with
      | loc => exact .inl (Acc.fits_loc hk2)
      | cell =>
        refine .inr ⟨Acc.fits_cell hk2, ?_⟩
        have := hl5 _ hk1
        simpa using this
      | cap => have := hl4 _ hk1; simp at this
    · intro s₁ X
      obtain ⟨⟨h₁, tk₁, rfl⟩, hns, hkeep, hfresh⟩ := X.toInCall
      have hzi : ∀ (i : Nat) x k, lay.names[i]? = some (x, k) → (hi : i < ps.length) → ∃ y, xs[i]? = some y ∧ (ps.zip xs)[i]? = some (x, y) := by
        intro i x k e1 hi
        have := hat i x k e1 hi
        have hix : i < xs.length := by omega
        refine ⟨xs[i], List.getElem?_eq_getElem hix, ?_⟩
        rw [List.getElem?_zip_eq_some]
        exact ⟨this, List.getElem?_eq_getElem hix⟩
      have gone : ∀ a, s.heap.objs.size ≤ a → s.heap.get? a = none := fun a ha => get_size_none _ ha
      have hslot : ∀ (i : Nat) sl, (initSt lay args).vars[i]? = some sl → (∃ hv : i < args.length, sl = .val args[i]) ∨ (args.length ≤ i ∧ sl = .no) := by
        intro i sl e1
        unfold initSt at e1
        by_cases hi : i < args.length
        · rw [List.getElem?_append_left (by simpa using hi)] at e1
          rw [List.getElem?_map, List.getElem?_eq_getElem hi] at e1
          exact .inl ⟨hi, (Option.some.inj e1).symm⟩
        · rw [List.getElem?_append_right (by simpa using Nat.le_of_not_lt hi)] at e1
          rw [List.getElem?_replicate] at e1
          split at e1
          · exact .inr ⟨Nat.le_of_not_lt hi, (Option.some.inj e1).symm⟩
          · cases e1
      have hg : Goes s.heap B h₁ (hid B (callEnvC fd s.heap.objs.size f) []) := by
        refine ⟨fun b o _ e => hkeep b o e, fun a o na e => ?_⟩
        have hlt := Heap.lt_size e
        rintro (q | q | ⟨n', q⟩ | q)
        · exact na q
        · have q' : a = s.heap.objs.size := q
          exact Nat.lt_irrefl _ (q' ▸ hlt)
        · have q' : s.heap.objs.size < a := X.above n' a (mem_of_lookup q)
          exact Nat.lt_asymm q' hlt
        · cases q
      have F : Frm prog w (callEnvC fd s.heap.objs.size f) lay s.heap B [] h₁ (initSt lay args) := {
        ok := hl1, glob := hl6, blt := hl7, keep := hkeep, under := u.keeps hkeep
        locN := gone _ (Nat.le_refl _)
        oNew := fun a ha => by cases ha
        oNodup := List.nodup_nil
        cApart := X.apart
        cLoc := fun n' c q => ⟨fun z => by have := X.above n' c (mem_of_lookup q); rw [z] at this; exact Nat.lt_irrefl _ this, let ⟨o, e1, _⟩ := X.cell n' c q; ⟨o, e1⟩⟩
        cNew := fun x _ c q => gone c (Nat.le_of_lt (X.above x c (mem_of_lookup q)))
        oLen := rfl
        vLen := by unfold initSt; simp; omega
        ns := ⟨_, hns, fun i x sl e1 e2 => by
          rcases hslot i sl e2 with ⟨hi, rfl⟩ | ⟨_, rfl⟩
          · obtain ⟨y, e3, e4⟩ := hzi i x _ e1 (by omega)
            have hkd : (callEnvC fd s.heap.objs.size f).kindOf x = some .local := Acc.fits_loc (hl1'.1.1.2 _ (List.mem_of_getElem? e1)).1.1
            exact ⟨y, bindL_get _ _ _ i x y (by rw [hzl]; exact hnd) e4 hkd, (it.2 i _ _ (List.getElem?_eq_getElem hi) e3).go hg⟩
          · trivial⟩
        cs := fun i x k sl e1 hk e2 => by
          have hm := List.mem_of_getElem? e1
          have hfit := (hl1'.1.1.2 _ hm).1.1
          cases k with
          | loc => exact absurd rfl hk
          | cap => have := hl4 _ hm; simp at this
          | cell =>
            have hs := hl5 _ hm
            have hs : ((cellsFrom (s.heap.objs.size + 1) fd.scope.names []).lookup x).isSome = true := by
              rcases hs with q | q
              · cases q
              · exact q
            obtain ⟨c, hc⟩ := Option.isSome_iff_exists.mp hs
            refine ⟨c, _, hc, X.cell x c hc, ?_⟩
            rcases hslot i sl e2 with ⟨hi, rfl⟩ | ⟨_, rfl⟩
            · obtain ⟨y, e3, e4⟩ := hzi i x _ e1 (by omega)
              have hkd : (callEnvC fd s.heap.objs.size f).kindOf x = some .cell := Acc.fits_cell hfit
              exact ⟨y, bindC_get _ _ _ i x y (by rw [hzl]; exact hnd) e4 hkd, (it.2 i _ _ (List.getElem?_eq_getElem hi) e3).go hg⟩
            · trivial
        os := fun k a v e1 => by cases e1 }
      cases hfb : fb (initSt lay args) with
      | none => rw [hfb] at e; cases e
      | some p =>
      obtain ⟨r, σ'⟩ := p
      rw [hfb] at e
      refine hb s.heap.objs.size (A.deeper _) _ s.heap B [] _ r σ' ⟨am.handled, by have := am.depth; show A.depth + 1 + 4 * n < _; omega, by have := am.units; show A.units + 3 + 40 * n + 40 < _; omega⟩ b F hfb _ _ fun x s' O' k F' q => ?_
      obtain ⟨h₂, tk₂, rfl⟩ := k.same
      have st : Step s { heap := h₂, gens := s.gens, drawn := s.drawn, toks := tk₂, os := s.os } := Step.of F'.keep
      cases r with
      | next => cases q; cases e; exact h _ _ st .none
      | brk => cases e
      | cont => cases e
      | ret v' =>
        obtain ⟨y, rfl, q⟩ := q
        cases e
        exact h _ _ st (q.less fun a ha => .inl ha)
  · cases e
theorem fn_spec {f : Addr} {oc : Value} {od : Option Addr} {osl : Array (Option Value)} {fd : FuncData} {body : List Stmt} {ps : List Str} {fb : St → Option (Fl × St)}
    (ho : K.lookup f = some ⟨oc, od, .func fd, osl⟩) (hbody : fd.body = .stmts body) (hclo : fd.closure = []) (hcd : codeIn K fd.code fd.qualname = true)
    (hok : ∀ L, defOk fd lay ps L = true)
    (hbind : ∀ xs : List Value, xs.length = ps.length → bindArgs fd ⟨xs, []⟩ = pure (ps.zip xs))
    (hb : ∀ L, ImplS prog w K mg mb n (callEnvC fd L f) lay (execs body (callEnvC fd L f)) fb)
    (hco : fd.scope.isCoroutine = false := by rfl) (hgen : fd.scope.isGenerator = false := by rfl) :
    FnSpec prog w K mg mb (n + 1) (.ref f) (fun args => if args.length = ps.length then retV (fb (initSt lay args)) else none) := by
  intro A s B args xs v am b u e it Q E h
  exact wpAny_call (fn_code ho hbody hclo hcd hok hbind hb hco hgen A s B args xs v am b u e it _ fun x s' st r => h x s' st r)
end Mine
end Core6_part
section Core7_part
open PySem PySem.W PyProof.Rows PySem.Calls
set_option Elab.async false
set_option genSizeOfSpec false
set_option genInjectivity false
set_option maxRecDepth 100000
namespace Mine
variable {prog : Program} {w : World} {K : Frag} {mg mb : Str → Option Value} {n : Nat} {env : Env} {lay : Lay}
theorem Frm.reb {h₀ h h' : Heap} {B B' : Hid} {O : List Addr} {σ : St} (F : Frm prog w env lay h₀ B O h σ) (k : Kept h h') (u : Under B' h') (c : ∀ b o, h.get? b = some o → B' b → B b) : Frm prog w env lay h₀ B' O h' σ :=
  have g : Goes h (hid B env O) h' (hid B' env O) := ⟨fun b o _ e => k b o e, fun b o n e q => n (by
    rcases q with q | q | q | q
    · exact .inl (c b o e q)
    · exact .inr (.inl q)
    · exact .inr (.inr (.inl q))
    · exact .inr (.inr (.inr q)))⟩
  { ok := F.ok, glob := F.glob, blt := F.blt
    keep := Kept.trans F.keep k
    under := u, locN := F.locN
    oNew := fun a ha => ⟨(F.oNew a ha).1, (F.oNew a ha).2.1, (F.oNew a ha).2.2.1, fun q => let ⟨o, e⟩ := F.hidden a (.inr (.inr (.inr ha))); (F.oNew a ha).2.2.2 (c a o e q)⟩
    oNodup := F.oNodup, cApart := F.cApart
    cLoc := fun n c m => ⟨(F.cLoc n c m).1, let ⟨o, e⟩ := (F.cLoc n c m).2; ⟨o, k _ _ e⟩⟩
    cNew := F.cNew, oLen := F.oLen, vLen := F.vLen
    ns := let ⟨m, hn, hr⟩ := F.ns; ⟨m, hn.keeps k, fun i x sl e1 e2 => (hr i x sl e1 e2).go g fun _ _ e => e⟩
    cs := fun i x kd sl e1 e2 e3 => let ⟨c, y, e4, e5, e6⟩ := F.cs i x kd sl e1 e2 e3; ⟨c, y, e4, e5.keeps k, e6.go g fun _ _ e => e⟩
    os := fun i a v e1 e2 => (F.os i a v e1 e2).go g (fun _ _ e => e) (fun o e => k _ o e) fun b o _ e => k b o e }
theorem Mv.goes {B : Hid} {O O' : List Addr} {s s' : Shared} (m : Mv env O O' s s') : Goes s.heap (hid B env O) s'.heap (hid B env O') := by
  refine ⟨fun b o n e => m.kept b o (fun q => n (.inr q)) e, fun b o n e q => ?_⟩
  rcases q with q | q | q | q
  · exact n (.inl q)
  · exact n (.inr (.inl q))
  · exact n (.inr (.inr (.inl q)))
  · rcases m.fresh b q with q | q
    · exact n (.inr (.inr (.inr q)))
    · rw [e] at q; cases q
noncomputable def asgs : List (V → St → Option St) → List V → St → Option St
  | [], [], σ => some σ
  | f :: fs, v :: vs, σ => (f v σ).bind (asgs fs vs)
  | _, _, _ => none
inductive ImplAs (prog : Program) (w : World) (K : Frag) (mg mb : Str → Option Value) (n : Nat) (env : Env) (lay : Lay) : List (Value → Sem Unit) → List (V → St → Option St) → Prop
  | nil : ImplAs prog w K mg mb n env lay [] []
  | cons {t : Value → Sem Unit} {f : V → St → Option St} {ts fs} : ImplA prog w K mg mb n env lay t f → ImplAs prog w K mg mb n env lay ts fs → ImplAs prog w K mg mb n env lay (t :: ts) (f :: fs)
theorem asgs_sound {A : Around} {h₀ : Heap} {B : Hid} {O : List Addr} (am : Amb n A) (b : Base K mg mb h₀) : ∀ {ts : List (Value → Sem Unit)} {fs : List (V → St → Option St)} {l : List V} {xs : List Value} {s : Shared} {σ σ' : St},
    ImplAs prog w K mg mb n env lay ts fs → Frm prog w env lay h₀ B O s.heap σ → Items prog w s.heap (hid B env O) l xs → asgs fs l σ = some σ' → ∀ (Q : Unit → Shared → Prop) E,
    (∀ s', Mv env O O s s' → Frm prog w env lay h₀ B O s'.heap σ' → Q () s') → wpAny (model prog w) A (assignInOrder ts xs) Q E s
  | _, _, [], xs, s, σ, σ', .nil, F, it, e, Q, E, h => by
    cases e
    cases xs with
    | nil => exact wpAny_pure (h s (Mv.of (Step.refl _)) F)
    | cons x xs => cases it.1
  | _, _, v :: l, xs, s, σ, σ', .nil, F, it, e, Q, E, h => by cases e
  | _, _, [], xs, s, σ, σ', .cons _ _, F, it, e, Q, E, h => by cases e
  | _, _, v :: l, xs, s, σ, σ', .cons (ts := ts) (fs := fs) ha hs, F, it, e, Q, E, h => by
    cases xs with
    | nil => cases it.1
    | cons x xs =>
    unfold asgs at e
    obtain ⟨σ₁, e1, e⟩ := Option.bind_eq_some_iff.mp e
    unfold assignInOrder
    refine wpAny_bind (wpAny_holding (ha A s h₀ B O σ v x σ₁ am b F (it.2 0 v x rfl rfl) e1 _ _ fun s₁ m₁ F₁ => ?_))
    exact asgs_sound am b hs F₁ ⟨by simpa using it.1, fun i v' x' a b' => (it.2 (i + 1) v' x' (by simpa using a) (by simpa using b')).go m₁.goes⟩ e _ _ fun s₂ m₂ F₂ => h s₂ (Mv.trans F₁ m₁ m₂) F₂
noncomputable def asgT (fs : List (V → St → Option St)) (v : V) (σ : St) : Option St := match v with
  | .tup l => if l.length = fs.length then asgs fs l σ else none
  | _ => none
theorem Step.ext {s : Shared} {h' : Heap} (e : Heap.ExtBut s.heap.objs.size s.heap h') : Step s { s with heap := h' } := ⟨⟨_, _, rfl⟩, fun b o q => e b o (Nat.ne_of_lt (Heap.lt_size q)) q⟩
theorem ImplAs.len {ts : List (Value → Sem Unit)} {fs : List (V → St → Option St)} (h : ImplAs prog w K mg mb n env lay ts fs) : ts.length = fs.length := by
  induction h with
  | nil => rfl
  | cons _ _ ih => rw [List.length_cons, List.length_cons, ih]
theorem tgt_tuple {elts : List Expr} {k : Nat} {pos : Pos} {fs : List (V → St → Option St)} (ha : ImplAs prog w K mg mb n env lay ((assignEach elts env).map (·.2)) fs)
    (hf : (assignEach elts env).findIdx? (·.1) = none := by rfl) : ImplA prog w K mg mb n env lay (assign (.Tuple elts k pos) env) (asgT fs) := by
  have hl : (assignEach elts env).length = fs.length := by rw [← ha.len, List.length_map]
  intro A s h₀ B O σ v y σ' a b F r e Q E h
  unfold asgT at e
  split at e
  · rename_i l
    split at e
    · rename_i hlen
      cases r with
      | tup t l xs ho hH hll hx =>
      refine wpAny_assign_Tuple a.handled ho (by rw [hl, ← hlen, hll]; simp) hf fun h' hs' => ?_
      have st := Step.ext hs'
      exact asgs_sound a b ha (F.step st.kept) (Items.keeps st.kept ⟨hll, hx⟩) e _ _ fun s₂ m₂ F₂ => h s₂ (Mv.trans (F.step st.kept) (Mv.of st) m₂) F₂
    · cases e
  · cases e
structure It (prog : Program) (w : World) (A : Around) (tgt : Expr) (it : Value) (vs : List V) (fp wr : List Addr) (St : Nat → Heap → Prop) (Val : Heap → Hid → Prop) : Prop where
  sub : ∀ b ∈ wr, b ∈ fp
  alive : ∀ i h, St i h → ∀ b ∈ fp, ∃ o, h.get? b = some o
  frame : ∀ i h h', St i h → (∀ b ∈ fp, ∀ o, h.get? b = some o → h'.get? b = some o) → St i h'
  go : ∀ h H h' H', Val h H → Goes h H h' H' → Val h' H'
  item : ∀ i v s H (Q : Option Value → Shared → Prop) (Qa : Value → Shared → Prop) E E', vs[i]? = some v → St i s.heap → Val s.heap H → (∀ b ∈ wr, H b) → Under H s.heap →
    (∀ x s₁, wpAny (model prog w) A (letOwnedTupleGo tgt it x) (fun _ s₂ => Qa x s₂) E' s₁ → Q (some x) s₁) →
    (∀ x s', Same s s' → (∀ b o, b ∉ wr → s.heap.get? b = some o → s'.heap.get? b = some o) → St (i + 1) s'.heap → VR prog w s'.heap H v x → Qa x s') →
    wpAny (model prog w) A (pyNext it) Q E s
  done : ∀ s (Q : Option Value → Shared → Prop) E, St vs.length s.heap → (∀ s', Same s s' → (∀ b o, b ∉ wr → s.heap.get? b = some o → s'.heap.get? b = some o) → Q none s') → wpAny (model prog w) A (pyNext it) Q E s
  self : ∀ i s (Q : Value → Shared → Prop) E, St i s.heap → Q it s → wpAny (model prog w) A (pyIter it) Q E s
noncomputable def Iters (prog : Program) (w : World) (tgt : Expr) (v : V) (vs : List V) : Prop :=
  ∀ A s H x (Q : Value → Shared → Prop) E, A.handled = none → Under H s.heap → VR prog w s.heap H v x →
    (∀ it s' fp wr St Val, Step s s' → It prog w A tgt it vs fp wr St Val → St 0 s'.heap → Val s'.heap (fun a => H a ∨ a ∈ wr) → (∀ b ∈ wr, s.heap.get? b = none) → (∀ b ∈ fp, ¬ H b) → Q it s') → wpAny (model prog w) A (pyIter x) Q E s
noncomputable def loopF (asg : V → St → Option St) (body : St → Option (Fl × St)) : List V → St → Option (Fl × St)
  | [], σ => some (.next, σ)
  | v :: r, σ => (asg v σ).bind fun σ₁ => (body σ₁).bind fun p => match p with
    | (.next, σ₂) => loopF asg body r σ₂
    | (.cont, σ₂) => loopF asg body r σ₂
    | (.brk, σ₂) => some (.next, σ₂)
    | (.ret v, σ₂) => some (.ret v, σ₂)
noncomputable def Bw (B : Hid) (wr : List Addr) : Hid := fun a => B a ∨ a ∈ wr
theorem Frm.turn {h₀ h h' : Heap} {B₁ B₂ : Hid} {O wr : List Addr} {σ : St} (F : Frm prog w env lay h₀ B₁ O h σ) (k : ∀ b o, b ∉ wr → h.get? b = some o → h'.get? b = some o) (hwB : ∀ b ∈ wr, B₁ b) (hw0 : ∀ b ∈ wr, h₀.get? b = none)
    (hwo : ∀ b ∈ wr, ¬ ownH env O b) (u : Under B₂ h') (c : ∀ b o, h.get? b = some o → B₂ b → B₁ b) : Frm prog w env lay h₀ B₂ O h' σ :=
  have g : Goes h (hid B₁ env O) h' (hid B₂ env O) := ⟨fun b o n e => k b o (fun q => n (.inl (hwB b q))) e, fun b o n e q => n (by
    rcases q with q | q | q | q
    · exact .inl (c b o e q)
    · exact .inr (.inl q)
    · exact .inr (.inr (.inl q))
    · exact .inr (.inr (.inr q)))⟩
  have ko : ∀ b o, ownH env O b → h.get? b = some o → h'.get? b = some o := fun b o q e => k b o (fun z => hwo b z q) e
  { ok := F.ok, glob := F.glob, blt := F.blt
    keep := fun b o e => k b o (fun q => by rw [hw0 b q] at e; cases e) (F.keep b o e)
    under := u, locN := F.locN
    oNew := fun a ha => ⟨(F.oNew a ha).1, (F.oNew a ha).2.1, (F.oNew a ha).2.2.1, fun q => let ⟨o, e⟩ := F.hidden a (.inr (.inr (.inr ha))); (F.oNew a ha).2.2.2 (c a o e q)⟩
    oNodup := F.oNodup, cApart := F.cApart
    cLoc := fun n c m => ⟨(F.cLoc n c m).1, let ⟨o, e⟩ := (F.cLoc n c m).2; ⟨o, ko _ _ (.inr (.inl ⟨n, m⟩)) e⟩⟩
    cNew := F.cNew, oLen := F.oLen, vLen := F.vLen
    ns := let ⟨m, hn, hr⟩ := F.ns; ⟨m, hn.at' (fun o e => ko _ _ (.inl rfl) e), fun i x sl e1 e2 => (hr i x sl e1 e2).go g fun _ _ e => e⟩
    cs := fun i x kd sl e1 e2 e3 => let ⟨c, y, e4, ⟨o, e5, e5'⟩, e6⟩ := F.cs i x kd sl e1 e2 e3; ⟨c, y, e4, ⟨o, ko _ _ (.inr (.inl ⟨x, e4⟩)) e5, e5'⟩, e6.go g fun _ _ e => e⟩
    os := fun i a v e1 e2 => (F.os i a v e1 e2).go g (fun _ _ e => e) (fun o e => ko _ _ (.inr (.inr (List.mem_of_getElem? e1))) e) fun b o e1 e => ko _ _ (.inr (.inr (List.mem_of_getElem? e1))) e }
theorem hid_Bw {B : Hid} {wr O : List Addr} {b : Addr} (h : hid (Bw B wr) env O b) : hid B env O b ∨ b ∈ wr := by
  rcases h with (q | q) | q | q | q
  · exact .inl (.inl q)
  · exact .inr q
  · exact .inl (.inr (.inl q))
  · exact .inl (.inr (.inr (.inl q)))
  · exact .inl (.inr (.inr (.inr q)))
theorem for_sound {A : Around} {h₀ : Heap} {B : Hid} {tgt : Expr} {it : Value} {vs : List V} {fp wr : List Addr} {St' : Nat → Heap → Prop} {Val : Heap → Hid → Prop} {body : List Stmt} {asg : V → St → Option St} {fb : St → Option (Fl × St)}
    {R : Result → Shared → Prop} {s₀ s : Shared} {O : List Addr} {σ σ' : St} {r : Fl}
    (am : Amb n A) (b : Base K mg mb h₀) (ha : ImplA prog w K mg mb n env lay (assign tgt env) asg) (hb : ImplS prog w K mg mb n env lay (execs body env) fb)
    (W : It prog w A tgt it vs fp wr St' Val) (k₀ : Step s₀ s) (hst : St' 0 s.heap) (hval : Val s.heap (fun a => hid B env O a ∨ a ∈ wr)) (hwr : ∀ b ∈ wr, s₀.heap.get? b = none) (hfp : ∀ b ∈ fp, ¬ hid B env O b) (F₀ : Frm prog w env lay h₀ B O s₀.heap σ)
    (e : loopF asg fb vs σ = some (r, σ'))
    (h : ∀ x s' O', Mv env O O' s₀ s' → Frm prog w env lay h₀ B O' s'.heap σ' → FlR prog w s'.heap (hid B env []) r x → R (.ok x) s') :
    codeAny (model prog w) A (.forLoop tgt it body [] env) R s := by
  have hw0 : ∀ b ∈ wr, h₀.get? b = none := fun b hb => by
    cases q : h₀.get? b with
    | none => rfl
    | some o => have := F₀.keep b o q; rw [hwr b hb] at this; cases this
  have hu : Under (Bw B wr) s.heap := by
    rintro a (q | q)
    · obtain ⟨o, e⟩ := F₀.under a q
      exact ⟨o, k₀.kept a o e⟩
    · exact W.alive 0 _ hst a (W.sub a q)
  have F : Frm prog w env lay h₀ (Bw B wr) O s.heap σ := F₀.reb k₀.kept hu fun b o e q => q.elim id fun q => by rw [hwr b q] at e; cases e
  have hBe : ∀ b, B b → b ∉ wr := fun b q z => by
    obtain ⟨o, e⟩ := F₀.under b q
    rw [hwr b z] at e; cases e
  refine codeAny_forLoop_any (fun m s₁ => ∃ i O₁ σ₁, m = vs.length - i ∧ i ≤ vs.length ∧ St' i s₁.heap ∧ Val s₁.heap (hid (Bw B wr) env O₁) ∧ (∀ b ∈ fp, ¬ ownH env O₁ b) ∧ Frm prog w env lay h₀ (Bw B wr) O₁ s₁.heap σ₁ ∧
    loopF asg fb (vs.drop i) σ₁ = some (r, σ') ∧ Mv env O O₁ s₀ s₁ ∧ Under B s₁.heap) ?_ vs.length ?_
  · rintro m s₁ ⟨i, O₁, σ₁, rfl, hi, hst₁, hval₁, hfp₁, F₁, e₁, mw, uB⟩
    have hwo : ∀ b ∈ wr, ¬ ownH env O₁ b := fun b q => hfp₁ b (W.sub b q)
    cases hv : vs[i]? with
    | none =>
      have hi' : i = vs.length := by
        have := List.getElem?_eq_none_iff.mp hv
        omega
      subst hi'
      rw [List.drop_length] at e₁
      cases e₁
      refine W.done s₁ _ _ hst₁ fun s₂ k₂ kk => ?_
      dsimp only
      refine wpAny_execs_nil ?_
      refine h .next s₂ O₁ ⟨mw.same.trans k₂, fun b o nb e => kk b o (fun q => by rw [hwr b q] at e; cases e) (mw.kept b o nb e), mw.fresh, mw.pre⟩ ?_ rfl
      exact F₁.turn kk (fun b q => .inr q) hw0 hwo (fun a q => let ⟨o, e⟩ := uB a q; ⟨o, kk a o (hBe a q) e⟩) fun b o _ q => .inl q
    | some v =>
      have hi' : i < vs.length := (List.getElem?_eq_some_iff.mp hv).1
      have hd : vs.drop i = v :: vs.drop (i + 1) := by
        rw [List.drop_eq_getElem_cons hi']
        rw [List.getElem?_eq_getElem hi'] at hv
        rw [Option.some.inj hv]
      rw [hd] at e₁
      unfold loopF at e₁
      obtain ⟨σ₂, ea, e₁⟩ := Option.bind_eq_some_iff.mp e₁
      obtain ⟨⟨r₃, σ₃⟩, eb, e₁⟩ := Option.bind_eq_some_iff.mp e₁
      refine W.item i v s₁ (hid (Bw B wr) env O₁) _ _ _ _ hv hst₁ hval₁ (fun b q => .inl (.inr q)) F₁.hidden (fun _ _ z => z) fun x s₂ k₂ kk st₂ r₂ => ?_
      have F₂ : Frm prog w env lay h₀ (Bw B wr) O₁ s₂.heap σ₁ := F₁.turn kk (fun b q => .inr q) hw0 hwo (by
        rintro a (q | q)
        · obtain ⟨o, e⟩ := uB a q
          exact ⟨o, kk a o (hBe a q) e⟩
        · exact W.alive _ _ st₂ a (W.sub a q)) fun b o _ q => q
      refine ha A s₂ h₀ (Bw B wr) O₁ σ₁ v x σ₂ am b F₂ r₂ ea _ _ fun s₃ m₃ F₃ => ?_
      refine hb A s₃ h₀ (Bw B wr) O₁ σ₂ r₃ σ₃ am b F₃ eb _ _ fun y s₄ O₄ m₄ F₄ q₄ => ?_
      have m₂₄ : Mv env O₁ O₄ s₂ s₄ := Mv.trans F₃ m₃ m₄
      have mw₂ : Mv env O O₁ s₀ s₂ := ⟨mw.same.trans k₂, fun b o nb e => kk b o (fun q => by rw [hwr b q] at e; cases e) (mw.kept b o nb e), mw.fresh, mw.pre⟩
      have mw₄ : Mv env O O₄ s₀ s₄ := Mv.trans F₂ mw₂ m₂₄
      have uB₄ : Under B s₄.heap := fun a q => F₄.under a (.inl q)
      have fin : Frm prog w env lay h₀ B O₄ s₄.heap σ₃ := F₄.reb (Kept.refl _) uB₄ fun b o _ q => .inl q
      have hfp₄ : ∀ b ∈ fp, ¬ ownH env O₄ b := fun b hb q => by
        obtain ⟨o, e⟩ := W.alive _ _ st₂ b hb
        rcases q with q | q | q
        · exact hfp₁ b hb (.inl q)
        · exact hfp₁ b hb (.inr (.inl q))
        · rcases m₂₄.fresh b q with q | q
          · exact hfp₁ b hb (.inr (.inr q))
          · rw [e] at q; cases q
      have again : ∀ r' σ'', loopF asg fb (vs.drop (i + 1)) σ₃ = some (r', σ'') → r' = r ∧ σ'' = σ' → ∃ m, m < vs.length - i ∧ ∃ i O₁ σ₁, m = vs.length - i ∧ i ≤ vs.length ∧ St' i s₄.heap ∧ Val s₄.heap (hid (Bw B wr) env O₁) ∧ (∀ b ∈ fp, ¬ ownH env O₁ b) ∧
          Frm prog w env lay h₀ (Bw B wr) O₁ s₄.heap σ₁ ∧ loopF asg fb (vs.drop i) σ₁ = some (r, σ') ∧ Mv env O O₁ s₀ s₄ ∧ Under B s₄.heap := by
        rintro _ _ e₅ ⟨rfl, rfl⟩
        exact ⟨vs.length - (i + 1), by omega, i + 1, O₄, σ₃, rfl, hi', W.frame _ _ _ st₂ fun b hb o e => m₂₄.kept b o (hfp₁ b hb) e,
          W.go _ _ _ _ (W.go _ _ _ _ hval₁ ⟨fun b o nb e => kk b o (fun q => nb (.inl (.inr q))) e, fun _ _ nb _ => nb⟩) m₂₄.goes, hfp₄, F₄, e₅, mw₄, uB₄⟩
      cases r₃ with
      | next => cases q₄; exact again _ _ e₁ ⟨rfl, rfl⟩
      | cont => cases q₄; exact again _ _ e₁ ⟨rfl, rfl⟩
      | brk =>
        cases q₄
        cases e₁
        exact h .next s₄ O₄ mw₄ fin rfl
      | ret v' =>
        obtain ⟨z, rfl, q₄⟩ := q₄
        cases e₁
        exact h _ s₄ O₄ mw₄ fin ⟨z, rfl, q₄.less fun a q => by
          rcases q with q | q
          · exact .inl (.inl q)
          · exact .inr q⟩
  · refine ⟨0, O, σ, rfl, Nat.zero_le _, hst, W.go _ _ _ _ hval ⟨fun b o _ e => e, fun b o nb e q => ?_⟩, fun b hb q => hfp b hb (.inr q), F, e, Mv.of k₀, F₀.under.keeps k₀.kept⟩
    exact nb (hid_Bw q)
end Mine
end Core7_part
section Core8_part
open PySem PySem.W PyProof.Rows PySem.Calls
set_option Elab.async false
set_option genSizeOfSpec false
set_option genInjectivity false
set_option maxRecDepth 100000
namespace Mine
variable {prog : Program} {w : World} {K : Frag} {mg mb : Str → Option Value} {n : Nat} {env : Env} {lay : Lay}
noncomputable def ImplI (prog : Program) (w : World) (K : Frag) (mg mb : Str → Option Value) (n : Nat) (env : Env) (lay : Lay) (tgt : Expr) (t : Sem Value) (f : St → Option (List V)) : Prop :=
  ∀ A s h₀ B O σ vs, Amb n A → Base K mg mb h₀ → Frm prog w env lay h₀ B O s.heap σ → f σ = some vs → ∀ (Q : Value → Shared → Prop) E,
    (∀ it s' fp wr St' Val, Step s s' → It prog w A tgt it vs fp wr St' Val → St' 0 s'.heap → Val s'.heap (fun a => hid B env O a ∨ a ∈ wr) → (∀ b ∈ wr, s.heap.get? b = none) → (∀ b ∈ fp, ¬ hid B env O b) → Q it s') →
    wpAny (model prog w) A t (fun x s₁ => wpAny (model prog w) A (pyIter x) Q E s₁) E s
theorem stm_for {tgt iter : Expr} {body : List Stmt} {pos : Pos} {fi : St → Option (List V)} {asg : V → St → Option St} {fb : St → Option (Fl × St)} (hi : ImplI prog w K mg mb n env lay tgt (eval iter env) fi)
    (ha : ImplA prog w K mg mb n env lay (assign tgt env) asg) (hb : ImplS prog w K mg mb n env lay (execs body env) fb) (hs : ∀ x, foldedSetIterable iter env x = pure x := by intro _; rfl) :
    ImplS prog w K mg mb n env lay (exec (.For tgt iter body [] pos) env) (fun σ => (fi σ).bind fun vs => loopF asg fb vs σ) := by
  intro A s h₀ B O σ r σ' a b F e Q E h
  obtain ⟨vs, ei, e⟩ := Option.bind_eq_some_iff.mp e
  refine wpAny_For (hi A s h₀ B O σ vs a b F ei _ _ fun it s' fp wr St' Val k W hst hval hwr hfp => ?_) hs
  exact for_sound (s₀ := s) a b ha hb W k hst hval hwr hfp F e fun x s₂ O' m F' q => h x s₂ O' m F' q
theorem lo_plain {A : Around} {E : Value → Shared → Prop} {s : Shared} {Q : Unit → Shared → Prop} {tgt : Expr} {I : Addr} {x : Value} {o : Obj} {T : String} (hI : s.heap.get? I = some o) (hc : o.cls = .type T)
    (hT : (["enumerate", "zip", "dict_itemiterator", "dict_reverseitemiterator", "odict_iterator", "itertools.zip_longest", "itertools.pairwise"].contains T) = false) (h : Q () s) :
    wpAny (model prog w) A (letOwnedTupleGo tgt (.ref I) x) Q E s := by
  unfold letOwnedTupleGo
  have key : wpAny (model prog w) A (do
      let (.ref r, .ref a) := (Value.ref I, x) | return
      let o ← load r
      match o.cls, o.data with
      | .type n, .fields vs =>
        if ["enumerate", "zip", "dict_itemiterator", "dict_reverseitemiterator", "odict_iterator", "itertools.zip_longest", "itertools.pairwise"].contains n && vs[0]? == some (rawInt a) then
          rule "for.unpacks-the-owned-tuple"
          updateField r 0 .none
      | _, _ => pure ()) Q E s := by
    cases x <;> try exact wpAny_pure h
    refine wpAny_bind (wpAny_load hI ?_)
    rw [hc]
    cases o.data <;> first | exact wpAny_pure h | skip
    dsimp only
    rw [hT, Bool.false_and]
    exact wpAny_pure h
  split
  · exact key
  · exact key
  · exact wpAny_pure h
theorem It.ofWalks {A : Around} {tgt : Expr} {I : Addr} {fp wr : List Addr} {m : Nat} {P : Nat → Value → Prop} {St' : Nat → Heap → Prop} {vs : List V} {Val : Heap → Hid → Prop} (T : String)
    (W : Walks prog w A I fp wr m P St') (hm : vs.length = m) (alive : ∀ i h, St' i h → ∀ b ∈ fp, ∃ o, h.get? b = some o)
    (hT : (["enumerate", "zip", "dict_itemiterator", "dict_reverseitemiterator", "odict_iterator", "itertools.zip_longest", "itertools.pairwise"].contains T) = false)
    (hc : ∀ i h, St' i h → ∃ o, h.get? I = some o ∧ o.cls = .type T) (go : ∀ h H h' H', Val h H → Goes h H h' H' → Val h' H')
    (hv : ∀ i v x h H, vs[i]? = some v → P i x → Val h H → VR prog w h H v x) : It prog w A tgt (.ref I) vs fp wr St' Val where
  sub := W.sub
  alive := alive
  frame := W.frame
  go := go
  item := fun i v s H Q Qa E E' e st val hw _ hq hQ => by
    have hlt : i < m := hm ▸ (List.getElem?_eq_some_iff.mp e).1
    refine W.item i s Q E hlt st fun x h' tk hP st' kk => hq x _ ?_
    obtain ⟨o, ho, hcl⟩ := hc _ _ st'
    refine lo_plain ho hcl hT ?_
    exact hQ x _ ⟨_, _, rfl⟩ kk st' (hv i v x _ _ e hP (go _ _ _ _ val ⟨fun b o nb e => kk b o (fun q => nb (hw b q)) e, fun _ _ nb _ => nb⟩))
  done := fun s Q E st hQ => W.done s Q E (hm ▸ st) fun h' tk kk => hQ _ ⟨_, _, rfl⟩ kk
  self := W.self
theorem iter_list {tgt : Expr} (l : List V) : Iters prog w tgt (.lst l) l := by
  intro A s H x Q E hh u r hQ
  cases r with
  | lst a l xs ho hH hl hx =>
  refine wpAny_pyIter_list ho.isList ?_
  obtain ⟨o, hoa, _⟩ := id ho.isList
  have hne : a ≠ s.heap.objs.size := Nat.ne_of_lt (Heap.lt_size hoa)
  have k : Step s { s with heap := s.heap.push { cls := .type "list_iterator", data := .fields #[.ref a, .int 0 0] } } := Step.push ..
  refine hQ _ _ [s.heap.objs.size, a] [s.heap.objs.size] _ (fun h H => Items prog w h H l xs) k
    (It.ofWalks "list_iterator" (Walks.list (prog := prog) (w := w) hh s.heap.objs.size a hne xs.toArray) (by simpa using hl) ?_ (by decide) (fun i h st => let ⟨o, e, c, _⟩ := st.1; ⟨o, e, c⟩) (fun _ _ _ _ v g => v.go g) ?_)
    ⟨⟨_, Heap.get?_push_size _ rfl, rfl, rfl⟩, ho.isList.push _⟩ ?_ ?_ ?_
  · rintro i h ⟨⟨o, e1, _⟩, ⟨o', e2, _⟩⟩ b hb
    simp only [List.mem_cons, List.not_mem_nil, or_false] at hb
    rcases hb with rfl | rfl
    · exact ⟨o, e1⟩
    · exact ⟨o', e2⟩
  · intro i v x h H e hP val
    exact val.2 i v x e (by simpa using hP)
  · refine Items.go (h := s.heap) (H := H) ⟨fun b o _ e => k.kept b o e, fun b o nb e q => ?_⟩ ⟨hl, hx⟩
    rcases q with q | q
    · exact nb q
    · rw [List.mem_singleton.mp q] at e
      exact absurd (Heap.lt_size e) (Nat.lt_irrefl _)
  · intro b hb
    rw [List.mem_singleton.mp hb]
    exact get_size_none _ (Nat.le_refl _)
  · intro b hb
    simp only [List.mem_cons, List.not_mem_nil, or_false] at hb
    rcases hb with rfl | rfl
    · exact u.size
    · exact hH
theorem iter_tuple {tgt : Expr} (l : List V) : Iters prog w tgt (.tup l) l := by
  intro A s H x Q E hh u r hQ
  cases r with
  | tup a l xs ho hH hl hx =>
  refine wpAny_pyIter_tuple ho ?_
  obtain ⟨o, hoa, _⟩ := id ho
  have hne : a ≠ s.heap.objs.size := Nat.ne_of_lt (Heap.lt_size hoa)
  have k : Step s { s with heap := s.heap.push { cls := .type "tuple_iterator", data := .fields #[.ref a, .int 0 0] } } := Step.push ..
  refine hQ _ _ [s.heap.objs.size, a] [s.heap.objs.size] _ (fun h H => Items prog w h H l xs) k
    (It.ofWalks "tuple_iterator" (Walks.tuple (prog := prog) (w := w) hh s.heap.objs.size a hne xs.toArray) (by simpa using hl) ?_ (by decide) (fun i h st => let ⟨o, e, c, _⟩ := st.1; ⟨o, e, c⟩) (fun _ _ _ _ v g => v.go g) ?_)
    ⟨⟨_, Heap.get?_push_size _ rfl, rfl, rfl⟩, ho.push _⟩ ?_ ?_ ?_
  · rintro i h ⟨⟨o, e1, _⟩, ⟨o', e2, _⟩⟩ b hb
    simp only [List.mem_cons, List.not_mem_nil, or_false] at hb
    rcases hb with rfl | rfl
    · exact ⟨o, e1⟩
    · exact ⟨o', e2⟩
  · intro i v x h H e hP val
    exact val.2 i v x e (by simpa using hP)
  · refine Items.go (h := s.heap) (H := H) ⟨fun b o _ e => k.kept b o e, fun b o nb e q => ?_⟩ ⟨hl, hx⟩
    rcases q with q | q
    · exact nb q
    · rw [List.mem_singleton.mp q] at e
      exact absurd (Heap.lt_size e) (Nat.lt_irrefl _)
  · intro b hb
    rw [List.mem_singleton.mp hb]
    exact get_size_none _ (Nat.le_refl _)
  · intro b hb
    simp only [List.mem_cons, List.not_mem_nil, or_false] at hb
    rcases hb with rfl | rfl
    · exact u.size
    · exact hH
noncomputable def rngF : Nat → Int → List V
  | 0, _ => []
  | n + 1, a => .int a :: rngF n (a + 1)
theorem rngF_len : ∀ n a, (rngF n a).length = n
  | 0, _ => rfl
  | n + 1, a => by rw [rngF, List.length_cons, rngF_len]
theorem rngF_at : ∀ n a (i : Nat) v, (rngF n a)[i]? = some v → v = .int (a + i * 1)
  | 0, a, i, v, e => by cases e
  | n + 1, a, 0, v, e => by cases e; simp
  | n + 1, a, i + 1, v, e => by
    have := rngF_at n (a + 1) i v (by simpa [rngF] using e)
    rw [this]
    congr 1
    push_cast
    omega
noncomputable def small62 (a : Int) : Bool := decide (-(2 ^ 62 : Int) ≤ a) && decide (a < 2 ^ 62)
noncomputable def rngV (a b : V) : Option (List V) := match a, b with
  | .int x, .int y => if small62 x && small62 y then some (rngF (y - x).toNat x) else none
  | _, _ => none
theorem iter_range {A : Around} {s : Shared} {H : Hid} {tgt : Expr} {r : Addr} {a b : Int} {t u v : Tok} {Q : Value → Shared → Prop} {E : Value → Shared → Prop} (hh : A.handled = none) (hu : Under H s.heap) (hr : IsRange s.heap r a b 1 t u v)
    (ha : small62 a = true) (hb : small62 b = true)
    (hQ : ∀ it s' fp wr St' Val, Step s s' → It prog w A tgt it (rngF (b - a).toNat a) fp wr St' Val → St' 0 s'.heap → Val s'.heap (fun a => H a ∨ a ∈ wr) → (∀ b ∈ wr, s.heap.get? b = none) → (∀ b ∈ fp, ¬ H b) → Q it s') :
    wpAny (model prog w) A (pyIter (.ref r)) Q E s := by
  unfold small62 at ha hb
  simp only [Bool.and_eq_true, decide_eq_true_eq] at ha hb
  refine wpAny_pyIter_range hr (small_one ha.1 ha.2 hb.1 hb.2) ?_
  have k : Step s { s with heap := s.heap.push { cls := .type "range_iterator", data := .fields #[rawInt a, rawInt (Builtin.Range.rangeSize a b 1), rawInt 1] } } := Step.push ..
  have hn : Builtin.Range.rangeSize a b 1 = (((b - a).toNat : Nat) : Int) := by
    rw [rangeSize_one]
    split <;> omega
  refine hQ _ _ [s.heap.objs.size] [s.heap.objs.size] _ (fun _ _ => True) k
    (It.ofWalks "range_iterator" (Walks.range (prog := prog) (w := w) hh s.heap.objs.size a 1 (b - a).toNat) (rngF_len _ _) ?_ (by decide) (fun i h st => ⟨_, st, rfl⟩) (fun _ _ _ _ v _ => v) ?_)
    ?_ trivial ?_ ?_
  · intro i h st b' hb'
    rw [List.mem_singleton.mp hb']
    exact ⟨_, st⟩
  · rintro i v x h H e ⟨t', rfl⟩ _
    rw [rngF_at _ _ i v e]
    exact .int _ _
  · show IsRangeIter _ _ _ _ _
    have : IsRangeIter (s.heap.push { cls := .type "range_iterator", data := .fields #[rawInt a, rawInt (Builtin.Range.rangeSize a b 1), rawInt 1] }) s.heap.objs.size a (Builtin.Range.rangeSize a b 1) 1 := Heap.get?_push_size _ rfl
    rw [hn] at this
    simpa [hn] using this
  · intro b' hb'
    rw [List.mem_singleton.mp hb']
    exact get_size_none _ (Nat.le_refl _)
  · intro b' hb'
    rw [List.mem_singleton.mp hb']
    exact hu.size
inductive ImplEs (prog : Program) (w : World) (K : Frag) (mg mb : Str → Option Value) (n : Nat) (env : Env) (lay : Lay) : List Expr → (St → Option (List V)) → Prop
  | nil : ImplEs prog w K mg mb n env lay [] (fun _ => some [])
  | cons {e : Expr} {es : List Expr} {f : St → Option V} {g : St → Option (List V)} : Impl prog w K mg mb n env lay (eval e env) f → ImplEs prog w K mg mb n env lay es g →
      (∀ rest, starEach (e :: rest) env = (false, eval e env) :: starEach rest env) → ImplEs prog w K mg mb n env lay (e :: es) (fun σ => (f σ).bind fun a => (g σ).bind fun l => some (a :: l))
theorem ImplEs.plain {pos : Pos} {es : List Expr} {f : St → Option (List V)} (h : ImplEs prog w K mg mb n env lay es f) : (backTo pos (starEach es env)).any (·.1) = false := by
  induction h with
  | nil => rfl
  | cons _ _ hs ih => rw [hs]; exact ih
theorem ImplEs.toL {pos : Pos} {es : List Expr} {f : St → Option (List V)} (h : ImplEs prog w K mg mb n env lay es f) : ImplL prog w K mg mb n env lay (spliced (backTo pos (starEach es env))) f := by
  induction h with
  | nil => exact args_nil
  | cons hf _ hs ih => rw [hs]; exact args_cons hf ih
theorem args_sound {A : Around} {s : Shared} {h₀ : Heap} {B : Hid} {O : List Addr} {σ : St} {l : List V} {pos : Pos} {es : List Expr} {f : St → Option (List V)} {fv : Value} {Q : Args → Shared → Prop} {E : Value → Shared → Prop}
    (h : ImplEs prog w K mg mb n env lay es f) (am : Amb n A) (b : Base K mg mb h₀) (F : Frm prog w env lay h₀ B O s.heap σ) (e : f σ = some l)
    (hQ : ∀ xs s', Step s s' → Items prog w s'.heap (hid B env O) l xs → Q ⟨xs, []⟩ s') : wpAny (model prog w) A (evalArgs fv true (backTo pos (starEach es env)) []) Q E s := by
  have hL := h.toL (pos := pos) A s h₀ B O σ l am b F e (fun vs s' => Q ⟨vs, []⟩ s') E hQ
  cases h with
  | nil => cases e; exact PyProof.Rows.evalArgs_none (hQ [] s (Step.refl _) Items.nil)
  | cons hf hg hs =>
    rw [hs] at hL ⊢
    exact evalArgs_plain hL
theorem impl_callK (j : Nat) {x : Str} {p pos : Pos} {es : List Expr} {fv : Value} {fa : St → Option (List V)} {G : List V → Option V} (hG : FnSpec prog w K mg mb n fv G)
    (ha : ImplEs prog w K mg mb n env lay es fa) (hx : lay.globs[j]? = some x := by rfl) (hv : nsIn K mainGlobals x = some (some fv) := by kernel_rfl) (hk : keepIn K fv = true := by kernel_rfl) : Impl prog w K mg mb n env lay (eval (.Call (.Name x p) es [] pos) env) (fun σ => (fa σ).bind G) := by
  intro A s h₀ B O σ v am b F e Q E h
  obtain ⟨l, el, e⟩ := Option.bind_eq_some_iff.mp e
  refine wpAny_Call_NameR (impl_glob (prog := prog) (w := w) (mg := mg) (mb := mb) (n := n) (List.mem_of_getElem? hx) hv A s h₀ B O σ (.raw fv) am b F rfl _ _ fun f s₁ k₁ r₁ => ?_)
  cases r₁
  have F₁ := F.step k₁.kept
  refine callWith_of (P := K.In) (by rw [ha.plain]; rfl) (keeps_K hk) (args_sound ha am b F₁ el fun xs s₂ k₂ it => ⟨b.X.keeps (F₁.step k₂.kept).keep, ?_⟩)
  exact hG A s₂ _ l xs v am (b.keeps (F₁.step k₂.kept).keep) (F₁.step k₂.kept).hidden e it _ _ fun y s₃ k₃ r₃ => h y s₃ ((k₁.trans k₂).trans k₃) r₃
theorem impl_callB (j : Nat) {x : Str} {p pos : Pos} {es : List Expr} {fv : Value} {fa : St → Option (List V)} {G : List V → Option V} (hG : FnSpec prog w K mg mb n fv G)
    (hb : bootBuiltins x = some fv) (ha : ImplEs prog w K mg mb n env lay es fa) (hf : (∃ i, fv = .builtin i) ∨ (∃ T, fv = .type T) := by first | exact .inl ⟨_, rfl⟩ | exact .inr ⟨_, rfl⟩) (hx : lay.globs[j]? = some x := by rfl) (hv : nsIn K mainGlobals x = some none := by kernel_rfl) : Impl prog w K mg mb n env lay (eval (.Call (.Name x p) es [] pos) env) (fun σ => (fa σ).bind G) := by
  intro A s h₀ B O σ v am b F e Q E h
  obtain ⟨l, el, e⟩ := Option.bind_eq_some_iff.mp e
  refine wpAny_Call_NameR (impl_blt (prog := prog) (w := w) (mg := mg) (mb := mb) (n := n) (List.mem_of_getElem? hx) hv hb A s h₀ B O σ (.raw fv) am b F rfl _ _ fun f s₁ k₁ r₁ => ?_)
  cases r₁
  have F₁ := F.step k₁.kept
  have key : wpAny (model prog w) A (evalArgs fv true (backTo pos (starEach es env)) []) (fun a s₂ => wpAny (model prog w) A (call fv ([] ++ a.pos) a.kw) Q E s₂) E s₁ := args_sound ha am b F₁ el fun xs s₂ k₂ it => by
    exact hG A s₂ _ l xs v am (b.keeps (F₁.step k₂.kept).keep) (F₁.step k₂.kept).hidden e it _ _ fun y s₃ k₃ r₃ => h y s₃ ((k₁.trans k₂).trans k₃) r₃
  rcases hf with ⟨i, rfl⟩ | ⟨T, rfl⟩
  · exact Calls.callWith_builtin ha.plain key
  · exact PySem.callWith_type ha.plain key
theorem getL_at : ∀ {es : List DictEntry} {ks : List Str} {j : Nat} {name : Str} {e : DictEntry}, (∀ (i : Nat) e, es[i]? = some e → ∃ nm t, ks[i]? = some nm ∧ e.key = .str nm t) → ks.Nodup → ks[j]? = some name → es[j]? = some e →
    getL name es = some (some e.val)
  | [], _, j, _, _, _, _, _, he => by simp at he
  | e' :: es, [], j, name, e, hk, _, hj, _ => by simp at hj
  | e' :: es, k :: ks, 0, name, e, hk, _, hj, he => by
    simp at hj he
    subst hj he
    obtain ⟨nm, t, h1, h2⟩ := hk 0 e' rfl
    simp at h1
    subst h1
    unfold getL
    rw [List.find?_cons, h2]
    simp [Value.isStr]
  | e' :: es, k :: ks, j + 1, name, e, hk, hn, hj, he => by
    have ih := getL_at (es := es) (ks := ks) (j := j) (name := name) (e := e) (fun i e q => hk (i + 1) e (by simpa using q)) (List.nodup_cons.mp hn).2 (by simpa using hj) (by simpa using he)
    obtain ⟨nm, t, h1, h2⟩ := hk 0 e' rfl
    simp at h1
    subst h1
    have hne : k ≠ name := fun q => (List.nodup_cons.mp hn).1 (q ▸ List.mem_of_getElem? (by simpa using hj))
    unfold getL at ih ⊢
    have hf : e'.key.isStr name = false := by rw [h2]; simp [Value.isStr, hne]
    rw [List.find?_cons, hf]
    dsimp only
    split at ih
    · rename_i e₁ q
      rw [q]
      exact ih
    · split at ih <;> cases ih
theorem getL_no : ∀ {es : List DictEntry} {ks : List Str} {name : Str}, (∀ (i : Nat) e, es[i]? = some e → ∃ nm t, ks[i]? = some nm ∧ e.key = .str nm t) → name ∉ ks → getL name es = some none
  | [], _, _, _, _ => rfl
  | e' :: es, [], name, hk, _ => by obtain ⟨nm, t, h1, _⟩ := hk 0 e' rfl; cases h1
  | e' :: es, k :: ks, name, hk, hn => by
    have ih := getL_no (es := es) (ks := ks) (name := name) (fun i e q => hk (i + 1) e (by simpa using q)) (fun q => hn (.tail _ q))
    obtain ⟨nm, t, h1, h2⟩ := hk 0 e' rfl
    simp at h1
    subst h1
    have hne : k ≠ name := fun q => hn (q ▸ .head _)
    have hf : e'.key.isStr name = false := by rw [h2]; simp [Value.isStr, hne]
    have hr : e'.refKey = false := by unfold DictEntry.refKey; rw [h2]
    unfold getL at ih ⊢
    rw [List.find?_cons, hf]
    dsimp only
    split at ih
    · cases ih
    · rename_i q
      rw [q]
      dsimp only
      rw [List.any_cons, hr, Bool.false_or]
      exact ih
theorem inst_at {h : Heap} {x dx C : Addr} {es : List DictEntry} {m : Nat} (hx : h.get? x = some (instObj C dx)) (hd : h.get? dx = some (dictOf es m)) : W.InstAt h x (instObj C dx) C (some (dictOf es m)) := ⟨hx, rfl, rfl, hd⟩
noncomputable def fldV (C : Addr) (j : Nat) (v : V) : Option V := match v with
  | .inst C' l => if C' = C then l[j]? else none
  | _ => none
noncomputable def attrOk (K : Frag) (C : Addr) (attr : Str) : Bool := plainGet K C attr && hasDictIn K C && (match findIn K (.ref C) attr with | some a => noGet K a | none => false)
theorem impl_attr (C : Addr) (j : Nat) {value : Expr} {attr : Str} {pos : Pos} {f : St → Option V} (hf : Impl prog w K mg mb n env lay (eval value env) f) (hj : (flds C)[j]? = some attr := by rfl) (hok : attrOk K C attr = true := by kernel_rfl)
    (he : eval (.Attribute value attr pos) env = (do
      let o ← eval value env
      standAt pos.atName
      let r ← holding [o] (getAttr o attr true)
      letTemporaryGo value o r
      pure r) := by rfl) :
    Impl prog w K mg mb n env lay (eval (.Attribute value attr pos) env) (fun σ => (f σ).bind (fldV C j)) := by
  intro A s h₀ B O σ v am b F e0 Q E h
  obtain ⟨va, ea, e⟩ := Option.bind_eq_some_iff.mp e0
  clear e0
  refine Attribute_any_ (hf A s h₀ B O σ va am b F ea _ _ fun x s₁ k₁ r₁ => ?_) he
  unfold fldV at e
  split at e
  · split at e
    · rename_i C' l hC
      subst hC
      cases r₁ with
      | inst x dx C l es m ho hd hH hHd hl hk hv hx =>
      unfold attrOk at hok
      simp only [Bool.and_eq_true] at hok
      have hjl : j < es.length := hl ▸ (List.getElem?_eq_some_iff.mp e).1
      have hje : es[j]? = some es[j] := List.getElem?_eq_getElem hjl
      have hok3 := hok.2
      split at hok3
      · rename_i a ha
        refine get_value (b.X.keeps (F.step k₁.kept).keep) (inst_at ho hd) (plainGet_of hok.1.1).1 (findObj_own hok.1.2 ha hok3 (getL_at hk (flds_nodup _) hj hje)) (hv j _ hje) ?_
        exact h _ _ (k₁.trans (Step.tok ..)) (hx j _ _ e hje)
      · cases hok3
    · cases e
  · cases e
noncomputable def methOk (K : Frag) (C : Addr) (name : Str) (f : Addr) : Bool := plainGet K C name && (findIn K (.ref C) name == some (some (.ref f))) && isFn K (.ref f) && !((flds C).contains name) && keepIn K (.ref f)
theorem impl_meth (C f : Addr) {o : Expr} {name : Str} {apos pos : Pos} {es : List Expr} {fo : St → Option V} {fa : St → Option (List V)} {G : List V → Option V} {pl : Sem Bool} (hG : FnSpec prog w K mg mb n (.ref f) G)
    (ho : Impl prog w K mg mb n env lay (eval o env) fo) (ha : ImplEs prog w K mg mb n env lay es fa) (hok : methOk K C name f = true := by kernel_rfl)
    (he : eval (.Call (.Attribute o name apos) es [] pos) env = (do
      let ov ← eval o env
      standAt apos.atName
      let (f, first) ← holding [ov] (getMethod ov name pl)
      callWith pos f first (backTo pos (starEach es env)) []) := by rfl) :
    Impl prog w K mg mb n env lay (eval (.Call (.Attribute o name apos) es [] pos) env) (fun σ => (fo σ).bind fun v => match v with
      | .inst C' l => if C' = C then (fa σ).bind fun l' => G (.inst C' l :: l') else none
      | _ => none) := by
  intro A s h₀ B O σ v am b F e0 Q E h
  obtain ⟨va, ea, e⟩ := Option.bind_eq_some_iff.mp e0
  clear e0
  refine MethodCall_ (ho A s h₀ B O σ va am b F ea _ _ fun x s₁ k₁ r₁ => ?_) he
  have F₁ := F.step k₁.kept
  split at e
  · split at e
    · rename_i C' l hC
      subst hC
      obtain ⟨l', el, e'⟩ := Option.bind_eq_some_iff.mp e
      unfold methOk at hok
      simp only [Bool.and_eq_true, beq_iff_eq, Bool.not_eq_true'] at hok
      obtain ⟨⟨⟨⟨h1, h2⟩, h3⟩, h4⟩, h5⟩ := hok
      have r₁' := r₁
      cases r₁ with
      | inst x dx C l es m hox hd hH hHd hl hk hv hx =>
      refine method_fn (b.X.keeps F₁.keep) (inst_at hox hd) (plainGet_of h1).1 (plainGet_of h1).2 h2 (beq_iff_eq.mp h3) (by show (lookIn name (dictOf es m)).map _ = _; rw [lookIn_dict, getL_no hk (by simpa using h4)]; rfl) ?_
      dsimp only
      refine callWith_of (P := K.In) (by rw [ha.plain]; rfl) (keeps_K h5) (args_sound ha am b F₁ el fun xs s₂ k₂ it => ⟨b.X.keeps (F₁.step k₂.kept).keep, ?_⟩)
      exact hG A s₂ _ _ _ v am (b.keeps (F₁.step k₂.kept).keep) (F₁.step k₂.kept).hidden e' (Items.cons (r₁'.keeps k₂.kept) it) _ _ fun y s₃ k₃ r₃ => h y s₃ ((k₁.trans k₂).trans k₃) r₃
    · cases e
  · cases e
theorem fn_specE {f : Addr} {oc : Value} {od : Option Addr} {osl : Array (Option Value)} {fd : FuncData} {body : List Stmt} {fb : St → Option (Fl × St)} {F : List V → Option V} (lay : Lay) (ps : List Str)
    (ho : K.lookup f = some ⟨oc, od, .func fd, osl⟩) (hbody : fd.body = .stmts body) (hclo : fd.closure = []) (hcd : codeIn K fd.code fd.qualname = true)
    (hok : ∀ L, defOk fd lay ps L = true)
    (hbind : ∀ xs : List Value, xs.length = ps.length → bindArgs fd ⟨xs, []⟩ = pure (ps.zip xs))
    (hb : ∀ L, ImplS prog w K mg mb n (callEnvC fd L f) lay (execs body (callEnvC fd L f)) fb)
    (he : ∀ args v, F args = some v → args.length = ps.length ∧ retV (fb (initSt lay args)) = some v)
    (hco : fd.scope.isCoroutine = false := by rfl) (hgen : fd.scope.isGenerator = false := by rfl) :
    FnSpec prog w K mg mb (n + 1) (.ref f) F :=
  (fn_spec ho hbody hclo hcd hok hbind hb hco hgen).eq fun a v q => by
    obtain ⟨h1, h2⟩ := he a v q
    rw [if_pos h1]
    exact h2
end Mine
end Core8_part
section Core9_part
open PySem PySem.W PyProof.Rows PySem.Calls
set_option Elab.async false
set_option maxRecDepth 100000
namespace Mine
variable {prog : Program} {w : World} {K : Frag} {mg mb : Str → Option Value} {n : Nat} {env : Env} {lay : Lay}
theorem stm_no {t : Sem Flow} : ImplS prog w K mg mb n env lay t (fun _ => none) := fun A s h₀ B O σ r σ' a b F e => by cases e
noncomputable def St.own (σ : St) (i : Nat) : Option V := match σ.vars[i]? with
  | some (.own k) => σ.owns[k]?
  | _ => none
theorem own_load {A : Around} {s : Shared} {h₀ : Heap} {B : Hid} {O : List Addr} {σ : St} {k : Nat} {i : Nat} {x : Str} {kd : Acc} {Q : Value → Shared → Prop} {E : Value → Shared → Prop} (hi : lay.names[i]? = some (x, kd))
    (F : Frm prog w env lay h₀ B O s.heap σ) (e : σ.vars[i]? = some (.own k)) (h : ∀ a, O[k]? = some a → Q (.ref a) s) : wpAny (model prog w) A (loadName env x) Q E s := by
  obtain ⟨hk, hd, hcd⟩ := F.name hi
  cases kd with
  | loc =>
    obtain ⟨m, hn, hr⟩ := F.ns
    obtain ⟨a, ha, hy⟩ := hr i x _ hi e
    exact wpAny_loadName_local F.fn (Acc.fits_loc hk) hn hy (h a ha)
  | cell =>
    obtain ⟨c, y, hc, hcell, a, ha, rfl⟩ := F.cs i x _ _ hi (by decide) e
    exact wpAny_loadName_cell F.fn (Acc.fits_cell hk) hc hcell (h a ha)
  | cap =>
    obtain ⟨c, y, hc, hcell, a, ha, rfl⟩ := F.cs i x _ _ hi (by decide) e
    rcases Acc.fits_cap hk with q | q
    · exact wpAny_loadName_cell F.fn q hc hcell (h a ha)
    · exact wpAny_loadName_free F.fn q hc hcell (h a ha) hcd
theorem own_name {A : Around} {s : Shared} {h₀ : Heap} {B : Hid} {O : List Addr} {σ : St} {v : V} {i : Nat} {x : Str} {kd : Acc} {pos : Pos} {Q : Value → Shared → Prop} {E : Value → Shared → Prop} (hi : lay.names[i]? = some (x, kd))
    (F : Frm prog w env lay h₀ B O s.heap σ) (e : σ.own i = some v) (h : ∀ k a, σ.vars[i]? = some (.own k) → O[k]? = some a → σ.owns[k]? = some v → OwnR prog w s.heap (hid B env O) O k a v → Q (.ref a) s) :
    wpAny (model prog w) A (eval (.Name x pos) env) Q E s := by
  obtain ⟨hk, hd, hcd⟩ := F.name hi
  unfold St.own at e
  split at e
  · rename_i k hv
    exact wpAny_Name (own_load hi F hv fun a ha => h k a hv ha e (F.os k a v ha e)) hd
  · cases e
theorem impl_subO (i : Nat) {x : Str} {kd : Acc} {px pos : Pos} {slice : Expr} {g : St → Option V} (hg : Impl prog w K mg mb n env lay (eval slice env) g) (hi : lay.names[i]? = some (x, kd) := by rfl)
    (hs : ∀ (o : Addr) z t, subscripted slice false (.ref o) (.int z t) = operate [.ref o, .int z t] (getItem (.ref o) (.int z t)) := by intro _ _ _; with_unfolding_all rfl) :
    Impl prog w K mg mb n env lay (eval (.Subscript (.Name x px) slice pos) env) (fun σ => (σ.own i).bind fun a => (g σ).bind fun j => match a, j with
      | .lst l, .int z => if 0 ≤ z ∧ l.length ≤ sizeLine then l[z.toNat]? else none
      | _, _ => none) := by
  intro A s h₀ B O σ v am b F e0 Q E h
  obtain ⟨va, ea, e⟩ := Option.bind_eq_some_iff.mp e0
  obtain ⟨vb, eb, e⟩ := Option.bind_eq_some_iff.mp e
  refine Subscript_ (own_name hi F ea fun k a hk ha hv r => hg A s h₀ B O σ vb am b F eb _ _ fun y s₂ k₂ r₂ => ?_)
  have r' := r.go (k₂.kept.goes (hid B env O)) (fun _ _ e => e) (fun o e => k₂.kept _ o e) fun b o _ e => k₂.kept b o e
  clear e0
  cases va with
  | lst l =>
    cases vb with
    | int z =>
      dsimp only at e
      split at e
      · rename_i hz
        obtain ⟨xs, ho, it⟩ := r'
        cases r₂
        obtain ⟨q, hq, rr⟩ := Items.at it e
        have hlt : z.toNat < xs.length := (List.getElem?_eq_some_iff.mp hq).1
        have hb : xs.length ≤ sizeLine := it.1 ▸ hz.2
        have h0 := hz.1
        rw [sizeLine_eq] at hb
        exact tail_any ho.isList.typeIs slot_list_getitem.lookup (wpAny_getItem_list ho.isList hz.1 (by omega) (by simpa using hq) (h _ _ k₂ rr)) (hs _ _ _)
      · cases e
    | _ => cases e
  | _ => cases e
noncomputable def lenV (v : V) : Option V := match v with
  | .lst l => if l.length ≤ sizeLine then some (.int l.length) else none
  | .tup l => if l.length ≤ sizeLine then some (.int l.length) else none
  | _ => none
theorem impl_lenO (i j : Nat) {x : Str} {kd : Acc} {p px pos : Pos} (hi : lay.names[i]? = some (x, kd) := by rfl) (hj : lay.globs[j]? = some (Str.ofString "len") := by rfl) (hv : nsIn K mainGlobals (Str.ofString "len") = some none := by kernel_rfl) :
    Impl prog w K mg mb n env lay (eval (.Call (.Name (Str.ofString "len") p) [.Name x px] [] pos) env) (fun σ => (σ.own i).bind lenV) := by
  intro A s h₀ B O σ v am b F e Q E h
  obtain ⟨va, ea, e⟩ := Option.bind_eq_some_iff.mp e
  refine wpAny_Call_NameR (impl_blt (prog := prog) (w := w) (mg := mg) (mb := mb) (n := n) (List.mem_of_getElem? hj) hv boot_len A s h₀ B O σ (.raw _) am b F rfl _ _ fun f s₁ k₁ r₁ => ?_)
  cases r₁
  refine callWith_method1 (spliced_cons (own_name hi (F.step k₁.kept) ea fun k a hk ha hv r => spliced_nil ?_))
  unfold lenV at e
  split at e
  · split at e
    · rename_i l hz
      cases e
      obtain ⟨xs, ho, it⟩ := r
      have hb : xs.length ≤ sizeLine := it.1 ▸ hz
      rw [sizeLine_eq] at hb
      have hsz : ((xs.toArray.size : Nat) : Int) = (l.length : Int) := by simp [it.1]
      refine call_len_list ho.isList (by rw [hsz, it.1]; omega) ?_
      rw [hsz]
      exact h _ _ (k₁.trans (Step.tok ..)) (.int ..)
    · cases e
  · cases r
  · cases e
theorem Frm.grow {h₀ h h' : Heap} {B : Hid} {O : List Addr} {σ : St} {a : Addr} {v : V} (F : Frm prog w env lay h₀ B O h σ) (k : Kept h h') (ha : h.get? a = none) (r : OwnR prog w h' (hid B env (O ++ [a])) (O ++ [a]) O.length a v) :
    Frm prog w env lay h₀ B (O ++ [a]) h' { σ with owns := σ.owns ++ [v] } :=
  have ext : ∀ (k : Nat) b, O[k]? = some b → (O ++ [a])[k]? = some b := fun k b e => by rw [List.getElem?_append_left (List.getElem?_eq_some_iff.mp e).1]; exact e
  have g : Goes h (hid B env O) h' (hid B env (O ++ [a])) := ⟨fun b o _ e => k b o e, fun b o n e q => n (by
    rcases q with q | q | q | q
    · exact .inl q
    · exact .inr (.inl q)
    · exact .inr (.inr (.inl q))
    · rcases List.mem_append.mp q with q | q
      · exact .inr (.inr (.inr q))
      · rw [List.mem_singleton.mp q, ha] at e; cases e)⟩
  { ok := F.ok, glob := F.glob, blt := F.blt, keep := Kept.trans F.keep k, under := F.under.keeps k, locN := F.locN
    oNew := fun b hb => by
      rcases List.mem_append.mp hb with q | q
      · exact F.oNew b q
      · rw [List.mem_singleton.mp q]
        refine ⟨?_, ?_, ?_, ?_⟩
        · cases z : h₀.get? a with
          | none => rfl
          | some o => have := F.keep a o z; rw [ha] at this; cases this
        · rintro rfl
          obtain ⟨o, e⟩ := F.hidden env.locals (.inr (.inl rfl))
          rw [ha] at e; cases e
        · intro n e
          obtain ⟨o, e'⟩ := F.hidden a (.inr (.inr (.inl ⟨n, e⟩)))
          rw [ha] at e'; cases e'
        · intro e
          obtain ⟨o, e'⟩ := F.under a e
          rw [ha] at e'; cases e'
    oNodup := by
      rw [List.nodup_append]
      refine ⟨F.oNodup, by simp, ?_⟩
      intro b hb c hc e
      rw [List.mem_singleton.mp hc] at e
      subst e
      obtain ⟨o, e'⟩ := F.hidden b (.inr (.inr (.inr hb)))
      rw [ha] at e'; cases e'
    cApart := F.cApart
    cLoc := fun n c m => ⟨(F.cLoc n c m).1, let ⟨o, e⟩ := (F.cLoc n c m).2; ⟨o, k _ _ e⟩⟩
    cNew := F.cNew
    oLen := by simp [F.oLen]
    vLen := F.vLen
    ns := let ⟨m, hn, hr⟩ := F.ns; ⟨m, hn.keeps k, fun i x sl e1 e2 => (hr i x sl e1 e2).go g ext⟩
    cs := fun i x kd sl e1 e2 e3 => let ⟨c, y, e4, e5, e6⟩ := F.cs i x kd sl e1 e2 e3; ⟨c, y, e4, e5.keeps k, e6.go g ext⟩
    os := fun i b u e1 e2 => by
      by_cases hi : i < O.length
      · have e1' : O[i]? = some b := by rw [List.getElem?_append_left hi] at e1; exact e1
        have e2' : σ.owns[i]? = some u := by
          have hi' : i < σ.owns.length := F.oLen ▸ hi
          have : (σ.owns ++ [v])[i]? = some u := e2
          rw [List.getElem?_append_left hi'] at this; exact this
        have r1 := F.os i b u e1' e2'
        refine r1.go g ext (fun o e => k _ o e) fun c o e1 e => k c o e
      · have hi1 : i = O.length := by
          have := (List.getElem?_eq_some_iff.mp e1).1
          simp at this
          omega
        subst hi1
        have e1' : b = a := by
          rw [List.getElem?_append_right (Nat.le_refl _)] at e1
          simp at e1
          exact e1.symm
        have e2' : u = v := by
          have : (σ.owns ++ [v])[O.length]? = some u := e2
          rw [F.oLen, List.getElem?_append_right (Nat.le_refl _)] at this
          simp at this
          exact this.symm
        subst e1' e2'
        exact r }
theorem Mv.grow {O : List Addr} {s s' : Shared} {a : Addr} (k : Step s s') (ha : s.heap.get? a = none) : Mv env O (O ++ [a]) s s' :=
  ⟨k.same, fun b o _ e => k.kept b o e, fun b hb => by
    rcases List.mem_append.mp hb with q | q
    · exact .inl q
    · rw [List.mem_singleton.mp q]; exact .inr ha, fun k b e => by rw [List.getElem?_append_left (List.getElem?_eq_some_iff.mp e).1]; exact e⟩
theorem push_goes (h : Heap) (o : Obj) (H : Hid) : Goes h H (h.push o) (fun b => H b ∨ b = h.objs.size) := ⟨fun b o' _ e => Heap.get?_push_of_some _ e, fun b o' n e q => q.elim n fun q => by rw [q] at e; exact Nat.lt_irrefl _ (Heap.lt_size e)⟩
theorem hid_app (B : Hid) (O : List Addr) (a : Addr) (b : Addr) (q : hid B env (O ++ [a]) b) : hid B env O b ∨ b = a := by
  rcases q with q | q | q | q
  · exact .inl (.inl q)
  · exact .inl (.inr (.inl q))
  · exact .inl (.inr (.inr (.inl q)))
  · rcases List.mem_append.mp q with q | q
    · exact .inl (.inr (.inr (.inr q)))
    · exact .inr (List.mem_singleton.mp q)
noncomputable def ImplFL (prog : Program) (w : World) (K : Frag) (mg mb : Str → Option Value) (n : Nat) (env : Env) (lay : Lay) (t : Sem Value) (f : St → Option (List V)) : Prop :=
  ∀ A s h₀ B O σ l, Amb n A → Base K mg mb h₀ → Frm prog w env lay h₀ B O s.heap σ → f σ = some l → ∀ (Q : Value → Shared → Prop) E,
    (∀ a xs s', Step s s' → s.heap.get? a = none → s'.heap.PlainList a xs.toArray → Items prog w s'.heap (fun b => hid B env O b ∨ b = a) l xs → Q (.ref a) s') → wpAny (model prog w) A t Q E s
theorem fresh_list {elts : List Expr} {pos : Pos} {f : St → Option (List V)} (hf : ImplEs prog w K mg mb n env lay elts f) :
    ImplFL prog w K mg mb n env lay (eval (.List elts pos) env) (fun σ => (f σ).bind fun l => if l.length ≤ sizeLine then some l else none) := by
  intro A s h₀ B O σ v a b F e Q E h
  obtain ⟨vl, el, e⟩ := Option.bind_eq_some_iff.mp e
  split at e
  · rename_i hz
    cases e
    refine wpAny_List (hf.toL A s h₀ B O σ _ a b F el _ _ fun xs s₁ k₁ r₁ => ⟨r₁.1 ▸ hz, ?_⟩)
    refine h _ xs _ (k₁.trans (Step.push ..)) ?_ ⟨0, Heap.get?_push_size _ rfl⟩ (r₁.go (push_goes _ _ _))
    cases q : s.heap.get? s₁.heap.objs.size with
    | none => rfl
    | some o => exact absurd (k₁.size q) (Nat.lt_irrefl _)
  · cases e
theorem stm_ownL (i : Nat) {x : Str} {kd : Acc} {pos' pos : Pos} {value : Expr} {f : St → Option (List V)} (hf : ImplFL prog w K mg mb n env lay (eval value env) f) (hi : lay.names[i]? = some (x, kd) := by rfl) (hk : kd ≠ .cap := by decide)
    (hs : swapsWith value (some (.Name x pos')) pos.line env = pure false := by rfl) :
    ImplS prog w K mg mb n env lay (exec (.Assign [.Name x pos'] value pos) env) (fun σ => (f σ).bind fun l => some (.next, { vars := σ.vars.set i (.own σ.owns.length), owns := σ.owns ++ [.lst l] })) := by
  intro A s h₀ B O σ r σ' am b F e Q E h
  obtain ⟨l, el, e⟩ := Option.bind_eq_some_iff.mp e
  cases e
  refine wpAny_Assign_Name (hf A s h₀ B O σ l am b F el _ _ fun a xs s₁ k₁ ha hp it => ?_) hs
  have it' : Items prog w s₁.heap (hid B env (O ++ [a])) l xs := ⟨it.1, fun i v x e1 e2 => (it.2 i v x e1 e2).less (hid_app B O a)⟩
  have F₁ : Frm prog w env lay h₀ B (O ++ [a]) s₁.heap { σ with owns := σ.owns ++ [.lst l] } := F.grow k₁.kept ha ⟨xs, hp, it'⟩
  refine F₁.store (sl := .own σ.owns.length) hi hk ⟨a, by rw [← F.oLen, List.getElem?_append_right (Nat.le_refl _)]; simp, rfl⟩ fun h' tk m F₂ => ?_
  exact h _ _ (O ++ [a]) (Mv.trans F₁ (Mv.grow k₁ ha) m) F₂ rfl
end Mine
end Core9_part
section Core10_part
open PySem PySem.W PyProof.Rows PySem.Calls
set_option Elab.async false
set_option maxRecDepth 100000
namespace Mine
variable {prog : Program} {w : World} {K : Frag} {mg mb : Str → Option Value} {n : Nat} {env : Env} {lay : Lay}
noncomputable def turnC (target iter : Expr) (ifs : List Expr) (it : Value) (env : Env) (inner : Sem Fin → Sem Fin) (c : Code) : Sem Fin := do
  standAt iter.pos
  match ← pyNext it with
  | none => pure (.done .next)
  | some v =>
    letOwnedTupleGo target it v
    assign target env v
    let mut ok := true
    for c in ifs do
      if ok then ok ← isTrue c env (eval c env)
    if ok then inner (again c) else again c
noncomputable def emitU (elt : Expr) (env : Env) (acc : Value) : Sem Unit := do let _ ← call (.builtin "list.append") [acc, ← eval elt env]
noncomputable def emitC (elt : Expr) (env : Env) (acc : Value) (k : Sem Fin) : Sem Fin := do emitU elt env acc; k
noncomputable def deepC (e : Expr) (iter : Expr) (env : Env) (acc : Value) (k : Sem Fin) : Sem Fin := do
  let x ← eval iter env
  standAt iter.pos
  let x ← foldedSetIterable iter env x
  let _ ← runOwn (.compStart e 1 (← holding [x] (pyIter x)) acc env) env
  k
theorem turn_one (elt target iter : Expr) (ifs : List Expr) (scope : Scope) (pos : Pos) (it acc : Value) (env : Env) :
    compTurn (.ListComp elt [⟨target, iter, ifs, 0⟩] scope pos) 0 it acc env = turnC target iter ifs it env (emitC elt env acc) (.compLoop (.ListComp elt [⟨target, iter, ifs, 0⟩] scope pos) 0 it acc env) := by rfl
theorem turn_out (elt target iter target' iter' : Expr) (ifs ifs' : List Expr) (scope : Scope) (pos : Pos) (it acc : Value) (env : Env) :
    compTurn (.ListComp elt [⟨target, iter, ifs, 0⟩, ⟨target', iter', ifs', 0⟩] scope pos) 0 it acc env =
      turnC target iter ifs it env (deepC (.ListComp elt [⟨target, iter, ifs, 0⟩, ⟨target', iter', ifs', 0⟩] scope pos) iter' env acc) (.compLoop (.ListComp elt [⟨target, iter, ifs, 0⟩, ⟨target', iter', ifs', 0⟩] scope pos) 0 it acc env) := by rfl
theorem turn_in (elt target iter target' iter' : Expr) (ifs ifs' : List Expr) (scope : Scope) (pos : Pos) (it acc : Value) (env : Env) :
    compTurn (.ListComp elt [⟨target, iter, ifs, 0⟩, ⟨target', iter', ifs', 0⟩] scope pos) 1 it acc env =
      turnC target' iter' ifs' it env (emitC elt env acc) (.compLoop (.ListComp elt [⟨target, iter, ifs, 0⟩, ⟨target', iter', ifs', 0⟩] scope pos) 1 it acc env) := by rfl
noncomputable def ImplIfs (prog : Program) (w : World) (K : Frag) (mg mb : Str → Option Value) (n : Nat) (env : Env) (lay : Lay) (ifs : List Expr) (c : St → Option Bool) : Prop :=
  ∀ A s h₀ B O σ b, Amb n A → Base K mg mb h₀ → Frm prog w env lay h₀ B O s.heap σ → c σ = some b → ∀ (Q : Bool → Shared → Prop) E, (∀ s', Step s s' → Q b s') →
    wpAny (model prog w) A (forIn ifs true fun c r => if r = true then do let ok ← isTrue c env (eval c env); pure (ForInStep.yield ok) else pure (ForInStep.yield r)) Q E s
theorem ifs_nil : ImplIfs prog w K mg mb n env lay [] (fun _ => some true) := by
  intro A s h₀ B O σ b _ _ _ e Q E h
  cases e
  exact wpAny_tests_nil (h s (Step.refl _))
theorem ifs_one {e : Expr} {c : St → Option Bool} (hc : ImplT prog w K mg mb n env lay (isTrue e env (eval e env)) c) : ImplIfs prog w K mg mb n env lay [e] c := by
  intro A s h₀ B O σ b a bs F e Q E h
  exact wpAny_tests_one (hc A s h₀ B O σ b a bs F e _ _ fun s' k => h s' k)
noncomputable def ImplG (prog : Program) (w : World) (K : Frag) (mg mb : Str → Option Value) (n : Nat) (env : Env) (lay : Lay) (t : Value → Sem Fin → Sem Fin) (g : St → Option St) : Prop :=
  ∀ A s h₀ B D σ σ', Amb n A → Base K mg mb h₀ → Frm prog w env lay h₀ B [D] s.heap σ → g σ = some σ' → ∀ k (Q : Fin → Shared → Prop) E,
    (∀ s', Mv env [D] [D] s s' → Frm prog w env lay h₀ B [D] s'.heap σ' → wpAny (model prog w) A k Q E s') → wpAny (model prog w) A (t (.ref D) k) Q E s
noncomputable def soloOwn (owns : List V) (k : Nat) : Bool := match k with
  | 0 => true
  | k + 1 => match owns[k]? with
    | some (.inst ..) => false
    | _ => true
theorem Frm.setOwn {h₀ h h' : Heap} {B : Hid} {O : List Addr} {σ : St} {k : Nat} {a : Addr} {v : V} (F : Frm prog w env lay h₀ B O h σ) (ha : O[k]? = some a) (hs : soloOwn σ.owns k = true)
    (kp : ∀ b o, b ≠ a → h.get? b = some o → h'.get? b = some o) (he : ∃ o, h'.get? a = some o) (r : OwnR prog w h' (hid B env O) O k a v) :
    Frm prog w env lay h₀ B O h' { σ with owns := σ.owns.set k v } :=
  have hm : a ∈ O := List.mem_of_getElem? ha
  have hh : hid B env O a := .inr (.inr (.inr hm))
  have g := Frm.goesBut (B := B) (O := O) hh kp
  { ok := F.ok, glob := F.glob, blt := F.blt
    keep := fun b o e => kp b o (fun q => by have := (F.oNew a hm).1; rw [← q, e] at this; cases this) (F.keep b o e)
    under := fun b hb => by
      by_cases q : b = a
      · subst q; exact he
      · obtain ⟨o, e⟩ := F.under b hb
        exact ⟨o, kp b o q e⟩
    locN := F.locN, oNew := F.oNew, oNodup := F.oNodup, cApart := F.cApart
    cLoc := fun n c m => ⟨(F.cLoc n c m).1, let ⟨o, e⟩ := (F.cLoc n c m).2; ⟨o, kp _ _ (fun q => (F.oNew a hm).2.2.1 n (q ▸ m)) e⟩⟩
    cNew := F.cNew
    oLen := by simp [F.oLen]
    vLen := F.vLen
    ns := let ⟨m, hn, hr⟩ := F.ns; ⟨m, hn.at' (fun o e => kp _ _ (Ne.symm (F.oNew a hm).2.1) e), fun i x sl e1 e2 => (hr i x sl e1 e2).go g fun _ _ e => e⟩
    cs := fun i x kd sl e1 e2 e3 => let ⟨c, y, e4, ⟨o, e5, e5'⟩, e6⟩ := F.cs i x kd sl e1 e2 e3; ⟨c, y, e4, ⟨o, kp _ _ (fun q => (F.oNew a hm).2.2.1 x (q ▸ e4)) e5, e5'⟩, e6.go g fun _ _ e => e⟩
    os := fun i b u e1 e2 => by
      by_cases hi : i = k
      · subst hi
        rw [ha] at e1
        cases e1
        rw [getElem?_set_self' e2]
        exact r
      · rw [List.getElem?_set_ne (Ne.symm hi)] at e2
        have hba : b ≠ a := fun q => by
          subst q
          have li : i < O.length := (List.getElem?_eq_some_iff.mp e1).1
          exact hi ((List.getElem?_inj li F.oNodup).mp (e1.trans ha.symm))
        have r1 := F.os i b u e1 e2
        cases u with
        | inst C l =>
          refine r1.go g (fun _ _ e => e) (fun o e => kp b o hba e) fun c o e3 e => kp c o (fun q => ?_) e
          subst q
          have li : i + 1 < O.length := (List.getElem?_eq_some_iff.mp e3).1
          have : i + 1 = k := (List.getElem?_inj li F.oNodup).mp (e3.trans ha.symm)
          subst this
          unfold soloOwn at hs
          dsimp only at hs
          rw [e2] at hs
          cases hs
        | lst l => obtain ⟨xs, h1, h2⟩ := r1; exact ⟨xs, h1.at fun o e => kp b o hba e, h2.go g⟩
        | dct l =>
          obtain ⟨kvs, ⟨o, es, ep, h1, hr⟩, h2, h3, h4⟩ := r1
          exact ⟨kvs, ⟨o, es, ep, kp b _ hba h1, hr⟩, h2, h3, fun i v x e1 e2 => (h4 i v x e1 e2).go g⟩
        | none => obtain ⟨o, e⟩ := r1; exact ⟨o, kp b o hba e⟩
        | bool b => exact r1.elim
        | int b => exact r1.elim
        | flt b => exact r1.elim
        | str b => exact r1.elim
        | tup b => exact r1.elim
        | raw b => exact r1.elim }
theorem Mv.setOwn {O : List Addr} {s : Shared} {h' : Heap} {tk : Nat} {a : Addr} (ha : a ∈ O) (kp : ∀ b o, b ≠ a → s.heap.get? b = some o → h'.get? b = some o) : Mv env O O s { s with heap := h', toks := tk } :=
  ⟨⟨_, _, rfl⟩, fun b o nb e => kp b o (fun q => nb (.inr (.inr (q ▸ ha)))) e, fun _ h => .inl h, fun _ _ e => e⟩
theorem Items.snoc {h : Heap} {H : Hid} {l : List V} {xs : List Value} {v : V} {x : Value} (it : Items prog w h H l xs) (r : VR prog w h H v x) : Items prog w h H (l ++ [v]) (xs ++ [x]) := by
  refine ⟨by simp [it.1], fun i v' x' e1 e2 => ?_⟩
  by_cases hi : i < l.length
  · rw [List.getElem?_append_left hi] at e1
    rw [List.getElem?_append_left (it.1 ▸ hi)] at e2
    exact it.2 i v' x' e1 e2
  · rw [List.getElem?_append_right (Nat.le_of_not_lt hi)] at e1
    rw [List.getElem?_append_right (it.1 ▸ Nat.le_of_not_lt hi), ← it.1] at e2
    generalize i - l.length = j at e1 e2
    cases j with
    | zero => cases e1; cases e2; exact r
    | succ j => cases e1
noncomputable def St.push (σ : St) (k : Nat) (v : V) : Option St := match σ.owns[k]? with
  | some (.lst l) => if l.length ≤ sizeLine ∧ soloOwn σ.owns k then some { σ with owns := σ.owns.set k (.lst (l ++ [v])) } else none
  | _ => none
theorem push_sound {A : Around} {s : Shared} {h₀ : Heap} {B : Hid} {O : List Addr} {σ σ' : St} {k : Nat} {a : Addr} {v : V} {y : Value} {Q : Value → Shared → Prop} {E : Value → Shared → Prop} (F : Frm prog w env lay h₀ B O s.heap σ) (ha : O[k]? = some a)
    (r : VR prog w s.heap (hid B env O) v y) (e : σ.push k v = some σ') (h : ∀ s', Mv env O O s s' → Frm prog w env lay h₀ B O s'.heap σ' → Q .none s') : wpAny (model prog w) A (call (.builtin "list.append") [.ref a, y]) Q E s := by
  unfold St.push at e
  split at e
  · rename_i l hl
    split at e
    · rename_i hc
      cases e
      obtain ⟨xs, hp, it⟩ := F.os k a _ ha hl
      have hm : a ∈ O := List.mem_of_getElem? ha
      refine wpAny_list_append_plain (hsz := by simpa [← it.1] using hc.1) hp fun h' hp' hs' => ?_
      have kp : ∀ b o, b ≠ a → s.heap.get? b = some o → h'.get? b = some o := fun b o nb e => hs'.extBut b o nb e
      refine h _ (Mv.setOwn hm kp) (F.setOwn ha hc.2 kp (let ⟨n, e⟩ := hp'; ⟨_, e⟩) ⟨xs ++ [y], by simpa using hp', ?_⟩)
      exact (it.snoc r).go (Frm.goesBut (.inr (.inr (.inr hm))) kp)
    · cases e
  · cases e
theorem emit_sound {elt : Expr} {f : St → Option V} (hf : Impl prog w K mg mb n env lay (eval elt env) f) : ImplG prog w K mg mb n env lay (emitC elt env) (fun σ => (f σ).bind fun v => σ.push 0 v) := by
  intro A s h₀ B D σ σ' a b F e k Q E h
  obtain ⟨v, ev, e⟩ := Option.bind_eq_some_iff.mp e
  unfold emitC emitU
  refine wpAny_bind (wpAny_bind (hf A s h₀ B [D] σ v a b F ev _ _ fun x s₁ k₁ r₁ => ?_))
  refine wpAny_bind (push_sound (F.step k₁.kept) rfl r₁ e fun s₂ m₂ F₂ => wpAny_pure ?_)
  exact h s₂ (Mv.trans (F.step k₁.kept) (Mv.of k₁) m₂) F₂
noncomputable def loopC (asg : V → St → Option St) (c : St → Option Bool) (g : St → Option St) : List V → St → Option St
  | [], σ => some σ
  | v :: r, σ => (asg v σ).bind fun σ₁ => (c σ₁).bind fun b => (if b then g σ₁ else some σ₁).bind fun σ₂ => loopC asg c g r σ₂
theorem comp_sound {A : Around} {h₀ : Heap} {B : Hid} {target iter elt : Expr} {gens : List Comprehension} {scope : Scope} {pos : Pos} {d : Nat} {ifs : List Expr} {it : Value} {inner : Value → Sem Fin → Sem Fin} {vs : List V} {fp wr : List Addr} {St' : Nat → Heap → Prop} {Val : Heap → Hid → Prop}
    {asg : V → St → Option St} {c : St → Option Bool} {g : St → Option St} {R : Result → Shared → Prop} {s₀ : Shared} {D : Addr} {σ₀ σ' : St}
    (am : Amb n A) (b : Base K mg mb h₀) (ha : ImplA prog w K mg mb n env lay (assign target env) asg) (hc : ImplIfs prog w K mg mb n env lay ifs c) (hg : ImplG prog w K mg mb n env lay inner g)
    (ht : compTurn (.ListComp elt gens scope pos) d it (.ref D) env = turnC target iter ifs it env (inner (.ref D)) (.compLoop (.ListComp elt gens scope pos) d it (.ref D) env))
    (W : It prog w A target it vs fp wr St' Val) (hst : St' 0 s₀.heap) (F₀ : Frm prog w env lay h₀ (Bw B wr) [D] s₀.heap σ₀) (hval : Val s₀.heap (hid (Bw B wr) env [D])) (hw0 : ∀ b ∈ wr, h₀.get? b = none) (hBe : ∀ b, B b → b ∉ wr)
    (hfp : ∀ b ∈ fp, ¬ ownH env [D] b) (e : loopC asg c g vs σ₀ = some σ')
    (h : ∀ s', Same s₀ s' → (∀ b o, ¬ ownH env [D] b → b ∉ wr → s₀.heap.get? b = some o → s'.heap.get? b = some o) → Frm prog w env lay h₀ B [D] s'.heap σ' → R (.ok .next) s') :
    codeAny (model prog w) A (.compLoop (.ListComp elt gens scope pos) d it (.ref D) env) R s₀ := by
  refine codeAny_loop rfl (fun m s₁ => ∃ i σ₁, m = vs.length - i ∧ i ≤ vs.length ∧ St' i s₁.heap ∧ Val s₁.heap (hid (Bw B wr) env [D]) ∧ Frm prog w env lay h₀ (Bw B wr) [D] s₁.heap σ₁ ∧
    loopC asg c g (vs.drop i) σ₁ = some σ' ∧ Same s₀ s₁ ∧ (∀ b o, ¬ ownH env [D] b → b ∉ wr → s₀.heap.get? b = some o → s₁.heap.get? b = some o)) ?_ vs.length
    ⟨0, σ₀, rfl, Nat.zero_le _, hst, hval, F₀, e, Same.refl _, fun _ _ _ _ e => e⟩
  rintro m s₁ ⟨i, σ₁, rfl, hi, hst₁, hval₁, F₁, e₁, sm, kp⟩
  show wpAny _ A ((compTurn (.ListComp elt gens scope pos) d it (.ref D) env).onRaise (fun x => do noteFrame x env; theTreesLotGoes x)) _ _ s₁
  refine wpAny_noted ?_
  rw [ht]
  unfold turnC
  refine wpAny_bind (wpAny_standAt (wpAny_bind ?_))
  have hwo : ∀ b ∈ wr, ¬ ownH env [D] b := fun b q => hfp b (W.sub b q)
  have uB : Under B s₁.heap := fun a q => F₁.under a (.inl q)
  cases hv : vs[i]? with
  | none =>
    have hi' : i = vs.length := by
      have := List.getElem?_eq_none_iff.mp hv
      omega
    subst hi'
    rw [List.drop_length] at e₁
    cases e₁
    refine W.done s₁ _ _ hst₁ fun s₂ k₂ kk => wpAny_pure ?_
    refine h s₂ (sm.trans k₂) (fun b o n1 n2 e => kk b o n2 (kp b o n1 n2 e)) ?_
    exact F₁.turn kk (fun b q => .inr q) hw0 hwo (fun a q => let ⟨o, e⟩ := uB a q; ⟨o, kk a o (hBe a q) e⟩) fun b o _ q => .inl q
  | some v =>
    have hi' : i < vs.length := (List.getElem?_eq_some_iff.mp hv).1
    have hd : vs.drop i = v :: vs.drop (i + 1) := by
      rw [List.drop_eq_getElem_cons hi']
      rw [List.getElem?_eq_getElem hi'] at hv
      rw [Option.some.inj hv]
    rw [hd] at e₁
    unfold loopC at e₁
    obtain ⟨σ₂, ea, e₁⟩ := Option.bind_eq_some_iff.mp e₁
    obtain ⟨bt, ec, e₁⟩ := Option.bind_eq_some_iff.mp e₁
    obtain ⟨σ₃, eg, e₁⟩ := Option.bind_eq_some_iff.mp e₁
    refine W.item i v s₁ (hid (Bw B wr) env [D]) _ _ _ _ hv hst₁ hval₁ (fun b q => .inl (.inr q)) F₁.hidden (fun _ _ z => wpAny_bind z) fun x s₂ k₂ kk st₂ r₂ => ?_
    have F₂ : Frm prog w env lay h₀ (Bw B wr) [D] s₂.heap σ₁ := F₁.turn kk (fun b q => .inr q) hw0 hwo (by
      rintro a (q | q)
      · obtain ⟨o, e⟩ := uB a q
        exact ⟨o, kk a o (hBe a q) e⟩
      · exact W.alive _ _ st₂ a (W.sub a q)) fun b o _ q => q
    have fin : ∀ s₅, Mv env [D] [D] s₂ s₅ → Frm prog w env lay h₀ (Bw B wr) [D] s₅.heap σ₃ → ∃ m, m < vs.length - i ∧ ∃ i σ₁, m = vs.length - i ∧ i ≤ vs.length ∧ St' i s₅.heap ∧ Val s₅.heap (hid (Bw B wr) env [D]) ∧ Frm prog w env lay h₀ (Bw B wr) [D] s₅.heap σ₁ ∧
        loopC asg c g (vs.drop i) σ₁ = some σ' ∧ Same s₀ s₅ ∧ (∀ b o, ¬ ownH env [D] b → b ∉ wr → s₀.heap.get? b = some o → s₅.heap.get? b = some o) := by
      intro s₅ m₅ F₅
      refine ⟨vs.length - (i + 1), by omega, i + 1, σ₃, rfl, hi', W.frame _ _ _ st₂ fun b hb o e => m₅.kept b o (hfp b hb) e, ?_, F₅, e₁, (sm.trans k₂).trans m₅.same, fun b o n1 n2 e => m₅.kept b o n1 (kk b o n2 (kp b o n1 n2 e))⟩
      exact W.go _ _ _ _ (W.go _ _ _ _ hval₁ ⟨fun b o nb e => kk b o (fun q => nb (.inl (.inr q))) e, fun _ _ nb _ => nb⟩) m₅.goes
    refine wpAny_bind (ha A s₂ h₀ (Bw B wr) [D] σ₁ v x σ₂ am b F₂ r₂ ea _ _ fun s₃ m₃ F₃ => ?_)
    refine wpAny_bind (hc A s₃ h₀ (Bw B wr) [D] σ₂ bt am b F₃ ec _ _ fun s₄ k₄ => ?_)
    have m₄ := Mv.trans F₃ m₃ (Mv.of k₄)
    cases bt with
    | true =>
      refine hg A s₄ h₀ (Bw B wr) D σ₂ σ₃ am b (F₃.step k₄.kept) eg _ _ _ fun s₅ m₅ F₅ => wpAny_pure ⟨rfl, ?_⟩
      exact fin s₅ (Mv.trans (F₃.step k₄.kept) m₄ m₅) F₅
    | false =>
      cases eg
      exact wpAny_pure ⟨rfl, fin s₄ m₄ (F₃.step k₄.kept)⟩
end Mine
end Core10_part
section Core11_part
open PySem PySem.W PyProof.Rows PySem.Calls
set_option Elab.async false
set_option maxRecDepth 100000
namespace Mine
variable {prog : Program} {w : World} {K : Frag} {mg mb : Str → Option Value} {n : Nat} {env : Env} {lay : Lay}
theorem codeAny_compStart1 {A : Around} {R : Result → Shared → Prop} {s : Shared} {elt target iter ifs target' iter' ifs' scope pos it acc env}
    (h0 : codeAny (model prog w) A (.compLoop (.ListComp elt [⟨target, iter, ifs, 0⟩, ⟨target', iter', ifs', 0⟩] scope pos) 1 it acc env) R s)
    (h : wpAny (model prog w) A (pyIter it) (fun it' s' => codeAny (model prog w) A (.compLoop (.ListComp elt [⟨target, iter, ifs, 0⟩, ⟨target', iter', ifs', 0⟩] scope pos) 1 it' acc env) R s')
      (notedBy (model prog w) A env fun x s' => R (.error x) s') s) :
    codeAny (model prog w) A (.compStart (.ListComp elt [⟨target, iter, ifs, 0⟩, ⟨target', iter', ifs', 0⟩] scope pos) 1 it acc env) R s := by
  refine codeAny_of_tree ?_
  show wpAny _ _ ((compStart (.ListComp elt [⟨target, iter, ifs, 0⟩, ⟨target', iter', ifs', 0⟩] scope pos) 1 it acc env).onRaise (fun x => do noteFrame x env; standAt theWindowsPlace)) _ _ s
  refine wpAny_notedAt ?_
  unfold compStart
  show wpAny _ _ (ask >>= _) _ _ s
  refine wpAny_bind (wpAny_askSetting (wpAny_ite ?_))
  split
  · first
      | exact wpAny_bind (wpAny_pure (wpAny_pure (And.intro rfl h0)))
      | exact wpAny_pure (And.intro rfl h0)
  · first
      | exact wpAny_bind (wpAny_rule (wpAny_bind (wpAny_standAt (wpAny_bind (wpAny_mono h (fun it' s' h' => wpAny_pure (And.intro rfl h')) fun _ _ x => x)))))
      | (refine wpAny_bind (wpAny_rule ?_); show wpAny _ _ (standAt iter'.pos >>= _) _ _ s; exact wpAny_bind (wpAny_standAt (wpAny_bind (wpAny_mono h (fun it' s' h' => wpAny_pure (And.intro rfl h')) fun _ _ x => x))))
theorem deep_sound {elt target iter target' iter' : Expr} {ifs ifs' : List Expr} {scope : Scope} {pos : Pos} {fi : St → Option (List V)} {asg : V → St → Option St} {c : St → Option Bool} {g : St → Option St}
    (hi : ImplI prog w K mg mb n env lay target' (eval iter' env) fi) (ha : ImplA prog w K mg mb n env lay (assign target' env) asg) (hc : ImplIfs prog w K mg mb n env lay ifs' c) (hg : ImplG prog w K mg mb n env lay (emitC elt env) g)
    (hs : ∀ x, foldedSetIterable iter' env x = pure x) :
    ImplG prog w K mg mb n env lay (deepC (.ListComp elt [⟨target, iter, ifs, 0⟩, ⟨target', iter', ifs', 0⟩] scope pos) iter' env) (fun σ => (fi σ).bind fun vs => loopC asg c g vs σ) := by
  intro A s h₀ B D σ σ' a b F e k Q E h
  obtain ⟨vs, ei, e⟩ := Option.bind_eq_some_iff.mp e
  unfold deepC
  refine wpAny_bind (wpAny_mono (hi A s h₀ B [D] σ vs a b F ei (fun it s' => wpAny (model prog w) A (runOwn (.compStart (.ListComp elt [⟨target, iter, ifs, 0⟩, ⟨target', iter', ifs', 0⟩] scope pos) 1 it (.ref D) env) env) (fun _ s'' => wpAny (model prog w) A k Q E s'') E s') E
    fun it s' fp wr St' Val kk W hst hval hwr hfp => ?_) (fun x s₁ h₁ => wpAny_bind (wpAny_standAt (wpAny_bind (wpAny_of_eq (hs x) (wpAny_bind (wpAny_holding (wpAny_mono h₁ (fun it s₂ h₂ => wpAny_bind h₂) fun _ _ z => z))))))) fun _ _ z => z)
  have hw0 : ∀ b ∈ wr, h₀.get? b = none := fun b hb => by
    cases q : h₀.get? b with
    | none => rfl
    | some o => have := F.keep b o q; rw [hwr b hb] at this; cases this
  have hu : Under (Bw B wr) s'.heap := by
    rintro a (q | q)
    · obtain ⟨o, e⟩ := F.under a q
      exact ⟨o, kk.kept a o e⟩
    · exact W.alive 0 _ hst a (W.sub a q)
  have F' : Frm prog w env lay h₀ (Bw B wr) [D] s'.heap σ := F.reb kk.kept hu fun b o e q => q.elim id fun q => by rw [hwr b q] at e; cases e
  have hBe : ∀ b, B b → b ∉ wr := fun b q z => by
    obtain ⟨o, e⟩ := F.under b q
    rw [hwr b z] at e; cases e
  have hv' : Val s'.heap (hid (Bw B wr) env [D]) := W.go _ _ _ _ hval ⟨fun b o _ e => e, fun b o nb e q => nb (hid_Bw q)⟩
  have loop : ∀ R : Result → Shared → Prop, (∀ s'', wpAny (model prog w) A k Q E s'' → R (.ok .next) s'') → codeAny (model prog w) A (.compLoop (.ListComp elt [⟨target, iter, ifs, 0⟩, ⟨target', iter', ifs', 0⟩] scope pos) 1 it (.ref D) env) R s' := fun R hR =>
    comp_sound a b ha hc hg (turn_in ..) W hst F' hv' hw0 hBe (fun b hb q => hfp b hb (.inr q)) e fun s'' sm kp F'' => by
      refine hR s'' (h s'' ⟨kk.toSame.trans sm, fun b o nb e => kp b o nb (fun q => by rw [hwr b q] at e; cases e) (kk.kept b o e), fun _ q => .inl q, fun _ _ e => e⟩ F'')
  refine wpAny_runOwn ?_
  exact codeAny_compStart1 (loop _ fun _ z => z) (W.self 0 _ _ _ hst (loop _ fun _ z => z))
noncomputable def capsOf (env : Env) : List (Str × NameKind) → List (Str × Addr) → Option (List (Str × Addr))
  | [], acc => some acc
  | (x, k) :: r, acc => if k == .free then (match env.cells.lookup x with
      | some a => capsOf env r ((x, a) :: acc)
      | none => none) else capsOf env r acc
theorem forIn_caps (f : Str × NameKind → List (Str × Addr) → Sem (ForInStep (List (Str × Addr))))
    (hf : ∀ x k cs, f (x, k) cs = if k == .free then (do let a ← cellOf env x; pure (.yield ((x, a) :: cs))) else pure (.yield cs)) :
    ∀ (names : List (Str × NameKind)) (acc cl : List (Str × Addr)), capsOf env names acc = some cl → forIn names acc f = (pure cl : Sem _)
  | [], acc, cl, e => by cases e; rw [List.forIn_nil]
  | (x, k) :: r, acc, cl, e => by
    rw [List.forIn_cons, hf]
    unfold capsOf at e
    split at e
    · rename_i hk
      rw [if_pos hk]
      split at e
      · rename_i a ha
        unfold cellOf
        rw [ha]
        exact forIn_caps f hf r _ cl e
      · cases e
    · rename_i hk
      rw [if_neg hk]
      exact forIn_caps f hf r _ cl e
theorem closureFor_caps {scope : Scope} {cl : List (Str × Addr)} (e : capsOf env scope.names [] = some cl) : closureFor scope env = pure cl := by
  unfold closureFor
  dsimp only
  rw [forIn_caps (env := env) _ (fun x k cs => by cases hk : k == NameKind.free <;> simp) scope.names [] cl e]
  rfl
theorem capsOf_mem : ∀ {names : List (Str × NameKind)} {acc cl : List (Str × Addr)}, capsOf env names acc = some cl → ∀ x a, (x, a) ∈ cl → (x, a) ∈ acc ∨ ((x, NameKind.free) ∈ names ∧ env.cells.lookup x = some a)
  | [], acc, cl, e, x, a, h => by cases e; exact .inl h
  | (y, k) :: r, acc, cl, e, x, a, h => by
    unfold capsOf at e
    split at e
    · rename_i hk
      split at e
      · rename_i b hb
        rcases capsOf_mem e x a h with q | q
        · rcases List.mem_cons.mp q with q | q
          · cases q; exact .inr ⟨by rw [beq_iff_eq.mp hk]; exact List.mem_cons_self, hb⟩
          · exact .inl q
        · exact .inr ⟨.tail _ q.1, q.2⟩
      · cases e
    · rcases capsOf_mem e x a h with q | q
      · exact .inl q
      · exact .inr ⟨.tail _ q.1, q.2⟩
theorem capsOf_acc : ∀ {names : List (Str × NameKind)} {acc cl : List (Str × Addr)}, capsOf env names acc = some cl → ∀ p ∈ acc, p ∈ cl
  | [], acc, cl, e, p, h => by cases e; exact h
  | (y, k) :: r, acc, cl, e, p, h => by
    unfold capsOf at e
    split at e
    · split at e
      · exact capsOf_acc e p (.tail _ h)
      · cases e
    · exact capsOf_acc e p h
theorem capsOf_get : ∀ {names : List (Str × NameKind)} {acc cl : List (Str × Addr)}, capsOf env names acc = some cl → ∀ x, (x, NameKind.free) ∈ names → ∃ a, (x, a) ∈ cl
  | (y, k) :: r, acc, cl, e, x, h => by
    unfold capsOf at e
    rcases List.mem_cons.mp h with q | q
    · cases q
      split at e
      · split at e
        · rename_i b hb
          exact ⟨b, capsOf_acc e _ List.mem_cons_self⟩
        · cases e
      · rename_i hk; exact absurd rfl hk
    · split at e
      · split at e
        · exact capsOf_get e x q
        · cases e
      · exact capsOf_get e x q
theorem capsOf_some : ∀ {names : List (Str × NameKind)} {acc : List (Str × Addr)}, (∀ x, (x, NameKind.free) ∈ names → ∃ a, env.cells.lookup x = some a) → ∃ cl, capsOf env names acc = some cl
  | [], acc, _ => ⟨acc, rfl⟩
  | (y, k) :: r, acc, h => by
    unfold capsOf
    by_cases hk : (k == NameKind.free) = true
    · rw [if_pos hk]
      obtain ⟨a, ha⟩ := h y (by rw [beq_iff_eq.mp hk]; exact List.mem_cons_self)
      rw [ha]
      exact capsOf_some fun x q => h x (.tail _ q)
    · rw [if_neg hk]
      exact capsOf_some fun x q => h x (.tail _ q)
theorem capsOf_apart (hp : env.cells.Pairwise fun x y => x.2 ≠ y.2) : ∀ {names : List (Str × NameKind)} {acc cl : List (Str × Addr)}, capsOf env names acc = some cl → (names.map (·.1)).Nodup →
    (∀ x a, (x, a) ∈ acc → env.cells.lookup x = some a ∧ x ∉ names.map (·.1)) → acc.Pairwise (fun x y => x.2 ≠ y.2) → cl.Pairwise (fun x y => x.2 ≠ y.2)
  | [], acc, cl, e, _, _, h => by cases e; exact h
  | (y, k) :: r, acc, cl, e, hn, hacc, h => by
    simp only [List.map_cons, List.nodup_cons] at hn
    unfold capsOf at e
    split at e
    · split at e
      · rename_i b hb
        refine capsOf_apart hp e hn.2 ?_ ?_
        · intro x a q
          rcases List.mem_cons.mp q with q | q
          · cases q; exact ⟨hb, hn.1⟩
          · exact ⟨(hacc x a q).1, fun z => (hacc x a q).2 (.tail _ z)⟩
        · refine List.pairwise_cons.mpr ⟨fun p hp' q => ?_, h⟩
          obtain ⟨x, a⟩ := p
          have q' : b = a := q
          subst q'
          have := hacc x b hp'
          have e2 := name_of_addr hp (mem_of_lookup hb) (mem_of_lookup this.1)
          exact this.2 (by rw [← e2]; simp)
      · cases e
    · exact capsOf_apart hp e hn.2 (fun x a q => ⟨(hacc x a q).1, fun z => (hacc x a q).2 (.tail _ z)⟩) h
theorem cellsFrom_mem : ∀ (names : List (Str × NameKind)) (h : Heap) (acc : List (Str × Addr)) (x : Str) (c : Addr), (x, c) ∈ cellsFrom h.objs.size names acc → (x, c) ∈ acc ∨ ((x, NameKind.cell) ∈ names ∧ h.objs.size ≤ c ∧ (pushCells h names).IsCell c none)
  | [], h, acc, x, c, q => .inl q
  | (y, k) :: r, h, acc, x, c, q => by
    unfold cellsFrom at q
    unfold pushCells
    split at q
    · rename_i hk
      rw [if_pos hk]
      have ih := cellsFrom_mem r (h.push { cls := .type "cell", data := .cell none }) ((y, h.objs.size) :: acc) x c (by rw [Heap.size_push]; exact q)
      rcases ih with z | ⟨z1, z2, z3⟩
      · rcases List.mem_cons.mp z with z | z
        · cases z
          refine .inr ⟨by rw [beq_iff_eq.mp hk]; exact List.mem_cons_self, Nat.le_refl _, ?_⟩
          exact ⟨_, pushCells_keeps r _ _ _ (Heap.get?_push_size _ rfl), rfl⟩
        · exact .inl z
      · rw [Heap.size_push] at z2
        exact .inr ⟨.tail _ z1, by omega, z3⟩
    · rename_i hk
      rw [if_neg hk]
      rcases cellsFrom_mem r h acc x c q with z | ⟨z1, z2, z3⟩
      · exact .inl z
      · exact .inr ⟨.tail _ z1, z2, z3⟩
theorem cellsFrom_acc : ∀ (names : List (Str × NameKind)) (m : Nat) (acc : List (Str × Addr)) (p : Str × Addr), p ∈ acc → p ∈ cellsFrom m names acc
  | [], m, acc, p, h => h
  | (y, k) :: r, m, acc, p, h => by
    unfold cellsFrom
    split
    · exact cellsFrom_acc r _ _ p (.tail _ h)
    · exact cellsFrom_acc r _ _ p h
theorem cellsFrom_has : ∀ (names : List (Str × NameKind)) (m : Nat) (acc : List (Str × Addr)) (x : Str), (x, NameKind.cell) ∈ names → ∃ c, (x, c) ∈ cellsFrom m names acc
  | (y, k) :: r, m, acc, x, h => by
    unfold cellsFrom
    rcases List.mem_cons.mp h with q | q
    · cases q
      refine ⟨m, ?_⟩
      show _ ∈ cellsFrom (m + 1) r ((y, m) :: acc)
      exact cellsFrom_acc r _ _ _ List.mem_cons_self
    · split
      · exact cellsFrom_has r _ _ x q
      · exact cellsFrom_has r _ _ x q
theorem cellsFrom_apart : ∀ (names : List (Str × NameKind)) (m : Nat) (acc : List (Str × Addr)), (∀ p ∈ acc, p.2 < m) → acc.Pairwise (fun x y => x.2 ≠ y.2) → (cellsFrom m names acc).Pairwise (fun x y => x.2 ≠ y.2)
  | [], m, acc, _, h => h
  | (y, k) :: r, m, acc, hl, h => by
    unfold cellsFrom
    split
    · refine cellsFrom_apart r _ _ (fun p hp => ?_) (List.pairwise_cons.mpr ⟨fun p hp q => ?_, h⟩)
      · rcases List.mem_cons.mp hp with q | q
        · rw [q]; exact Nat.lt_succ_self _
        · exact Nat.lt_succ_of_lt (hl p q)
      · have h1 := hl p hp
        rw [← (show m = p.2 from q)] at h1
        exact Nat.lt_irrefl _ h1
    · exact cellsFrom_apart r _ _ hl h
theorem lookup_of_mem {α : Type} : ∀ {l : List (Str × α)} {x : Str} {a : α}, (x, a) ∈ l → ∃ b, l.lookup x = some b
  | (y, b) :: r, x, a, h => by
    rw [List.lookup_cons]
    cases hb : x == y with
    | true => exact ⟨b, rfl⟩
    | false =>
      rcases List.mem_cons.mp h with q | q
      · cases q; simp at hb
      · exact lookup_of_mem q
theorem lookup_relabel (env : Env) : ∀ (names : List (Str × NameKind)) (x : Str),
    (names.map fun (n, k) => if (k == NameKind.free && env.scope.kind == .function && env.kindOf n == some .cell) = true then (n, NameKind.cell) else (n, k)).lookup x =
      (names.lookup x).map fun k => if (k == NameKind.free && env.scope.kind == .function && env.kindOf x == some .cell) = true then NameKind.cell else k
  | [], x => rfl
  | (y, k) :: r, x => by
    show List.lookup x ((if (k == NameKind.free && env.scope.kind == .function && env.kindOf y == some .cell) = true then (y, NameKind.cell) else (y, k)) :: _) = _
    have ih := lookup_relabel env r x
    cases hx : x == y with
    | true =>
      have hxy := beq_iff_eq.mp hx
      subst hxy
      split <;> simp_all [List.lookup_cons]
    | false =>
      have e2 : List.lookup x ((y, k) :: r) = List.lookup x r := by rw [List.lookup_cons, hx]
      rw [e2]
      split
      · rw [List.lookup_cons, hx]; exact ih
      · rw [List.lookup_cons, hx]; exact ih
noncomputable def compEnvX (scope : Scope) (cl : List (Str × Addr)) (C : Addr) (env : Env) : Env :=
  { scope := relabel scope env, locals := C, globals := env.globals, cells := cellsFrom (C + 1) scope.names cl, qual := env.qual, func := none, code := env.code, frame := env.frame, builtins := env.builtins }
theorem newEnv_around {M : Model} {A : Around} {E : Value → Shared → Prop} {s : Shared} {scope : Scope} {cl : List (Str × Addr)} {Q : Env → Shared → Prop}
    (hQ : Q { scope, locals := s.heap.objs.size, globals := env.globals, cells := cellsFrom (s.heap.objs.size + 1) scope.names cl, qual := env.qual, func := none, code := env.code, frame := env.frame, builtins := env.builtins }
      { s with heap := pushCells (s.heap.push { cls := .type "dict", data := .dict #[] }) scope.names }) :
    wpAny M A (newFunctionEnv scope env.globals cl [] env.qual none .none (some env)) Q E s := by
  simp only [newFunctionEnv, Option.isSome_some, if_true]
  refine wpAny_bind (wpAny_alloc ?_)
  refine wpAny_bind (wpAny_layCells _ (fun name kind cells => by cases hkc : kind == NameKind.cell <;> simp) _ _ _ _ ?_)
  rw [show ({ s with heap := s.heap.push { cls := .type "dict", data := .dict #[] } } : Shared).heap.objs.size = s.heap.objs.size + 1 from Heap.size_push ..]
  exact wpAny_bind (wpAny_pure (wpAny_pure hQ))
noncomputable def kindFits (k : Acc) (o : Option NameKind) : Bool := match k, o with
  | .loc, some .local => true
  | .cell, some .cell => true
  | .cap, some .free => true
  | _, _ => false
noncomputable def capFits (lay : Lay) (c : Option Nat) (p : Str × Acc) : Bool := match c with
  | none => !(p.2 == .cap)
  | some i => (p.2 == .cap) && (match lay.names[i]? with
      | some q => (q.1 == p.1) && !(q.2 == .loc)
      | none => false)
noncomputable def compOk (scope : Scope) (lay lay' : Lay) (caps : List (Option Nat)) : Bool :=
  (scope.kind == .function) && decide ((scope.names.map (·.1)).Nodup) && decide ((lay'.names.map (·.1)).Nodup) && decide (caps.length = lay'.names.length)
    && (lay'.names.all fun p => kindFits p.2 (scope.names.lookup p.1) && !(p.1 == ("__debug__" : Str)) && !(p.1 == ("__classdict__" : Str)))
    && ((caps.zip lay'.names).all fun q => capFits lay q.1 q.2)
    && (scope.names.all fun p => !(p.2 == .free) || lay.names.any fun q => (q.1 == p.1) && !(q.2 == .loc))
    && (lay'.globs.all fun x => (scope.names.lookup x == some .globalImplicit) && !(x == ("__debug__" : Str)) && !(x == ("__name__" : Str)))
noncomputable def capSlot (σ : St) : Option Nat → Slot
  | some i => match σ.vars[i]? with
    | some (.val v) => .val v
    | _ => .no
  | none => .no
noncomputable def compSt (caps : List (Option Nat)) (σ : St) : St := { vars := caps.map (capSlot σ), owns := [.lst []] }
end Mine
end Core11_part
section Core12_part
open PySem PySem.W PyProof.Rows PySem.Calls
set_option Elab.async false
set_option maxRecDepth 100000
namespace Mine
variable {prog : Program} {w : World} {K : Frag} {mg mb : Str → Option Value} {n : Nat} {env : Env} {lay : Lay}
theorem lookup_mem_nodup {α : Type} : ∀ {l : List (Str × α)} {x : Str} {a : α}, (l.map (·.1)).Nodup → (x, a) ∈ l → l.lookup x = some a
  | (y, b) :: r, x, a, hn, h => by
    simp only [List.map_cons, List.nodup_cons] at hn
    rw [List.lookup_cons]
    rcases List.mem_cons.mp h with q | q
    · cases q; simp
    · cases hx : x == y with
      | true =>
        exfalso
        rw [beq_iff_eq.mp hx] at q
        exact hn.1 (List.mem_map.mpr ⟨_, q, rfl⟩)
      | false => exact lookup_mem_nodup hn.2 q
theorem big0 {a b : Nat} (h : a < b) (e : a = b) : False := by omega
theorem big1 {a b : Nat} (h : a < b) (e : a = b + 1) : False := by omega
theorem big2 {a b : Nat} (h : a < b) (e : b + 1 + 1 ≤ a) : False := by omega
theorem big3 {a b : Nat} (e : a = b + 1) (h : b + 1 + 1 ≤ a) : False := by omega
theorem big4 {a b : Nat} (h : b + 1 + 1 ≤ a) : b ≤ a := by omega
theorem big5 {a b : Nat} (e : a = b) (h : b + 1 + 1 ≤ a) : False := by omega
theorem big6 {a b : Nat} (h : a < b) : a < b + 1 + 1 := by omega
theorem comp_frame {scope : Scope} {lay' : Lay} {caps : List (Option Nat)} {h₀ h h₂ : Heap} {B : Hid} {O : List Addr} {σ : St} {cl : List (Str × Addr)} {wr : List Addr}
    (F : Frm prog w env lay h₀ B O h σ) (hok : compOk scope lay lay' caps = true) (hcl : capsOf env scope.names [] = some cl) (k : Kept h h₂) (hwr : ∀ b ∈ wr, h.get? b = none ∧ ∃ o, h₂.get? b = some o) :
    Frm prog w (compEnvX scope cl (h₂.objs.size + 1) env) lay' h (Bw (hid B env O) wr) [h₂.objs.size]
      (pushCells ((h₂.push { cls := .type "list", dict := none, data := .seq ([] : List Value).toArray }).push { cls := .type "dict", data := .dict #[] }) scope.names) (compSt caps σ) := by
  unfold compOk at hok
  simp only [Bool.and_eq_true, decide_eq_true_eq, beq_iff_eq, List.all_eq_true, Bool.or_eq_true, Bool.not_eq_true'] at hok
  obtain ⟨⟨⟨⟨⟨⟨⟨hkind, hnd⟩, hnd'⟩, hlen⟩, hn⟩, hcap⟩, hfree⟩, hgl⟩ := hok
  generalize hp : h₂.push { cls := .type "list", dict := none, data := .seq ([] : List Value).toArray } = hL
  have szL : hL.objs.size = h₂.objs.size + 1 := by rw [← hp, Heap.size_push]
  generalize hpd : hL.push { cls := .type "dict", data := .dict #[] } = hD
  have szD : hD.objs.size = h₂.objs.size + 1 + 1 := by rw [← hpd, Heap.size_push, szL]
  have kall : Kept h (pushCells hD scope.names) := fun b o e => pushCells_keeps _ _ b o (by rw [← hpd]; exact Heap.get?_push_of_some _ (by rw [← hp]; exact Heap.get?_push_of_some _ (k b o e)))
  have k2 : Kept h₂ (pushCells hD scope.names) := fun b o e => pushCells_keeps _ _ b o (by rw [← hpd]; exact Heap.get?_push_of_some _ (by rw [← hp]; exact Heap.get?_push_of_some _ e))
  have gone : ∀ a, h₂.objs.size ≤ a → h.get? a = none := fun a ha => by
    cases e : h.get? a with
    | none => rfl
    | some o => exact absurd (Heap.lt_size (k a o e)) (Nat.not_lt.mpr ha)
  have gone2 : ∀ a, h₂.objs.size ≤ a → h₂.get? a = none := fun a ha => get_size_none _ ha
  have hlist : (pushCells hD scope.names).PlainList h₂.objs.size #[] := ⟨0, pushCells_keeps _ _ _ _ (by rw [← hpd]; exact Heap.get?_push_of_some _ (by rw [← hp]; exact Heap.get?_push_size _ rfl))⟩
  have hns : (pushCells hD scope.names).Ns (h₂.objs.size + 1) (fun _ => none) := by
    have := (Heap.Ns.new hL (.type "dict")).keeps (h' := pushCells hD scope.names) (fun b o e => pushCells_keeps _ _ b o (hpd ▸ e))
    rw [szL] at this
    exact this
  have cfm := fun x c q => cellsFrom_mem scope.names hD cl x c q
  rw [szD] at cfm
  have clm : ∀ x a, (x, a) ∈ cl → (x, NameKind.free) ∈ scope.names ∧ env.cells.lookup x = some a := fun x a q => by
    rcases capsOf_mem hcl x a q with z | z
    · cases z
    · exact z
  have clive : ∀ x a, (x, a) ∈ cl → ∃ o, h.get? a = some o := fun x a q => (F.cLoc x a (clm x a q).2).2
  have old_ne : ∀ a o, h.get? a = some o → a < h₂.objs.size := fun a o e => Heap.lt_size (k a o e)
  -- a captured name
  have capLk : ∀ x, (x, NameKind.free) ∈ scope.names → ∀ c, (cellsFrom (h₂.objs.size + 1 + 1) scope.names cl).lookup x = some c → env.cells.lookup x = some c := fun x hx c e => by
    rcases cfm x c (mem_of_lookup e) with q | ⟨q, _⟩
    · exact (clm x c q).2
    · have e1 := lookup_mem_nodup hnd hx
      rw [lookup_mem_nodup hnd q] at e1; cases e1
  have ownLk : ∀ x, (x, NameKind.cell) ∈ scope.names → ∀ c, (cellsFrom (h₂.objs.size + 1 + 1) scope.names cl).lookup x = some c → h₂.objs.size + 1 + 1 ≤ c ∧ (pushCells hD scope.names).IsCell c none := fun x hx c e => by
    rcases cfm x c (mem_of_lookup e) with q | ⟨_, q⟩
    · have e1 := lookup_mem_nodup hnd hx
      rw [lookup_mem_nodup hnd (clm x c q).1] at e1; cases e1
    · exact q
  have celLive : ∀ n c, (cellsFrom (h₂.objs.size + 1 + 1) scope.names cl).lookup n = some c → (h₂.objs.size + 1 + 1 ≤ c ∨ ((∃ o, h.get? c = some o) ∧ env.cells.lookup n = some c)) ∧ ∃ o, (pushCells hD scope.names).get? c = some o := fun n c e => by
    rcases cfm n c (mem_of_lookup e) with q | ⟨_, q1, ⟨o, q2, _⟩⟩
    · obtain ⟨o, e⟩ := clive n c q
      exact ⟨.inr ⟨⟨o, e⟩, (clm n c q).2⟩, o, kall c o e⟩
    · exact ⟨.inl q1, o, q2⟩
  have hg : Goes h (hid B env O) (pushCells hD scope.names) (hid (Bw (hid B env O) wr) (compEnvX scope cl (h₂.objs.size + 1) env) [h₂.objs.size]) := by
    refine ⟨fun b o _ e => kall b o e, fun b o nb e => ?_⟩
    have hlt := old_ne b o e
    rintro ((q | q) | q | ⟨n', q⟩ | q)
    · exact nb q
    · rw [(hwr b q).1] at e; cases e
    · exact big1 hlt q
    · rcases (celLive n' b q).1 with z | ⟨_, z⟩
      · exact big2 hlt z
      · exact nb (.inr (.inr (.inl ⟨n', z⟩)))
    · exact big0 hlt (List.mem_singleton.mp q)
  have hu : Under (hid B env O) h := F.hidden
  exact {
    ok := by
      unfold layOk
      simp only [Bool.and_eq_true, decide_eq_true_eq, beq_iff_eq, List.all_eq_true, Bool.not_eq_true']
      refine ⟨⟨⟨hkind, fun p hp' => ⟨⟨?_, (hn p hp').1.2⟩, (hn p hp').2⟩⟩, hnd'⟩, fun x hx => ⟨⟨?_, (hgl x hx).1.2⟩, (hgl x hx).2⟩⟩
      · have hk := (hn p hp').1.1
        show p.2.fits ((relabel scope env).names.lookup p.1) = true
        unfold relabel
        rw [lookup_relabel]
        generalize scope.names.lookup p.1 = o at hk
        obtain ⟨x, kd⟩ := p
        cases kd <;> cases o <;> first | (cases hk; done) | skip
        · rename_i k1
          cases k1 <;> first | (cases hk; done) | rfl
        · rename_i k1
          cases k1 <;> first | (cases hk; done) | rfl
        · rename_i k1
          cases k1 <;> first | (cases hk; done) | skip
          simp only [Option.map_some]
          split <;> rfl
      · show ((relabel scope env).names.lookup x) = some .globalImplicit
        unfold relabel
        rw [lookup_relabel, (hgl x hx).1.1]
        rfl
    glob := F.glob, blt := F.blt, keep := kall
    under := by
      rintro a (q | q)
      · obtain ⟨o, e⟩ := hu a q
        exact ⟨o, kall a o e⟩
      · obtain ⟨o, e⟩ := (hwr a q).2
        exact ⟨o, k2 a o e⟩
    locN := gone _ (Nat.le_succ _)
    oNew := fun a ha => by
      rw [List.mem_singleton.mp ha]
      refine ⟨gone _ (Nat.le_refl _), Nat.ne_of_lt (Nat.lt_succ_self _), fun n' e => ?_, ?_⟩
      · rcases (celLive n' _ e).1 with z | ⟨⟨o, z⟩, _⟩
        · exact big5 rfl z
        · exact Nat.lt_irrefl _ (old_ne _ o z)
      · rintro (q | q)
        · obtain ⟨o, e⟩ := hu _ q
          exact Nat.lt_irrefl _ (old_ne _ o e)
        · obtain ⟨o, e⟩ := (hwr _ q).2
          exact Nat.lt_irrefl _ (Heap.lt_size e)
    oNodup := by simp
    cApart := cellsFrom_apart _ _ _ (fun p hp' => by obtain ⟨o, e⟩ := clive p.1 p.2 hp'; exact big6 (old_ne _ o e)) (capsOf_apart F.cApart hcl hnd (fun x a q => by cases q) List.Pairwise.nil)
    cLoc := fun n' c e => ⟨fun q => by
      rcases (celLive n' c e).1 with z | ⟨⟨o, z⟩, _⟩
      · exact big3 q z
      · exact big1 (old_ne _ o z) q, (celLive n' c e).2⟩
    cNew := fun x hx c e => by
      have hk := (hn (x, .cell) hx).1.1
      have hm : (x, NameKind.cell) ∈ scope.names := by
        generalize hq : scope.names.lookup (x, Acc.cell).1 = o at hk
        cases o with
        | none => cases hk
        | some k1 => cases k1 <;> first | (cases hk; done) | exact mem_of_lookup hq
      exact gone c (big4 (ownLk x hm c e).1)
    oLen := rfl
    vLen := by unfold compSt; simpa using hlen
    ns := ⟨_, hns, fun i x sl e1 e2 => by
      unfold compSt at e2
      rw [List.getElem?_map] at e2
      obtain ⟨cp, e3, rfl⟩ := Option.map_eq_some_iff.mp e2
      have := hcap (cp, (x, .loc)) (List.mem_of_getElem? (List.getElem?_zip_eq_some.mpr ⟨e3, e1⟩))
      unfold capFits at this
      cases cp with
      | none => trivial
      | some j => simp at this⟩
    cs := fun i x kd sl e1 hk e2 => by
      have hm' := List.mem_of_getElem? e1
      have hkf := (hn _ hm').1.1
      unfold compSt at e2
      rw [List.getElem?_map] at e2
      obtain ⟨cp, e3, rfl⟩ := Option.map_eq_some_iff.mp e2
      have hcf := hcap (cp, (x, kd)) (List.mem_of_getElem? (List.getElem?_zip_eq_some.mpr ⟨e3, e1⟩))
      cases kd with
      | loc => exact absurd rfl hk
      | cell =>
        have hm : (x, NameKind.cell) ∈ scope.names := by
          generalize hq : scope.names.lookup (x, Acc.cell).1 = o at hkf
          cases o with
          | none => cases hkf
          | some k1 => cases k1 <;> first | (cases hkf; done) | exact mem_of_lookup hq
        obtain ⟨c₀, hc₀⟩ := cellsFrom_has scope.names (h₂.objs.size + 1 + 1) cl x hm
        obtain ⟨c, hc⟩ := lookup_of_mem hc₀
        refine ⟨c, _, hc, (ownLk x hm c hc).2, ?_⟩
        cases cp with
        | none => trivial
        | some j => simp [capFits] at hcf
      | cap =>
        have hm : (x, NameKind.free) ∈ scope.names := by
          generalize hq : scope.names.lookup (x, Acc.cap).1 = o at hkf
          cases o with
          | none => cases hkf
          | some k1 => cases k1 <;> first | (cases hkf; done) | exact mem_of_lookup hq
        cases cp with
        | none => simp [capFits] at hcf
        | some j =>
          unfold capFits at hcf
          simp only [Bool.and_eq_true, beq_self_eq_true, true_and] at hcf
          split at hcf
          · rename_i q hq
            simp only [Bool.and_eq_true, beq_iff_eq, Bool.not_eq_true'] at hcf
            obtain ⟨qn, qk⟩ := q
            obtain ⟨rfl, hql⟩ := hcf
            have hj : j < σ.vars.length := by rw [F.vLen]; exact (List.getElem?_eq_some_iff.mp hq).1
            obtain ⟨c, y, e4, e5, e6⟩ := F.cs j qn qk _ hq (by intro z; subst z; cases hql) (List.getElem?_eq_getElem hj)
            obtain ⟨a, ha⟩ := capsOf_get hcl qn hm
            obtain ⟨c', hc'⟩ := lookup_of_mem (cellsFrom_acc scope.names (h₂.objs.size + 1 + 1) cl _ ha)
            have := capLk qn hm c' hc'
            rw [e4] at this
            cases this
            refine ⟨c, y, hc', e5.keeps kall, ?_⟩
            unfold capSlot
            dsimp only
            rw [List.getElem?_eq_getElem hj]
            cases hsl : σ.vars[j] with
            | val v =>
              rw [hsl] at e6
              obtain ⟨y', e7, r⟩ := e6
              exact ⟨y', e7, r.go hg⟩
            | no => trivial
            | own k => trivial
          · cases hcf
    os := fun i a v e1 e2 => by
      cases i with
      | zero =>
        cases e1
        cases e2
        exact ⟨[], hlist, Items.nil⟩
      | succ i => cases e1 }
theorem comp_core {A : Around} {E : Value → Shared → Prop} {h₀ : Heap} {B : Hid} {O : List Addr} {σ : St} {s s₂ : Shared} {elt target iter : Expr} {ifs : List Expr} {rest : List Comprehension} {scope : Scope} {pos : Pos} {lay' : Lay} {caps : List (Option Nat)}
    {it : Value} {vs l : List V} {fp wr : List Addr} {St' : Nat → Heap → Prop} {Val : Heap → Hid → Prop} {inner : Env → Value → Sem PySem.Fin → Sem PySem.Fin} {asg : V → St → Option St} {c : St → Option Bool} {g : St → Option St} {RR : Value → Addr → Result → Shared → Prop} {cl : List (Str × Addr)} {σ' : St}
    (am : Amb n A) (b : Base K mg mb h₀) (F : Frm prog w env lay h₀ B O s.heap σ) (k : Step s s₂) (W : It prog w A target it vs fp wr St' Val) (hst : St' 0 s₂.heap) (hval : Val s₂.heap (fun a => hid B env O a ∨ a ∈ wr)) (hwr : ∀ b ∈ wr, s.heap.get? b = none) (hfp : ∀ b ∈ fp, ¬ hid B env O b)
    (hok : compOk scope lay lay' caps = true) (hcl : capsOf env scope.names [] = some cl)
    (ht : ∀ cenv it acc, compTurn (.ListComp elt (⟨target, iter, ifs, 0⟩ :: rest) scope pos) 0 it acc cenv = turnC target iter ifs it cenv (inner cenv acc) (.compLoop (.ListComp elt (⟨target, iter, ifs, 0⟩ :: rest) scope pos) 0 it acc cenv))
    (ha : ∀ cl C, ImplA prog w K mg mb n (compEnvX scope cl C env) lay' (assign target (compEnvX scope cl C env)) asg)
    (hc : ∀ cl C, ImplIfs prog w K mg mb n (compEnvX scope cl C env) lay' ifs c)
    (hg : ∀ cl C, ImplG prog w K mg mb n (compEnvX scope cl C env) lay' (inner (compEnvX scope cl C env)) g)
    (e : loopC asg c g vs (compSt caps σ) = some σ') (eo : σ'.owns = [.lst l])
    (hRR : ∀ D C s' m xs, Step s s' → s.heap.get? D = none → s.heap.get? C = none → C ≠ D → (∃ o, s'.heap.get? C = some o) → s'.heap.Ns C m → s'.heap.PlainList D xs.toArray → Items prog w s'.heap (fun a => hid B env O a ∨ a = C ∨ a = D) l xs → RR (.ref D) C (.ok .next) s') :
    wpAny (model prog w) A (newList []) (fun acc s₃ => wpAny (model prog w) A (newFunctionEnv scope env.globals cl [] env.qual none .none (some env)) (fun cenv s₄ =>
      codeAny (model prog w) A (.compStart (.ListComp elt (⟨target, iter, ifs, 0⟩ :: rest) scope pos) 0 it acc { cenv with scope := relabel scope env }) (RR acc cenv.locals) s₄) E s₃) E s₂ := by
  refine wpAny_newObj_type (newEnv_around ?_)
  dsimp only
  have szL : (s₂.heap.push { cls := .type "list", dict := none, data := .seq ([] : List Value).toArray }).objs.size = s₂.heap.objs.size + 1 := by rw [Heap.size_push]
  have F₁ := comp_frame (cl := cl) (wr := wr) F hok hcl k.kept fun b hb => ⟨hwr b hb, W.alive 0 _ hst b (W.sub b hb)⟩
  have k₁ : Kept s₂.heap (pushCells ((s₂.heap.push { cls := .type "list", dict := none, data := .seq ([] : List Value).toArray }).push { cls := .type "dict", data := .dict #[] }) scope.names) := fun b o e =>
    pushCells_keeps _ _ b o (Heap.get?_push_of_some _ (Heap.get?_push_of_some _ e))
  rw [szL]
  have b' : Base K mg mb s.heap := b.keeps F.keep
  have hW1 : St' 0 (pushCells ((s₂.heap.push { cls := .type "list", dict := none, data := .seq ([] : List Value).toArray }).push { cls := .type "dict", data := .dict #[] }) scope.names) := W.frame _ _ _ hst fun b _ o e => k₁ b o e
  have hfl : ∀ b ∈ fp, b < s₂.heap.objs.size := fun b hb => let ⟨o, e⟩ := W.alive 0 _ hst b hb; Heap.lt_size e
  have hcl' : ∀ x a, (x, a) ∈ cl → env.cells.lookup x = some a := fun x a q => by
    rcases capsOf_mem hcl x a q with z | z
    · cases z
    · exact z.2
  have szD : ((s₂.heap.push { cls := .type "list", dict := none, data := .seq ([] : List Value).toArray }).push { cls := .type "dict", data := .dict #[] }).objs.size = s₂.heap.objs.size + 1 + 1 := by rw [Heap.size_push, Heap.size_push]
  have ownCells : ∀ x a, (compEnvX scope cl (s₂.heap.objs.size + 1) env).cells.lookup x = some a → s₂.heap.objs.size + 1 + 1 ≤ a ∨ env.cells.lookup x = some a := fun x a q => by
    have q2 := mem_of_lookup q
    have q3 : (x, a) ∈ cellsFrom ((s₂.heap.push { cls := .type "list", dict := none, data := .seq ([] : List Value).toArray }).push { cls := .type "dict", data := .dict #[] }).objs.size scope.names cl := by rw [szD]; exact q2
    rcases cellsFrom_mem scope.names _ cl x a q3 with z | ⟨_, z, _⟩
    · exact .inr (hcl' x a z)
    · rw [szD] at z; exact .inl z
  have notown : ∀ b, b < s₂.heap.objs.size → ¬ hid B env O b → ¬ ownH (compEnvX scope cl (s₂.heap.objs.size + 1) env) [s₂.heap.objs.size] b := by
    rintro b hb nb (q | ⟨x, q⟩ | q)
    · exact big1 hb q
    · rcases ownCells x b q with z | z
      · exact big2 hb z
      · exact nb (.inr (.inr (.inl ⟨x, z⟩)))
    · exact big0 hb (List.mem_singleton.mp q)
  have loop : ∀ R : Result → Shared → Prop, (∀ s', RR (.ref s₂.heap.objs.size) (s₂.heap.objs.size + 1) (.ok .next) s' → R (.ok .next) s') →
      codeAny (model prog w) A (.compLoop (.ListComp elt (⟨target, iter, ifs, 0⟩ :: rest) scope pos) 0 it (.ref s₂.heap.objs.size) (compEnvX scope cl (s₂.heap.objs.size + 1) env)) R
        { s₂ with heap := pushCells ((s₂.heap.push { cls := .type "list", dict := none, data := .seq ([] : List Value).toArray }).push { cls := .type "dict", data := .dict #[] }) scope.names } := fun R hR => by
    refine comp_sound (B := hid B env O) (fp := fp) (wr := wr) am b' (ha cl _) (hc cl _) (hg cl _) (ht _ _ _) W hW1 F₁ ?_ hwr ?_ ?_ e fun s' sm kp F' => hR s' ?_
    · refine W.go _ _ _ _ hval ⟨fun b o _ e => k₁ b o e, fun b o nb e q => ?_⟩
      have hlt := Heap.lt_size e
      rcases hid_Bw q with z | z
      · rcases z with z | z | ⟨x, z⟩ | z
        · exact nb (.inl z)
        · exact big1 hlt z
        · rcases ownCells x b z with z | z
          · exact big2 hlt z
          · exact nb (.inl (.inr (.inr (.inl ⟨x, z⟩))))
        · exact big0 hlt (List.mem_singleton.mp z)
      · exact nb (.inr z)
    · intro b q z
      obtain ⟨o, e⟩ := F.hidden b q
      rw [hwr b z] at e; cases e
    · exact fun b hb => notown b (hfl b hb) (hfp b hb)
    · have st : Step s s' := by
        obtain ⟨h', tk', rfl⟩ := k.toSame.trans (Same.trans ⟨_, _, rfl⟩ sm)
        exact Step.of F'.keep
      have gone : ∀ a, s₂.heap.objs.size ≤ a → s.heap.get? a = none := fun a ha => by
        cases e : s.heap.get? a with
        | none => rfl
        | some o => exact absurd (Heap.lt_size (k.kept a o e)) (Nat.not_lt.mpr ha)
      obtain ⟨xs, hp, its⟩ := F'.os 0 s₂.heap.objs.size (.lst l) rfl (by rw [eo]; rfl)
      obtain ⟨m, hns, _⟩ := F'.ns
      refine hRR _ _ s' m xs st (gone _ (Nat.le_refl _)) (gone _ (Nat.le_succ _)) (Nat.ne_of_gt (Nat.lt_succ_self _)) (let ⟨o, _, _, q, _⟩ := hns; ⟨o, q⟩) hns hp ⟨its.1, fun i v x e1 e2 => (its.2 i v x e1 e2).less ?_⟩
      rintro a (q | q | q)
      · exact .inl q
      · exact .inr (.inl q)
      · exact .inr (.inr (.inr (by rw [q]; exact List.mem_singleton.mpr rfl)))
  exact codeAny_compStart_list (loop _ fun _ z => z) (W.self 0 _ _ _ hW1 (loop _ fun _ z => z))
end Mine
end Core12_part
section Core13_part
open PySem PySem.W PyProof.Rows PySem.Calls
set_option Elab.async false
set_option genSizeOfSpec false
set_option genInjectivity false
set_option maxRecDepth 100000
namespace Mine
variable {prog : Program} {w : World} {K : Frag} {mg mb : Str → Option Value} {n : Nat} {env : Env} {lay : Lay}
theorem caps_exist {scope : Scope} {lay' : Lay} {caps : List (Option Nat)} {h₀ h : Heap} {B : Hid} {O : List Addr} {σ : St} (F : Frm prog w env lay h₀ B O h σ) (hok : compOk scope lay lay' caps = true) : ∃ cl, capsOf env scope.names [] = some cl := by
  unfold compOk at hok
  simp only [Bool.and_eq_true, decide_eq_true_eq, beq_iff_eq, List.all_eq_true, Bool.or_eq_true, Bool.not_eq_true'] at hok
  obtain ⟨⟨_, hfree⟩, _⟩ := hok
  refine capsOf_some fun x hx => ?_
  have := hfree _ hx
  rcases this with q | q
  · cases q
  · obtain ⟨p, hp, hq⟩ := List.any_eq_true.mp q
    simp only [Bool.and_eq_true, beq_iff_eq, Bool.not_eq_true'] at hq
    obtain ⟨i, hi, e⟩ := List.getElem_of_mem hp
    have hi' : lay.names[i]? = some (p.1, p.2) := by rw [List.getElem?_eq_getElem hi, e]
    have hiv : i < σ.vars.length := by rw [F.vLen]; exact hi
    obtain ⟨c, y, hc, _⟩ := F.cs i p.1 p.2 _ hi' (by intro z; rw [z] at hq; simp at hq) (List.getElem?_eq_getElem hiv)
    exact ⟨c, hq.1 ▸ hc⟩
theorem compOk_scope {scope : Scope} {lay' : Lay} {caps : List (Option Nat)} (hok : compOk scope lay lay' caps = true) : scope.kind = .function ∧ ∀ x ∈ scope.names, x.2 = .local → scope.names.lookup x.1 = some .local := by
  unfold compOk at hok
  simp only [Bool.and_eq_true, decide_eq_true_eq, beq_iff_eq] at hok
  obtain ⟨⟨⟨⟨⟨⟨⟨hkind, hnd⟩, _⟩, _⟩, _⟩, _⟩, _⟩, _⟩ := hok
  exact ⟨hkind, fun x hx e => lookup_mem_nodup hnd (by rw [← e]; exact hx)⟩
noncomputable def compL (fi : St → Option (List V)) (caps : List (Option Nat)) (asg : V → St → Option St) (c : St → Option Bool) (g : St → Option St) (σ : St) : Option (List V) :=
  (fi σ).bind fun vs => (loopC asg c g vs (compSt caps σ)).bind fun σ' => match σ'.owns with
    | [.lst l] => some l
    | _ => none
noncomputable def compV (fi : St → Option (List V)) (caps : List (Option Nat)) (asg : V → St → Option St) (c : St → Option Bool) (g : St → Option St) (σ : St) : Option V := (compL fi caps asg c g σ).map .lst
section
variable {elt target iter : Expr} {ifs : List Expr} {rest : List Comprehension} {scope : Scope} {pos : Pos} {lay' : Lay} {caps : List (Option Nat)} {inner : Env → Value → Sem PySem.Fin → Sem PySem.Fin}
    {fi : St → Option (List V)} {asg : V → St → Option St} {c : St → Option Bool} {g : St → Option St}
structure CompParts (prog : Program) (w : World) (K : Frag) (mg mb : Str → Option Value) (n : Nat) (env : Env) (lay : Lay) (elt target iter : Expr) (ifs : List Expr) (rest : List Comprehension) (scope : Scope) (pos : Pos) (lay' : Lay) (caps : List (Option Nat))
    (inner : Env → Value → Sem PySem.Fin → Sem PySem.Fin) (fi : St → Option (List V)) (asg : V → St → Option St) (c : St → Option Bool) (g : St → Option St) : Prop where
  hi : ImplI prog w K mg mb n env lay target (eval iter env) fi
  hok : compOk scope lay lay' caps = true
  ht : ∀ cenv it acc, compTurn (.ListComp elt (⟨target, iter, ifs, 0⟩ :: rest) scope pos) 0 it acc cenv = turnC target iter ifs it cenv (inner cenv acc) (.compLoop (.ListComp elt (⟨target, iter, ifs, 0⟩ :: rest) scope pos) 0 it acc cenv)
  ha : ∀ cl C, ImplA prog w K mg mb n (compEnvX scope cl C env) lay' (assign target (compEnvX scope cl C env)) asg
  hc : ∀ cl C, ImplIfs prog w K mg mb n (compEnvX scope cl C env) lay' ifs c
  hg : ∀ cl C, ImplG prog w K mg mb n (compEnvX scope cl C env) lay' (inner (compEnvX scope cl C env)) g
  hs : ∀ x, foldedSetIterable iter env x = pure x
theorem comp_run {use : Option (Value → Sem Unit)} {A : Around} {E : Value → Shared → Prop} {h₀ : Heap} {B : Hid} {O : List Addr} {σ : St} {s : Shared} {l : List V} {Q : Value → Shared → Prop}
    (P : CompParts prog w K mg mb n env lay elt target iter ifs rest scope pos lay' caps inner fi asg c g) (am : Amb n A) (b : Base K mg mb h₀) (F : Frm prog w env lay h₀ B O s.heap σ) (e : compL fi caps asg c g σ = some l) {epos : Pos}
    (hQ : ∀ D C s' m xs, Step s s' → s.heap.get? D = none → s.heap.get? C = none → C ≠ D → (∃ o, s'.heap.get? C = some o) → s'.heap.Ns C m → s'.heap.PlainList D xs.toArray → Items prog w s'.heap (fun a => hid B env O a ∨ a = C ∨ a = D) l xs →
      compPost (model prog w) A E use Q (.ref D) C (.ok .next) s') :
    wpAny (model prog w) A (comprehension (.ListComp elt (⟨target, iter, ifs, 0⟩ :: rest) scope pos) scope env epos (newList []) false (eval iter env) use) Q E s := by
  unfold compL at e
  obtain ⟨vs, ei, e⟩ := Option.bind_eq_some_iff.mp e
  obtain ⟨σ', el, e⟩ := Option.bind_eq_some_iff.mp e
  split at e
  · rename_i l' eo
    cases e
    obtain ⟨cl, hcl⟩ := caps_exist F P.hok
    refine wpAny_comprehension_free (use := use) rfl P.hs (closureFor_caps hcl) (compOk_scope P.hok).1 (compOk_scope P.hok).2 ?_
    refine P.hi A s h₀ B O σ vs am b F ei _ _ fun it s₂ fp wr St' Val k W hst hval hwr hfp => ?_
    exact comp_core (RR := fun acc C => compPost (model prog w) A E use Q acc C) am b F k W hst hval hwr hfp P.hok hcl P.ht P.ha P.hc P.hg el eo hQ
  · cases e
theorem impl_compG (P : CompParts prog w K mg mb n env lay elt target iter ifs rest scope pos lay' caps inner fi asg c g) :
    Impl prog w K mg mb n env lay (eval (.ListComp elt (⟨target, iter, ifs, 0⟩ :: rest) scope pos) env) (compV fi caps asg c g) := by
  intro A s h₀ B O σ v am b F e Q E h
  unfold compV at e
  obtain ⟨l, el, rfl⟩ := Option.map_eq_some_iff.mp e
  rw [eval_ListComp]
  refine comp_run P am b F el fun D C s' m xs st hD hC hCD hCo hns hp its => ⟨m, hns, fun h' hs' => ?_⟩
  have kp : ∀ b o, b ≠ C → s'.heap.get? b = some o → h'.get? b = some o := fun b o nb e => hs'.extBut b o nb e
  have k' : Kept s.heap h' := fun b o e => kp b o (fun q => by rw [q, hC] at e; cases e) (st.kept b o e)
  have st' : Step s { s' with heap := h' } := by
    obtain ⟨h₁, tk, rfl⟩ := st.toSame
    exact Step.of k'
  refine h _ _ st' (.lst D l xs (hp.at fun o e => kp _ _ (Ne.symm hCD) e) (F.hidden.fresh hD) its.1 fun i v x e1 e2 => ?_)
  refine (its.2 i v x e1 e2).go ⟨fun b o nb e => kp b o (fun q => nb (.inr (.inl q))) e, fun b o nb e q => nb (.inl q)⟩
theorem stm_assignC (i : Nat) {x : Str} {pos' pos : Pos} {value : Expr} {f : St → Option V} (hf : Impl prog w K mg mb n env lay (eval value env) f) (hi : lay.names[i]? = some (x, .cell) := by rfl) :
    ImplS prog w K mg mb n env lay (exec (.Assign [.Name x pos'] value pos) env) (fun σ => (f σ).bind fun v => some (.next, σ.put i (.val v))) := by
  intro A s h₀ B O σ r σ' a b F e Q E h
  have hk := Acc.fits_cell (F.name hi).1
  refine stm_assign i hf hi (by decide) ?_ A s h₀ B O σ r σ' a b F e Q E h
  unfold swapsWith
  dsimp only
  cases value <;> first | rfl | skip
  all_goals (dsimp only; rw [hk])
  all_goals (have e0 : (some NameKind.cell == some NameKind.local) = false := rfl; rw [e0, Bool.and_false, Bool.false_and, Bool.false_and])
theorem stm_compG (i : Nat) {x : Str} {pos' spos : Pos} (P : CompParts prog w K mg mb n env lay elt target iter ifs rest scope pos lay' caps inner fi asg c g) (hi : lay.names[i]? = some (x, .loc))
    (hl : ((pos'.line == (Expr.ListComp elt (⟨target, iter, ifs, 0⟩ :: rest) scope pos).pos.line) && !(scope.names.any fun (n, k) => n == x && (k == .local || k == .cell))) = true) :
    ImplS prog w K mg mb n env lay (exec (.Assign [.Name x pos'] (.ListComp elt (⟨target, iter, ifs, 0⟩ :: rest) scope pos) spos) env) (fun σ => (compL fi caps asg c g σ).bind fun l => some (.next, σ.put i (.val (.lst l)))) := by
  intro A s h₀ B O σ r σ' am b F e Q E h
  obtain ⟨l, el, e'⟩ := Option.bind_eq_some_iff.mp e
  cases e'
  have hkx := Acc.fits_loc (F.name hi).1
  have hsw : swapsWith (.ListComp elt (⟨target, iter, ifs, 0⟩ :: rest) scope pos) (some (.Name x pos')) spos.line env = pure true := by
    unfold swapsWith
    show (pure (env.blockKind == .function && env.kindOf x == some .local && pos'.line == (Expr.ListComp elt (⟨target, iter, ifs, 0⟩ :: rest) scope pos).pos.line && !(scope.names.any fun (n, k) => n == x && (k == .local || k == .cell))) : Sem Bool) = pure true
    have hb : env.blockKind = .function := by unfold Env.blockKind; rw [F.fn]; rfl
    rw [hb, hkx, Bool.and_assoc, hl]
    rfl
  rw [exec_Assign_Name_used _ _ _ _ hsw]
  refine wpAny_bind (wpAny_standAt (wpAny_bind ?_))
  show wpAny _ A (do let _ ← comprehension (.ListComp elt (⟨target, iter, ifs, 0⟩ :: rest) scope pos) scope env _ (newList []) false (eval iter env) (some (assign (.Name x pos') env))) _ _ s
  refine wpAny_bind (wpAny_mono (comp_run (Q := fun _ s' => Q .next s') P am b F el fun D C s' m xs st hD hC hCD hCo hns hp its => ?_) (fun _ s' hq => wpAny_pure (wpAny_pure hq)) fun _ _ e => e)
  show wpAny (model prog w) A (assign (.Name x pos') env (.ref D)) (fun _ s'' => ∃ m, s''.heap.Ns C m ∧ ∀ h', Heap.SameBut C s''.heap h' → Q .next { s'' with heap := h' }) E s'
  have hC0 : h₀.get? C = none := by
    cases q : h₀.get? C with
    | none => rfl
    | some o => have := F.keep C o q; rw [hC] at this; cases this
  have hCB : ¬ hid B env O C := F.hidden.fresh hC
  have hu : Under (Bw B [C]) s'.heap := by
    rintro a (q | q)
    · obtain ⟨o, e⟩ := F.under a q
      exact ⟨o, st.kept a o e⟩
    · rw [List.mem_singleton.mp q]; exact hCo
  have F₁ : Frm prog w env lay h₀ (Bw B [C]) O s'.heap σ := F.reb st.kept hu fun b o e q => q.elim id fun q => by rw [List.mem_singleton.mp q, hC] at e; cases e
  have rD : VR prog w s'.heap (hid (Bw B [C]) env O) (.lst l) (.ref D) := by
    refine .lst D l xs hp ?_ its.1 fun i v x e1 e2 => (its.2 i v x e1 e2).less ?_
    · intro q
      rcases hid_Bw q with z | z
      · exact F.hidden.fresh hD z
      · exact hCD (List.mem_singleton.mp z).symm
    · intro a q
      rcases hid_Bw q with z | z
      · exact .inl z
      · exact .inr (.inl (List.mem_singleton.mp z))
  refine wpAny_assign_Name (F₁.store (sl := .val (.lst l)) hi (by decide) ⟨_, rfl, rD⟩ fun h₂ tk mv F₂ => ?_)
  have hCo' : ¬ ownH env O C := fun q => hCB (.inr q)
  refine ⟨m, hns.at' (fun o e => mv.kept C o hCo' e), fun h' hs' => ?_⟩
  have kp : ∀ b o, b ∉ [C] → h₂.get? b = some o → h'.get? b = some o := fun b o nb e => hs'.extBut b o (fun q => nb (List.mem_singleton.mpr q)) e
  have F₃ : Frm prog w env lay h₀ B O h' (σ.put i (.val (.lst l))) := F₂.turn kp (fun b q => .inr q) (fun b q => by rw [List.mem_singleton.mp q]; exact hC0) (fun b q => by rw [List.mem_singleton.mp q]; exact hCo')
    (fun a q => by
      obtain ⟨o, e⟩ := F₂.under a (.inl q)
      exact ⟨o, kp a o (fun z => hCB (.inl (List.mem_singleton.mp z ▸ q))) e⟩) fun b o _ q => .inl q
  refine h _ { s' with heap := h', toks := tk } O ⟨?_, fun b o nb e => ?_, fun _ q => .inl q, fun _ _ e => e⟩ F₃ rfl
  · obtain ⟨h₁, tk₁, rfl⟩ := st.toSame
    exact ⟨_, _, rfl⟩
  · exact kp b o (fun q => by rw [List.mem_singleton.mp q, hC] at e; cases e) (mv.kept b o nb (st.kept b o e))
end
theorem parts_one {elt target iter : Expr} {ifs : List Expr} {scope : Scope} {pos : Pos} {fi : St → Option (List V)} {asg : V → St → Option St} {c : St → Option Bool} {f : St → Option V} (lay' : Lay) (caps : List (Option Nat))
    (hi : ImplI prog w K mg mb n env lay target (eval iter env) fi)
    (ha : ∀ cl C, ImplA prog w K mg mb n (compEnvX scope cl C env) lay' (assign target (compEnvX scope cl C env)) asg)
    (hc : ∀ cl C, ImplIfs prog w K mg mb n (compEnvX scope cl C env) lay' ifs c)
    (he : ∀ cl C, Impl prog w K mg mb n (compEnvX scope cl C env) lay' (eval elt (compEnvX scope cl C env)) f) (hok : compOk scope lay lay' caps = true := by kernel_rfl) (hs : ∀ x, foldedSetIterable iter env x = pure x := by intro _; rfl) :
    CompParts prog w K mg mb n env lay elt target iter ifs [] scope pos lay' caps (emitC elt) fi asg c (fun σ => (f σ).bind fun v => σ.push 0 v) :=
  ⟨hi, hok, fun cenv it acc => turn_one .., ha, hc, fun cl C => emit_sound (he cl C), hs⟩
theorem parts_two {elt target iter target' iter' : Expr} {ifs ifs' : List Expr} {scope : Scope} {pos : Pos} {fi fi' : St → Option (List V)} {asg asg' : V → St → Option St} {c c' : St → Option Bool} {f : St → Option V} (lay' : Lay) (caps : List (Option Nat))
    (hi : ImplI prog w K mg mb n env lay target (eval iter env) fi)
    (ha : ∀ cl C, ImplA prog w K mg mb n (compEnvX scope cl C env) lay' (assign target (compEnvX scope cl C env)) asg)
    (hc : ∀ cl C, ImplIfs prog w K mg mb n (compEnvX scope cl C env) lay' ifs c)
    (hi' : ∀ cl C, ImplI prog w K mg mb n (compEnvX scope cl C env) lay' target' (eval iter' (compEnvX scope cl C env)) fi')
    (ha' : ∀ cl C, ImplA prog w K mg mb n (compEnvX scope cl C env) lay' (assign target' (compEnvX scope cl C env)) asg')
    (hc' : ∀ cl C, ImplIfs prog w K mg mb n (compEnvX scope cl C env) lay' ifs' c')
    (he : ∀ cl C, Impl prog w K mg mb n (compEnvX scope cl C env) lay' (eval elt (compEnvX scope cl C env)) f) (hok : compOk scope lay lay' caps = true := by kernel_rfl) (hs : ∀ x, foldedSetIterable iter env x = pure x := by intro _; rfl)
    (hs' : ∀ env x, foldedSetIterable iter' env x = pure x := by intro _ _; rfl) :
    CompParts prog w K mg mb n env lay elt target iter ifs [⟨target', iter', ifs', 0⟩] scope pos lay' caps (deepC (.ListComp elt [⟨target, iter, ifs, 0⟩, ⟨target', iter', ifs', 0⟩] scope pos) iter') fi asg c
      (fun σ => (fi' σ).bind fun vs => loopC asg' c' (fun σ => (f σ).bind fun v => σ.push 0 v) vs σ) :=
  ⟨hi, hok, fun cenv it acc => turn_out .., ha, hc, fun cl C => deep_sound (hi' cl C) (ha' cl C) (hc' cl C) (emit_sound (he cl C)) (hs' _), hs⟩
theorem impl_comp {elt target iter : Expr} {ifs : List Expr} {rest : List Comprehension} {scope : Scope} {pos : Pos} {lay' : Lay} {caps : List (Option Nat)} {inner : Env → Value → Sem PySem.Fin → Sem PySem.Fin}
    {fi : St → Option (List V)} {asg : V → St → Option St} {c : St → Option Bool} {g : St → Option St} (P : CompParts prog w K mg mb n env lay elt target iter ifs rest scope pos lay' caps inner fi asg c g) :
    Impl prog w K mg mb n env lay (eval (.ListComp elt (⟨target, iter, ifs, 0⟩ :: rest) scope pos) env) (compV fi caps asg c g) := impl_compG P
theorem stm_comp (i : Nat) {elt target iter : Expr} {ifs : List Expr} {rest : List Comprehension} {scope : Scope} {pos : Pos} {lay' : Lay} {caps : List (Option Nat)} {inner : Env → Value → Sem PySem.Fin → Sem PySem.Fin}
    {fi : St → Option (List V)} {asg : V → St → Option St} {c : St → Option Bool} {g : St → Option St} {x : Str} {pos' spos : Pos} (P : CompParts prog w K mg mb n env lay elt target iter ifs rest scope pos lay' caps inner fi asg c g) (hi : lay.names[i]? = some (x, .loc) := by rfl)
    (hl : ((pos'.line == (Expr.ListComp elt (⟨target, iter, ifs, 0⟩ :: rest) scope pos).pos.line) && !(scope.names.any fun (n, k) => n == x && (k == .local || k == .cell))) = true := by kernel_rfl) :
    ImplS prog w K mg mb n env lay (exec (.Assign [.Name x pos'] (.ListComp elt (⟨target, iter, ifs, 0⟩ :: rest) scope pos) spos) env) (fun σ => (compL fi caps asg c g σ).bind fun l => some (.next, σ.put i (.val (.lst l)))) := stm_compG i P hi hl
end Mine
end Core13_part
section Core14_part
open PySem PySem.W PyProof.Rows PySem.Calls
set_option Elab.async false
set_option maxRecDepth 100000
namespace Mine
variable {prog : Program} {w : World} {K : Frag} {mg mb : Str → Option Value} {n : Nat} {env : Env} {lay : Lay}
theorem stm_tuple {elts : List Expr} {k : Nat} {tpos pos : Pos} {value : Expr} {f : St → Option V} {g : V → St → Option St} (hf : Impl prog w K mg mb n env lay (eval value env) f) (hg : ImplA prog w K mg mb n env lay (assign (.Tuple elts k tpos) env) g)
    (hs : swapsWithSole [.Tuple elts k tpos] value pos.line env = pure false := by rfl) (hw : swappedStores [.Tuple elts k tpos] value env = pure none := by rfl) :
    ImplS prog w K mg mb n env lay (exec (.Assign [.Tuple elts k tpos] value pos) env) (fun σ => (f σ).bind fun v => (g v σ).bind fun σ' => some (.next, σ')) := by
  intro A s h₀ B O σ r σ' a b F e Q E h
  obtain ⟨v, ev, e⟩ := Option.bind_eq_some_iff.mp e
  obtain ⟨σ₁, e1, e⟩ := Option.bind_eq_some_iff.mp e
  cases e
  refine Assign_Tuple (hf A s h₀ B O σ v a b F ev _ _ fun x s₁ k₁ r₁ => ?_) hs hw
  refine hg A s₁ h₀ B O σ v x _ a b (F.step k₁.kept) r₁ e1 _ _ fun s₂ m₂ F₂ => ?_
  exact h _ _ O (Mv.trans (F.step k₁.kept) (Mv.of k₁) m₂) F₂ rfl
theorem tgt_bind {i : Nat} {x : Str} {k : Acc} (hi : lay.names[i]? = some (x, k)) (hk : k ≠ .cap) : ImplA prog w K mg mb n env lay (bindName env x) (fun v σ => some (σ.put i (.val v))) := by
  intro A s h₀ B O σ v y σ' a b F r e Q E h
  cases e
  exact bindName_ (F.store (sl := .val v) hi hk ⟨y, rfl, r⟩ fun h' tk k F' => h _ k F')
theorem stm_swap2 (i j : Nat) {x₁ x₂ : Str} {p₁ p₂ : Pos} {k : Nat} {tpos pos : Pos} {v₁ v₂ : Expr} {k' : Nat} {vpos : Pos} {f : St → Option V} (hf : Impl prog w K mg mb n env lay (eval (.Tuple [v₁, v₂] k' vpos) env) f)
    (hsw : ∀ env : Env, env.scope.kind = .function → env.kindOf x₁ = some .local → env.kindOf x₂ = some .local → swappedStores [.Tuple [.Name x₁ p₁, .Name x₂ p₂] k tpos] (.Tuple [v₁, v₂] k' vpos) env = pure (some [x₁, x₂]))
    (hi : lay.names[i]? = some (x₁, .loc) := by rfl) (hj : lay.names[j]? = some (x₂, .loc) := by rfl) :
    ImplS prog w K mg mb n env lay (exec (.Assign [.Tuple [.Name x₁ p₁, .Name x₂ p₂] k tpos] (.Tuple [v₁, v₂] k' vpos) pos) env)
      (fun σ => (f σ).bind fun v => match v with | .tup [a, b] => some (.next, (σ.put j (.val b)).put i (.val a)) | _ => none) := by
  intro A s h₀ B O σ r σ' am b F e Q E h
  obtain ⟨v, ev, e⟩ := Option.bind_eq_some_iff.mp e
  split at e
  · rename_i va vb
    cases e
    have k1 := Acc.fits_loc (F.name hi).1
    have k2 := Acc.fits_loc (F.name hj).1
    have hw := hsw env F.fn k1 k2
    refine Assign_Tuple_swapped (names := [x₁, x₂]) (hf A s h₀ B O σ _ am b F ev _ _ fun x s₁ k₁ r₁ => ?_) rfl hw
    cases r₁ with
    | tup t l xs ho hH hll hx =>
    have hxs : [x₁, x₂].length = xs.toArray.size := by simpa using hll
    rw [hxs]
    refine unpackItems_tuple am.handled ho fun h' hs' => ?_
    have st := Step.ext hs'
    match xs, hll, hx with
    | [y1, y2], _, hx =>
    show wpAny _ A (assignInOrder [bindName env x₂, bindName env x₁] [y2, y1]) _ _ _
    have it : Items prog w h' (hid B env O) [vb, va] [y2, y1] := Items.cons ((hx 1 vb y2 rfl rfl).keeps st.kept) (Items.cons ((hx 0 va y1 rfl rfl).keeps st.kept) Items.nil)
    refine asgs_sound am b (.cons (tgt_bind hj (by decide)) (.cons (tgt_bind hi (by decide)) .nil)) ((F.step k₁.kept).step st.kept) it rfl _ _ fun s₂ m₂ F₂ => ?_
    exact h _ _ O (Mv.trans ((F.step k₁.kept).step st.kept) (Mv.of (k₁.trans st)) m₂) F₂ rfl
  · cases e
theorem stm_three {t₁ t₂ t₃ value : Expr} {pos : Pos} {f : St → Option V} {g₁ g₂ g₃ : V → St → Option St} (hf : Impl prog w K mg mb n env lay (eval value env) f) (h₁ : ImplA prog w K mg mb n env lay (assign t₁ env) g₁)
    (h₂ : ImplA prog w K mg mb n env lay (assign t₂ env) g₂) (h₃ : ImplA prog w K mg mb n env lay (assign t₃ env) g₃)
    (he : (assignEach [t₁, t₂, t₃] env).map (·.2) = [assign t₁ env, assign t₂ env, assign t₃ env] := by rfl) (hw : swappedStores [t₁, t₂, t₃] value env = pure none := by rfl) :
    ImplS prog w K mg mb n env lay (exec (.Assign [t₁, t₂, t₃] value pos) env) (fun σ => (f σ).bind fun v => (g₁ v σ).bind fun σ => (g₂ v σ).bind fun σ => (g₃ v σ).bind fun σ => some (.next, σ)) := by
  intro A s h₀ B O σ r σ' a b F e Q E h
  obtain ⟨v, ev, e⟩ := Option.bind_eq_some_iff.mp e
  obtain ⟨σ₁, e1, e⟩ := Option.bind_eq_some_iff.mp e
  obtain ⟨σ₂, e2, e⟩ := Option.bind_eq_some_iff.mp e
  obtain ⟨σ₃, e3, e⟩ := Option.bind_eq_some_iff.mp e
  cases e
  refine wpAny_Assign_three (hf A s h₀ B O σ v a b F ev _ _ fun x s₁ k₁ r₁ => ?_) he hw
  refine h₁ A s₁ h₀ B O σ v x σ₁ a b (F.step k₁.kept) r₁ e1 _ _ fun s₂ m₂ F₂ => ?_
  refine h₂ A s₂ h₀ B O σ₁ v x σ₂ a b F₂ (r₁.go m₂.goes) e2 _ _ fun s₃ m₃ F₃ => ?_
  refine h₃ A s₃ h₀ B O σ₂ v x _ a b F₃ ((r₁.go m₂.goes).go m₃.goes) e3 _ _ fun s₄ m₄ F₄ => ?_
  exact h _ _ O (Mv.trans F₃ (Mv.trans F₂ (Mv.trans (F.step k₁.kept) (Mv.of k₁) m₂) m₃) m₄) F₄ rfl
noncomputable def St.ownAt (σ : St) (i : Nat) : Option Nat := match σ.vars[i]? with
  | some (.own k) => some k
  | _ => none
theorem ownAt_load {A : Around} {s : Shared} {h₀ : Heap} {B : Hid} {O : List Addr} {σ : St} {k i : Nat} {x : Str} {kd : Acc} {pos : Pos} {Q : Value → Shared → Prop} {E : Value → Shared → Prop} (hi : lay.names[i]? = some (x, kd))
    (F : Frm prog w env lay h₀ B O s.heap σ) (e : σ.ownAt i = some k) (h : ∀ a, O[k]? = some a → Q (.ref a) s) : wpAny (model prog w) A (eval (.Name x pos) env) Q E s := by
  unfold St.ownAt at e
  split at e
  · rename_i k' hv
    cases e
    exact wpAny_Name (own_load hi F hv h) (F.name hi).2.1
  · cases e
theorem stm_append (i : Nat) {x : Str} {kd : Acc} {px apos cpos pos : Pos} {elt : Expr} {f : St → Option V} (hf : Impl prog w K mg mb n env lay (eval elt env) f) (hi : lay.names[i]? = some (x, kd) := by rfl)
    (hbase : attributeBase (.Name x px) "append" env (eval (.Name x px) env) = eval (.Name x px) env := by rfl)
    (hfew : ((backTo cpos (starEach [elt] env)).all (fun x => !x.1) && (backToKw cpos (keywordEach [] env)).all (fun x => x.1.isSome)
      && decide (([elt] : List Expr).length + ([] : List Keyword).length + (if ([] : List Keyword).isEmpty then 0 else 1) < 30)) = true := by rfl)
    (hline : (apos.endLine == cpos.line) = true := by kernel_rfl)
    (htrees : backTo cpos (starEach [elt] env) = [(false, eval elt env)] := by rfl) :
    ImplS prog w K mg mb n env lay (exec (.Expr (.Call (.Attribute (.Name x px) "append" apos) [elt] [] cpos) pos) env) (fun σ => (σ.ownAt i).bind fun k => (f σ).bind fun v => (σ.push k v).bind fun σ' => some (.next, σ')) := by
  intro A s h₀ B O σ r σ' am b F e Q E h
  obtain ⟨k, ek, e⟩ := Option.bind_eq_some_iff.mp e
  obtain ⟨v, ev, e⟩ := Option.bind_eq_some_iff.mp e
  obtain ⟨σ₁, e1, e⟩ := Option.bind_eq_some_iff.mp e
  cases e
  refine wpAny_Expr ?_ (by unfold interactive; rw [F.fn]; rfl) rfl
  refine wpAny_Call_append hbase hfew hline htrees (ownAt_load hi F ek fun a ha => ?_)
  have hl : ∃ l, σ.owns[k]? = some (.lst l) := by
    unfold St.push at e1
    split at e1
    · exact ⟨_, by assumption⟩
    · cases e1
  obtain ⟨l, hl⟩ := hl
  obtain ⟨xs, ⟨nn, hp⟩, it⟩ := F.os k a _ ha hl
  refine ⟨a, _, rfl, ⟨_, nn, hp, rfl, rfl, rfl⟩, ?_⟩
  refine hf A s h₀ B O σ v am b F ev _ _ fun y s₁ k₁ r₁ => ?_
  refine push_sound (F.step k₁.kept) ha r₁ e1 fun s₂ m₂ F₂ => ?_
  exact h _ _ O (Mv.trans (F.step k₁.kept) (Mv.of k₁) m₂) F₂ rfl
theorem mapSeq_set_plain (its : Array Value) (m : Nat) (j : Nat) (x : Value) :
    ∃ m', Obj.mapSeq (·.setIfInBounds j x) { cls := .type "list", data := .seq its m } = { cls := .type "list", data := .seq (its.setIfInBounds j x) m' } := by
  unfold Obj.mapSeq
  exact ⟨_, rfl⟩
theorem setItem_plain {A : Around} {E : Value → Shared → Prop} {s : Shared} {l : Addr} {items : Array Value} {k : Int} {t : Tok} {v : Value} {Q : Unit → Shared → Prop} (hp : s.heap.PlainList l items)
    (h0 : 0 ≤ k) (hfit : k < 2 ^ 63) (hn : k < items.size)
    (hQ : ∀ h', h'.PlainList l (items.setIfInBounds k.toNat v) → Heap.SameBut l s.heap h' → Q () { s with heap := h' }) :
    wpAny (model prog w) A (setItem (.ref l) (.int k t) v) Q E s := by
  have hl := hp.isList
  obtain ⟨nn, ho⟩ := hp
  have hd : (⟨.type "list", none, .seq items nn, #[]⟩ : Obj).data = .seq items nn := rfl
  unfold setItem
  try with_reducible refine wpAny_holding ?_
  first | refine wpAny_bind (wpAny_pure ?_) | skip
  refine wpAny_bind (wpAny_sequenceKey hl.typeIs (by decide) ?_)
  refine wpAny_bind (wpAny_callSpecial?_slot (name := Str.ofString "__setitem__") hl.typeIs slot_list_setitem
    (wpAny_call_entry slot_list_setitem hl.typeIs entry_list_setitem ?_ (args_list_setitem _ _ _)))
  show wpAny _ _ (Builtin.List.listSubscript? (.int k t) >>= _) _ _ s
  refine wpAny_bind (wpAny_listSubscript_int (fitsIndex_of h0 hfit) ?_)
  clear hfit
  obtain ⟨j, rfl⟩ := Int.eq_ofNat_of_zero_le h0
  have hj : j < items.size := by omega
  have hx' : items[j]? = some items[j] := Array.getElem?_eq_getElem hj
  show wpAny _ _ ((seqItemAt l j >>= fun r => pure (r.map (j, ·))) >>= _) _ _ s
  refine wpAny_bind (wpAny_bind (wpAny_seqItemAt ho hd (wpAny_pure ?_)))
  rw [hx']
  show wpAny _ _ (setSeqItemAt l j v >>= _) _ _ s
  obtain ⟨m', hm'⟩ := mapSeq_set_plain items nn j v
  have hfin : (s.heap.update l (Obj.mapSeq (·.setIfInBounds j v))).PlainList l (items.setIfInBounds j v) :=
    ⟨m', by rw [Heap.get?_update_self _ ho (by rw [hm']; rfl), hm']⟩
  refine wpAny_bind (wpAny_setSeqItemAt ho hd ?_)
  first
    | exact wpAny_bind (wpAny_pure (wpAny_pure ⟨.none, rfl, wpAny_pure (hQ _ hfin (Heap.SameBut.update ..))⟩))
    | exact wpAny_pure ⟨.none, rfl, wpAny_pure (hQ _ hfin (Heap.SameBut.update ..))⟩
theorem Items.set {h : Heap} {H : Hid} {l : List V} {xs : List Value} {v : V} {x : Value} (it : Items prog w h H l xs) (r : VR prog w h H v x) (j : Nat) : Items prog w h H (l.set j v) (xs.set j x) := by
  refine ⟨by simp [it.1], fun i v' x' e1 e2 => ?_⟩
  by_cases hi : i = j
  · subst hi
    rw [getElem?_set_self' e1, getElem?_set_self' e2]
    exact r
  · rw [List.getElem?_set_ne (Ne.symm hi)] at e1 e2
    exact it.2 i v' x' e1 e2
noncomputable def St.setL (σ : St) (k : Nat) (j : V) (v : V) : Option St := match σ.owns[k]?, j with
  | some (.lst l), .int z => if 0 ≤ z ∧ z.toNat < l.length ∧ l.length ≤ sizeLine ∧ soloOwn σ.owns k then some { σ with owns := σ.owns.set k (.lst (l.set z.toNat v)) } else none
  | _, _ => none
theorem stm_setL (i : Nat) {x : Str} {kd : Acc} {px tpos pos : Pos} {slice value : Expr} {f g : St → Option V} (hf : Impl prog w K mg mb n env lay (eval value env) f) (hg : Impl prog w K mg mb n env lay (eval slice env) g) (hi : lay.names[i]? = some (x, kd) := by rfl)
    (hs : swapsWith value (some (.Subscript (.Name x px) slice tpos)) pos.line env = pure false := by rfl) :
    ImplS prog w K mg mb n env lay (exec (.Assign [.Subscript (.Name x px) slice tpos] value pos) env) (fun σ => (f σ).bind fun v => (σ.ownAt i).bind fun k => (g σ).bind fun j => (σ.setL k j v).bind fun σ' => some (.next, σ')) := by
  intro A s h₀ B O σ r σ' am b F e Q E h
  obtain ⟨v, ev, e⟩ := Option.bind_eq_some_iff.mp e
  obtain ⟨k, ek, e⟩ := Option.bind_eq_some_iff.mp e
  obtain ⟨j, ej, e⟩ := Option.bind_eq_some_iff.mp e
  obtain ⟨σ₁, e1, e⟩ := Option.bind_eq_some_iff.mp e
  cases e
  refine wpAny_Assign_Subscript (hf A s h₀ B O σ v am b F ev _ _ fun y s₁ k₁ r₁ => ?_) hs
  have F₁ := F.step k₁.kept
  refine ownAt_load hi F₁ ek fun a ha => ?_
  refine hg A s₁ h₀ B O σ j am b F₁ ej _ _ fun z s₂ k₂ r₂ => ?_
  have F₂ := F₁.step k₂.kept
  unfold St.setL at e1
  split at e1
  · rename_i l z' hl
    split at e1
    · rename_i hc
      cases e1
      obtain ⟨xs, hp, it⟩ := F₂.os k a _ ha hl
      have hm : a ∈ O := List.mem_of_getElem? ha
      cases r₂
      have hz := hc.2.2.1
      rw [sizeLine_eq] at hz
      have h0 := hc.1
      have h1 := hc.2.1
      refine setItem_plain hp hc.1 (by omega) (by simp [← it.1]; omega) fun h' hp' hs' => ?_
      have kp : ∀ b o, b ≠ a → s₂.heap.get? b = some o → h'.get? b = some o := fun b o nb e => hs'.extBut b o nb e
      have F₃ := F₂.setOwn ha hc.2.2.2 kp (let ⟨n, e⟩ := hp'; ⟨_, e⟩) (v := .lst (l.set z'.toNat v)) ⟨xs.set z'.toNat y, by simpa using hp', (it.set (r₁.keeps k₂.kept) _).go (Frm.goesBut (.inr (.inr (.inr hm))) kp)⟩
      exact h _ _ O (Mv.trans F₂ (Mv.of (k₁.trans k₂)) (Mv.setOwn (tk := s₂.toks) hm kp)) F₃ rfl
    · cases e1
  · cases e1
theorem fresh_cat (i : Nat) {x : Str} {kd : Acc} {px pos : Pos} {r : Expr} {f : St → Option V} (hf : Impl prog w K mg mb n env lay (eval r env) f) (hi : lay.names[i]? = some (x, kd) := by rfl) :
    ImplFL prog w K mg mb n env lay (eval (.BinOp (.Name x px) .Add r pos) env) (fun σ => (σ.own i).bind fun a => (f σ).bind fun b => match a, b with
      | .lst l, .lst l' => if l.length + l'.length ≤ sizeLine then some (l ++ l') else none
      | _, _ => none) := by
  intro A s h₀ B O σ v am b F e0 Q E h
  obtain ⟨va, ea, e⟩ := Option.bind_eq_some_iff.mp e0
  obtain ⟨vb, eb, e⟩ := Option.bind_eq_some_iff.mp e
  refine wpAny_BinOp (own_name hi F ea fun k a hk ha hv rr => hf A s h₀ B O σ vb am b F eb _ _ fun y s₂ k₂ r₂ => ?_)
  have r' := rr.go (k₂.kept.goes (hid B env O)) (fun _ _ e => e) (fun o e => k₂.kept _ o e) fun b o _ e => k₂.kept b o e
  clear e0
  cases va with
  | lst l =>
    cases vb with
    | lst l' =>
      dsimp only at e
      split at e
      · rename_i hz
        cases e
        obtain ⟨xs, ho, it⟩ := r'
        cases r₂ with
        | lst a' l'' xs' ho' hH' hl' hx' =>
        refine add_listsP ho ho' ?_ (by rw [← it.1, ← hl']; exact hz)
        refine h _ (xs ++ xs') _ (k₂.trans (Step.push ..)) ?_ ⟨0, Heap.get?_push_size _ rfl⟩ ((it.append ⟨hl', hx'⟩).go (push_goes _ _ _))
        cases q : s.heap.get? s₂.heap.objs.size with
        | none => rfl
        | some o => exact absurd (k₂.size q) (Nat.lt_irrefl _)
      · cases e
    | _ => cases e
  | _ => cases e
noncomputable def outV : V → Option V
  | .lst l => some (.lst l)
  | .dct l => some (.dct l)
  | _ => .none
theorem OwnR.out {h : Heap} {H H' : Hid} {O : List Addr} {k : Nat} {a : Addr} {v v' : V} (r : OwnR prog w h H O k a v) (e : outV v = some v') (l : ∀ b, H' b → H b) (na : ¬ H' a) : VR prog w h H' v' (.ref a) := by
  cases v with
  | lst l =>
    cases e
    obtain ⟨xs, h1, h2⟩ := r
    exact .lst a l xs h1 na h2.1 fun i v x e1 e2 => (h2.2 i v x e1 e2).less ‹_›
  | dct l =>
    cases e
    obtain ⟨kvs, h1, h2, h3, h4⟩ := r
    exact .dct a l kvs h1 h2 na h3 fun i v x e1 e2 => (h4 i v x e1 e2).less ‹_›
  | _ => cases e
theorem stm_retO (i : Nat) {x : Str} {kd : Acc} {px pos : Pos} (hi : lay.names[i]? = some (x, kd) := by rfl) :
    ImplS prog w K mg mb n env lay (exec (.Return (some (.Name x px)) pos) env) (fun σ => (σ.own i).bind fun v => (outV v).bind fun v => some (.ret v, σ)) := by
  intro A s h₀ B O σ r σ' am b F e Q E h
  obtain ⟨v, ev, e⟩ := Option.bind_eq_some_iff.mp e
  obtain ⟨v', ev', e⟩ := Option.bind_eq_some_iff.mp e
  cases e
  refine wpAny_Return_some (own_name hi F ev fun k a hk ha hv rr => ?_)
  refine h _ s O (Mv.of (Step.refl _)) F ⟨_, rfl, rr.out ev' hid_nil ?_⟩
  · have hm : a ∈ O := List.mem_of_getElem? ha
    obtain ⟨q1, q2, q3, q4⟩ := F.oNew a hm
    rintro (q | q | ⟨n, q⟩ | q)
    · exact q4 q
    · exact q2 q
    · exact q3 n q
    · cases q
noncomputable def whileF (c : St → Option Bool) (body : St → Option (Fl × St)) : Nat → St → Option (Fl × St)
  | 0, _ => none
  | m + 1, σ => (c σ).bind fun b => if b then (body σ).bind fun p => match p with
      | (.next, σ') => whileF c body m σ'
      | (.cont, σ') => whileF c body m σ'
      | (.brk, σ') => some (.next, σ')
      | (.ret v, σ') => some (.ret v, σ')
    else some (.next, σ)
theorem stm_while (m : Nat) {test : Expr} {body : List Stmt} {pos : Pos} {c : St → Option Bool} {f : St → Option (Fl × St)} (hc : ImplT prog w K mg mb n env lay (isTrue test env (eval test env)) c) (hf : ImplS prog w K mg mb n env lay (execs body env) f) :
    ImplS prog w K mg mb n env lay (exec (.While test body [] pos) env) (whileF c f m) := by
  intro A s h₀ B O σ r σ' am b F e Q E h
  refine wpAny_While (codeAny_whileLoop (fun m s₁ => ∃ O₁ σ₁, whileF c f m σ₁ = some (r, σ') ∧ Frm prog w env lay h₀ B O₁ s₁.heap σ₁ ∧ Mv env O O₁ s s₁) ?_ m ⟨O, σ, e, F, Mv.of (Step.refl _)⟩)
  rintro m s₁ ⟨O₁, σ₁, e₁, F₁, m₁⟩
  cases m with
  | zero => cases e₁
  | succ m =>
  unfold whileF at e₁
  obtain ⟨bt, ec, e₁⟩ := Option.bind_eq_some_iff.mp e₁
  refine hc A s₁ h₀ B O₁ σ₁ bt am b F₁ ec _ _ fun s₂ k₂ => ?_
  have m₂ := Mv.trans F₁ m₁ (Mv.of k₂)
  cases bt with
  | false =>
    rw [if_neg (by decide)]
    cases e₁
    exact wpAny_execs_nil (h _ _ _ m₂ (F₁.step k₂.kept) rfl)
  | true =>
    rw [if_pos rfl]
    obtain ⟨⟨r₃, σ₃⟩, eb, e₁⟩ := Option.bind_eq_some_iff.mp e₁
    refine hf A s₂ h₀ B O₁ σ₁ r₃ σ₃ am b (F₁.step k₂.kept) eb _ _ fun y s₄ O₄ m₄ F₄ q₄ => ?_
    have mw := Mv.trans (F₁.step k₂.kept) m₂ m₄
    cases r₃ with
    | next => cases q₄; exact ⟨m, Nat.lt_succ_self _, O₄, σ₃, e₁, F₄, mw⟩
    | cont => cases q₄; exact ⟨m, Nat.lt_succ_self _, O₄, σ₃, e₁, F₄, mw⟩
    | brk => cases q₄; cases e₁; exact h _ _ _ mw F₄ rfl
    | ret v => obtain ⟨z, rfl, q₄⟩ := q₄; cases e₁; exact h _ _ _ mw F₄ ⟨z, rfl, q₄⟩
end Mine
end Core14_part
section Core15_part
open PySem PySem.W PyProof.Rows PySem.Calls
set_option Elab.async false
set_option maxRecDepth 100000
namespace Mine
variable {prog : Program} {w : World} {K : Frag} {mg mb : Str → Option Value} {n : Nat} {env : Env} {lay : Lay}
noncomputable def keyV : V → Option Key
  | .int z => some z
  | _ => none
noncomputable def ofKey (k : Key) : V := .int k
theorem key_is {h : Heap} {H : Hid} {v : V} {x : Value} {k : Key} (e : keyV v = some k) (r : VR prog w h H v x) : (keyKind prog w).is k x = true := by
  unfold keyV at e
  split at e
  · cases e; cases r; exact intKind_is prog w _ _
  · cases e
theorem key_of {h : Heap} {H : Hid} {x : Value} {k : Key} (e : (keyKind prog w).is k x = true) : VR prog w h H (ofKey k) x := by
  obtain ⟨t, rfl⟩ := Value.isInt_shape e
  exact .int ..
theorem fresh_big {h : Heap} {mg mb : Str → Option Value} (b : Base K mg mb h) {h' : Heap} (k : Kept h h') : (h'.objs.size == sysModules) = false := by
  have h1 : mainGlobals < h'.objs.size := Heap.lt_size (k _ _ (let ⟨o, es, ep, e, _⟩ := b.g; (⟨o, e⟩ : ∃ o, h.get? mainGlobals = some o)).choose_spec)
  have h2 : (3 : Nat) < h'.objs.size := h1
  have h3 : h'.objs.size ≠ 1 := fun e => by rw [e] at h2; exact absurd h2 (by decide)
  show (h'.objs.size == 1) = false
  simpa using h3
theorem stm_ownD (i : Nat) {x : Str} {kd : Acc} {pos' dpos pos : Pos} (hi : lay.names[i]? = some (x, kd) := by rfl) (hk : kd ≠ .cap := by decide)
    (hs : swapsWith (.Dict [] [] dpos) (some (.Name x pos')) pos.line env = pure false := by rfl) :
    ImplS prog w K mg mb n env lay (exec (.Assign [.Name x pos'] (.Dict [] [] dpos) pos) env) (fun σ => some (.next, { vars := σ.vars.set i (.own σ.owns.length), owns := σ.owns ++ [.dct []] })) := by
  intro A s h₀ B O σ r σ' am b F e Q E h
  cases e
  refine wpAny_Assign_Name (wpAny_Dict_empty ?_) hs
  have kk : Kept s.heap (s.heap.push { cls := .type "dict", data := .dict #[] }) := Kept.pushes _ _
  have hn : s.heap.get? s.heap.objs.size = none := get_size_none _ (Nat.le_refl _)
  have F₁ : Frm prog w env lay h₀ B (O ++ [s.heap.objs.size]) (s.heap.push { cls := .type "dict", data := .dict #[] }) { σ with owns := σ.owns ++ [.dct []] } :=
    F.grow kk hn ⟨[], Heap.DictOf.new _, fresh_big b F.keep, rfl, fun i v x e1 => by cases e1⟩
  have st : Step s { s with heap := s.heap.push { cls := .type "dict", data := .dict #[] } } := Step.push ..
  refine Frm.store (s := { s with heap := s.heap.push { cls := .type "dict", data := .dict #[] } }) F₁ (sl := .own σ.owns.length) hi hk ⟨_, by rw [← F.oLen, List.getElem?_append_right (Nat.le_refl _)]; simp, rfl⟩ fun h' tk m F₂ => ?_
  exact h _ _ (O ++ [s.heap.objs.size]) (Mv.trans (s' := { s with heap := s.heap.push { cls := .type "dict", data := .dict #[] } }) F₁ (Mv.grow st hn) m) F₂ rfl
noncomputable def storedV (l : List (Key × V)) (k : Key) (v : V) : List (Key × V) :=
  if l.any (fun kv => kv.1 = k) then l.map (fun kv => if kv.1 = k then (kv.1, v) else kv) else l ++ [(k, v)]
noncomputable def DItems (prog : Program) (w : World) (h : Heap) (H : Hid) (l : List (Key × V)) (kvs : List (Key × Value)) : Prop :=
  l.map (·.1) = kvs.map (·.1) ∧ ∀ (i : Nat) v x, l[i]? = some v → kvs[i]? = some x → VR prog w h H v.2 x.2
theorem DItems.go {h h' : Heap} {H H' : Hid} {l : List (Key × V)} {kvs : List (Key × Value)} (g : Goes h H h' H') (a : DItems prog w h H l kvs) : DItems prog w h' H' l kvs := ⟨a.1, fun i v x e1 e2 => (a.2 i v x e1 e2).go g⟩
theorem any_map_fst {α β : Type} (k : Key) : ∀ {l : List (Key × α)} {kvs : List (Key × β)}, l.map (·.1) = kvs.map (·.1) → l.any (fun kv => decide (kv.1 = k)) = kvs.any (fun kv => decide (kv.1 = k))
  | [], [], _ => rfl
  | (a, b) :: r, (c, d) :: q, h => by
    simp only [List.map_cons, List.cons.injEq] at h
    obtain ⟨rfl, h⟩ := h
    rw [List.any_cons, List.any_cons, any_map_fst k h]
theorem DItems.stored {h : Heap} {H : Hid} {l : List (Key × V)} {kvs : List (Key × Value)} (a : DItems prog w h H l kvs) {k : Key} {v : V} {x : Value} (r : VR prog w h H v x) : DItems prog w h H (storedV l k v) (PySem.stored kvs k x) := by
  have hl : l.length = kvs.length := by have := congrArg List.length a.1; simpa using this
  unfold storedV PySem.stored
  rw [any_map_fst k a.1]
  split
  · refine ⟨?_, fun i v' x' e1 e2 => ?_⟩
    · rw [List.map_map, List.map_map]
      have e1 : ((fun kv : Key × V => kv.1) ∘ fun kv => if kv.1 = k then (kv.1, v) else kv) = fun kv => kv.1 := by funext kv; simp only [Function.comp]; split <;> rfl
      have e2 : ((fun kv : Key × Value => kv.1) ∘ fun kv => if kv.1 = k then (kv.1, x) else kv) = fun kv => kv.1 := by funext kv; simp only [Function.comp]; split <;> rfl
      rw [e1, e2]
      exact a.1
    · rw [List.getElem?_map] at e1 e2
      obtain ⟨p, hp, rfl⟩ := Option.map_eq_some_iff.mp e1
      obtain ⟨q, hq, rfl⟩ := Option.map_eq_some_iff.mp e2
      have hk : p.1 = q.1 := by
        have h1 : (l.map (·.1))[i]? = some p.1 := by rw [List.getElem?_map, hp]; rfl
        have h2 : (kvs.map (·.1))[i]? = some q.1 := by rw [List.getElem?_map, hq]; rfl
        rw [a.1, h2] at h1
        exact (Option.some.inj h1).symm
      rw [hk]
      split
      · exact r
      · exact a.2 i p q hp hq
  · refine ⟨by rw [List.map_append, List.map_append, a.1]; rfl, fun i v' x' e1 e2 => ?_⟩
    by_cases hi : i < l.length
    · rw [List.getElem?_append_left hi] at e1
      rw [List.getElem?_append_left (hl ▸ hi)] at e2
      exact a.2 i v' x' e1 e2
    · rw [List.getElem?_append_right (Nat.le_of_not_lt hi)] at e1
      rw [List.getElem?_append_right (hl ▸ Nat.le_of_not_lt hi), ← hl] at e2
      generalize i - l.length = j at e1 e2
      cases j with
      | zero => cases e1; cases e2; exact r
      | succ j => cases e1
noncomputable def St.setD (σ : St) (k : Nat) (j : V) (v : V) : Option St := match σ.owns[k]? with
  | some (.dct l) => (keyV j).bind fun key => if l.length ≤ sizeLine ∧ soloOwn σ.owns k then some { σ with owns := σ.owns.set k (.dct (storedV l key v)) } else none
  | _ => none
theorem setD_sound {A : Around} {E : Value → Shared → Prop} {s : Shared} {h₀ : Heap} {B : Hid} {O : List Addr} {σ σ' : St} {k : Nat} {a : Addr} {j v : V} {x y : Value} {Q : Unit → Shared → Prop} (F : Frm prog w env lay h₀ B O s.heap σ) (ha : O[k]? = some a)
    (rj : VR prog w s.heap (hid B env O) j x) (rv : VR prog w s.heap (hid B env O) v y) (e : σ.setD k j v = some σ') (h : ∀ s', Mv env O O s s' → Frm prog w env lay h₀ B O s'.heap σ' → Q () s') : wpAny (model prog w) A (setItem (.ref a) x y) Q E s := by
  unfold St.setD at e
  split at e
  · rename_i l hl
    obtain ⟨key, hkey, e⟩ := Option.bind_eq_some_iff.mp e
    split at e
    · rename_i hc
      cases e
      obtain ⟨kvs, hd, hsm, h3, h4⟩ := F.os k a _ ha hl
      have hm : a ∈ O := List.mem_of_getElem? ha
      have hlen : l.length = kvs.length := by have := congrArg List.length h3; simpa using this
      refine wpAny_setItem_pairs (knd := keyKind prog w) (hsz := hlen ▸ hc.1) (key_is hkey rj) hd fun h' hd' hs' => ?_
      have kp : ∀ b o, b ≠ a → s.heap.get? b = some o → h'.get? b = some o := fun b o nb e => hs'.extBut b o nb e
      have di := (DItems.stored (k := key) ⟨h3, h4⟩ rv).go (Frm.goesBut (B := B) (O := O) (.inr (.inr (.inr hm))) kp)
      exact h _ (Mv.setOwn hm kp) (F.setOwn ha hc.2 kp (let ⟨o, es, ep, e, _⟩ := hd'; ⟨o, e⟩) ⟨_, hd', hsm, di.1, di.2⟩)
    · cases e
  · cases e
theorem stm_setD (i : Nat) {x : Str} {kd : Acc} {px tpos pos : Pos} {slice value : Expr} {f g : St → Option V} (hf : Impl prog w K mg mb n env lay (eval value env) f) (hg : Impl prog w K mg mb n env lay (eval slice env) g) (hi : lay.names[i]? = some (x, kd) := by rfl)
    (hs : swapsWith value (some (.Subscript (.Name x px) slice tpos)) pos.line env = pure false := by rfl) :
    ImplS prog w K mg mb n env lay (exec (.Assign [.Subscript (.Name x px) slice tpos] value pos) env) (fun σ => (f σ).bind fun v => (σ.ownAt i).bind fun k => (g σ).bind fun j => (σ.setD k j v).bind fun σ' => some (.next, σ')) := by
  intro A s h₀ B O σ r σ' am b F e Q E h
  obtain ⟨v, ev, e⟩ := Option.bind_eq_some_iff.mp e
  obtain ⟨k, ek, e⟩ := Option.bind_eq_some_iff.mp e
  obtain ⟨j, ej, e⟩ := Option.bind_eq_some_iff.mp e
  obtain ⟨σ₁, e1, e⟩ := Option.bind_eq_some_iff.mp e
  cases e
  refine wpAny_Assign_Subscript (hf A s h₀ B O σ v am b F ev _ _ fun y s₁ k₁ r₁ => ?_) hs
  have F₁ := F.step k₁.kept
  refine ownAt_load hi F₁ ek fun a ha => ?_
  refine hg A s₁ h₀ B O σ j am b F₁ ej _ _ fun z s₂ k₂ r₂ => ?_
  refine setD_sound (F₁.step k₂.kept) ha r₂ (r₁.keeps k₂.kept) e1 fun s₃ m₃ F₃ => ?_
  exact h _ _ O (Mv.trans (F₁.step k₂.kept) (Mv.of (k₁.trans k₂)) m₃) F₃ rfl
noncomputable def getD (l : List (Key × V)) (k : Key) : Option V := (l.find? fun kv => kv.1 = k).map (·.2)
theorem DItems.find {h : Heap} {H : Hid} : ∀ {l : List (Key × V)} {kvs : List (Key × Value)}, DItems prog w h H l kvs → ∀ k, (getD l k).isSome = (valueAt kvs k).isSome ∧ ∀ v, getD l k = some v → ∃ x, valueAt kvs k = some x ∧ VR prog w h H v x
  | [], [], _, k => ⟨rfl, fun v e => by cases e⟩
  | [], _ :: _, a, k => by have := a.1; cases this
  | _ :: _, [], a, k => by have := a.1; cases this
  | (k1, v1) :: l, (k2, x2) :: kvs, a, k => by
    have h1 := a.1
    simp only [List.map_cons, List.cons.injEq] at h1
    obtain ⟨rfl, h1⟩ := h1
    have ih := DItems.find (l := l) (kvs := kvs) ⟨h1, fun i v x e1 e2 => a.2 (i + 1) v x (by simpa using e1) (by simpa using e2)⟩ k
    unfold getD valueAt at ih ⊢
    rw [List.find?_cons, List.find?_cons]
    by_cases hk : k1 = k
    · simp only [hk, decide_true]
      refine ⟨rfl, fun v e => ?_⟩
      cases e
      exact ⟨x2, rfl, a.2 0 _ _ rfl rfl⟩
    · simp only [hk, decide_false]
      exact ih
noncomputable def inD (a : V) (d : V) : Option Bool := match d with
  | .dct l => (keyV a).bind fun k => some (getD l k).isSome
  | _ => none
theorem test_inO (i : Nat) {l : Expr} {x : Str} {kd : Acc} {px pos : Pos} {whole : Sem Value} {f : St → Option V} (hf : Impl prog w K mg mb n env lay (eval l env) f) (hi : lay.names[i]? = some (x, kd) := by rfl)
    (hm : behindInMarks .In (.Name x px) = false := by with_unfolding_all rfl) :
    ImplT prog w K mg mb n env lay (isTrue (.Compare l [.In] [.Name x px] pos) env whole) (fun σ => (f σ).bind fun a => (σ.own i).bind fun d => inD a d) := by
  intro A s h₀ B O σ v a b F e Q E h
  obtain ⟨va, ea, e⟩ := Option.bind_eq_some_iff.mp e
  obtain ⟨vd, ed, e⟩ := Option.bind_eq_some_iff.mp e
  refine wpAny_isTrue_Compare1 (hf A s h₀ B O σ va a b F ea _ _ fun x s₁ k₁ r₁ => own_name hi (F.step k₁.kept) ed fun k ad hk ha hv rr => ?_) hm
  unfold inD at e
  split at e
  · rename_i l
    obtain ⟨key, hkey, e⟩ := Option.bind_eq_some_iff.mp e
    cases e
    obtain ⟨kvs, hd, hsm, h3, h4⟩ := rr
    refine wpAny_in_of (knd := keyKind prog w) (key_is hkey r₁) hsm hd.mapOf (wpAny_truthy_bool ?_)
    rw [← (DItems.find ⟨h3, h4⟩ key).1]
    exact h _ (k₁.trans (Step.tok ..))
  · cases e
end Mine
end Core15_part
section Core16_part
open PySem PySem.W PyProof.Rows PySem.Calls
set_option Elab.async false
set_option maxRecDepth 100000
namespace Mine
variable {prog : Program} {w : World} {K : Frag} {mg mb : Str → Option Value} {n : Nat} {env : Env} {lay : Lay}
theorem It.ofWalksT {A : Around} {elts : List Expr} {k : Nat} {pos : Pos} {I : Addr} {fp wr : List Addr} {m : Nat} {Pt : Nat → Array Value → Prop} {St' : Nat → Heap → Prop} {Mid : Nat → Addr → Heap → Prop} {vs : List V} {Val : Heap → Hid → Prop}
    (W : WalksT prog w A I fp wr m Pt St' Mid) (hm : vs.length = m) (alive : ∀ i h, St' i h → ∀ b ∈ fp, ∃ o, h.get? b = some o)
    (go : ∀ h H h' H', Val h H → Goes h H h' H' → Val h' H')
    (hv : ∀ i v vals T h H, vs[i]? = some v → Pt i vals → Val h H → h.IsTuple T vals → ¬ H T → VR prog w h H v (.ref T)) : It prog w A (.Tuple elts k pos) (.ref I) vs fp wr St' Val where
  sub := W.sub
  alive := alive
  frame := W.frame
  go := go
  item := fun i v s H Q Qa E E' e st val hw u hq hQ => by
    have hlt : i < m := hm ▸ (List.getElem?_eq_some_iff.mp e).1
    refine W.item i s Q E hlt st fun T vals h' tk hP hsz hT hmid kk => hq (.ref T) _ ?_
    refine W.go elts k pos i T _ _ _ hmid fun h'' st'' kk'' => ?_
    have hTw : T ∉ wr := W.apart i T h' hmid
    refine hQ (.ref T) _ ⟨_, _, rfl⟩ (fun b o nb e => kk'' b o nb (kk b o nb e)) st'' (hv i v vals T h'' H e hP ?_ ?_ (u.fresh (get_size_none _ hsz)))
    · exact go _ _ _ _ val ⟨fun b o nb e => kk'' b o (fun q => nb (hw b q)) (kk b o (fun q => nb (hw b q)) e), fun _ _ nb _ => nb⟩
    · obtain ⟨o, e, r⟩ := hT
      exact ⟨o, kk'' T o hTw e, r⟩
  done := fun s Q E st hQ => W.done s Q E (hm ▸ st) fun h' tk kk => hQ _ ⟨_, _, rfl⟩ kk
  self := W.self
noncomputable def signV (c : Nat) : V := .str ⟨#[c]⟩
theorem iter_str {tgt : Expr} (x : Str) (ha : x.cps.all (· < 128) = true) : Iters prog w tgt (.str x) (x.cps.toList.map signV) := by
  intro A s H y Q E hh u r hQ
  cases r with
  | str x t =>
  refine wpAny_pyIter_ascii ha ?_
  refine hQ _ _ [s.heap.objs.size] [s.heap.objs.size] _ (fun _ _ => True) (Step.push ..)
    (It.ofWalks "str_ascii_iterator" (Walks.strAscii (prog := prog) (w := w) hh s.heap.objs.size x t) (by simp) ?_ (by decide) (fun i h st => let ⟨o, e, c, _⟩ := st; ⟨o, e, c⟩) (fun _ _ _ _ v _ => v) ?_)
    ⟨_, Heap.get?_push_size _ rfl, rfl, rfl⟩ trivial ?_ ?_
  · intro i h st b hb
    obtain ⟨o, e, _⟩ := st
    rw [List.mem_singleton.mp hb]
    exact ⟨o, e⟩
  · rintro i v x' h H e ⟨c, u', hc, rfl⟩ _
    rw [List.getElem?_map] at e
    obtain ⟨c', hc', rfl⟩ := Option.map_eq_some_iff.mp e
    have : x.cps.toList[i]? = some c := by simpa using hc
    rw [this] at hc'
    cases hc'
    exact .str _ _
  · intro b hb
    rw [List.mem_singleton.mp hb]
    exact get_size_none _ (Nat.le_refl _)
  · intro b hb
    rw [List.mem_singleton.mp hb]
    exact u.size
noncomputable def iterV : V → Option (List V)
  | .lst l => some l
  | .tup l => some l
  | .str x => if x.cps.all (· < 128) = true then some (x.cps.toList.map signV) else none
  | _ => none
theorem iter_val {tgt : Expr} {v : V} {l : List V} (e : iterV v = some l) : Iters prog w tgt v l := by
  unfold iterV at e
  split at e
  · cases e; exact iter_list _
  · cases e; exact iter_tuple _
  · split at e
    · rename_i ha
      cases e
      exact iter_str _ ha
    · cases e
  · cases e
theorem impli_val {tgt : Expr} {t : Sem Value} {f : St → Option V} (hf : Impl prog w K mg mb n env lay t f) : ImplI prog w K mg mb n env lay tgt t (fun σ => (f σ).bind iterV) := by
  intro A s h₀ B O σ vs a b F e Q E h
  obtain ⟨v, ev, e⟩ := Option.bind_eq_some_iff.mp e
  refine hf A s h₀ B O σ v a b F ev _ _ fun x s₁ k₁ r₁ => ?_
  refine iter_val (tgt := tgt) e A s₁ (hid B env O) x Q E a.handled (F.hidden.keeps k₁.kept) r₁ fun it s' fp wr St' Val k W hst hval hwr hfp => ?_
  refine h it s' fp wr St' Val (k₁.trans k) W hst hval (fun b hb => ?_) hfp
  cases q : s.heap.get? b with
  | none => rfl
  | some o => have := k₁.kept b o q; rw [hwr b hb] at this; cases this
noncomputable def rangeV : List V → Option (List V)
  | [.int b] => rngV (.int 0) (.int b)
  | [.int a, .int b] => rngV (.int a) (.int b)
  | _ => none
theorem callB_args {A : Around} {s : Shared} {h₀ : Heap} {B : Hid} {O : List Addr} {σ : St} {l : List V} {j : Nat} {x : Str} {p pos : Pos} {es : List Expr} {fv : Value} {fa : St → Option (List V)} {Q : Value → Shared → Prop} {E : Value → Shared → Prop}
    (hx : lay.globs[j]? = some x) (hv : nsIn K mainGlobals x = some none) (hb : bootBuiltins x = some fv) (hf : (∃ i, fv = .builtin i) ∨ (∃ T, fv = .type T)) (ha : ImplEs prog w K mg mb n env lay es fa)
    (am : Amb n A) (b : Base K mg mb h₀) (F : Frm prog w env lay h₀ B O s.heap σ) (e : fa σ = some l)
    (h : ∀ xs s', Step s s' → Items prog w s'.heap (hid B env O) l xs → wpAny (model prog w) A (call fv xs) Q E s') : wpAny (model prog w) A (eval (.Call (.Name x p) es [] pos) env) Q E s := by
  refine wpAny_Call_NameR (impl_blt (prog := prog) (w := w) (mg := mg) (mb := mb) (n := n) (List.mem_of_getElem? hx) hv hb A s h₀ B O σ (.raw fv) am b F rfl _ _ fun f s₁ k₁ r₁ => ?_)
  cases r₁
  have key : wpAny (model prog w) A (evalArgs fv true (backTo pos (starEach es env)) []) (fun a s₂ => wpAny (model prog w) A (call fv ([] ++ a.pos) a.kw) Q E s₂) E s₁ :=
    args_sound ha am b (F.step k₁.kept) e fun xs s₂ k₂ it => h xs s₂ (k₁.trans k₂) it
  rcases hf with ⟨i, rfl⟩ | ⟨T, rfl⟩
  · exact Calls.callWith_builtin ha.plain key
  · exact PySem.callWith_type ha.plain key
theorem impli_range (j : Nat) {tgt : Expr} {p pos : Pos} {es : List Expr} {fa : St → Option (List V)} (ha : ImplEs prog w K mg mb n env lay es fa) (hx : lay.globs[j]? = some (Str.ofString "range") := by rfl) (hv : nsIn K mainGlobals (Str.ofString "range") = some none := by kernel_rfl) :
    ImplI prog w K mg mb n env lay tgt (eval (.Call (.Name (Str.ofString "range") p) es [] pos) env) (fun σ => (fa σ).bind rangeV) := by
  intro A s h₀ B O σ vs am b F e Q E h
  obtain ⟨l, el, e⟩ := Option.bind_eq_some_iff.mp e
  refine callB_args hx hv boot_range (.inr ⟨_, rfl⟩) ha am b F el fun xs s₁ k₁ it => ?_
  have fin : ∀ (a c : Int) (t u v : Tok) (s₂ : Shared) (r : Addr), Step s s₂ → IsRange s₂.heap r a c 1 t u v → rngV (.int a) (.int c) = some vs → wpAny (model prog w) A (pyIter (.ref r)) Q E s₂ := by
    intro a c t u v s₂ r k₂ hr er
    unfold rngV at er
    dsimp only at er
    split at er
    · rename_i hs
      cases er
      simp only [Bool.and_eq_true] at hs
      refine iter_range (tgt := tgt) (H := hid B env O) am.handled (F.hidden.keeps k₂.kept) hr hs.1 hs.2 fun it s' fp wr St' Val k W hst hval hwr hfp => ?_
      refine h it s' fp wr St' Val (k₂.trans k) W hst hval (fun b hb => ?_) hfp
      cases q : s.heap.get? b with
      | none => rfl
      | some o => have := k₂.kept b o q; rw [hwr b hb] at this; cases this
    · cases er
  unfold rangeV at e
  split at e
  · rename_i b'
    match xs, it with
    | [x], it =>
    have r := it.2 0 _ _ rfl rfl
    cases r
    exact call_range_1 (fin 0 b' _ _ _ _ _ (k₁.trans ⟨⟨_, _, rfl⟩, Kept.pushes _ _⟩) (IsRange.new ..) e)
    | [], it => cases it.1
    | _ :: _ :: _, it => cases it.1
  · rename_i a' b'
    match xs, it with
    | [x, y], it =>
    have r := it.2 0 _ _ rfl rfl
    have r' := it.2 1 _ _ rfl rfl
    cases r
    cases r'
    exact call_range_2 (fin a' b' _ _ _ _ _ (k₁.trans ⟨⟨_, _, rfl⟩, Kept.pushes _ _⟩) (IsRange.new ..) e)
    | [], it => cases it.1
    | [_], it => cases it.1
    | _ :: _ :: _ :: _, it => cases it.1
  · cases e
noncomputable def enumF : Nat → List V → List V
  | _, [] => []
  | i, v :: r => .tup [.int i, v] :: enumF (i + 1) r
theorem enumF_len : ∀ i l, (enumF i l).length = l.length
  | _, [] => rfl
  | i, v :: r => by rw [enumF, List.length_cons, List.length_cons, enumF_len]
theorem enumF_at : ∀ i l (j : Nat) v, (enumF i l)[j]? = some v → ∃ u, l[j]? = some u ∧ v = .tup [.int ((i + j : Nat) : Int), u]
  | _, [], j, v, e => by cases e
  | i, u :: r, 0, v, e => by cases e; exact ⟨u, rfl, by simp⟩
  | i, u :: r, j + 1, v, e => by
    obtain ⟨u', e1, e2⟩ := enumF_at (i + 1) r j v (by simpa [enumF] using e)
    exact ⟨u', by simpa using e1, by rw [e2]; congr 4; omega⟩
noncomputable def enumV : List V → Option (List V)
  | [.lst l] => some (enumF 0 l)
  | _ => none
theorem impli_enum (j : Nat) {elts : List Expr} {tk : Nat} {tpos p pos : Pos} {es : List Expr} {fa : St → Option (List V)} (ha : ImplEs prog w K mg mb n env lay es fa) (hb : bootBuiltins (Str.ofString "enumerate") = some (.type "enumerate"))
    (hx : lay.globs[j]? = some (Str.ofString "enumerate") := by rfl) (hv : nsIn K mainGlobals (Str.ofString "enumerate") = some none := by kernel_rfl) :
    ImplI prog w K mg mb n env lay (.Tuple elts tk tpos) (eval (.Call (.Name (Str.ofString "enumerate") p) es [] pos) env) (fun σ => (fa σ).bind enumV) := by
  intro A s h₀ B O σ vs am b F e Q E h
  obtain ⟨l, el, e⟩ := Option.bind_eq_some_iff.mp e
  refine callB_args hx hv hb (.inr ⟨_, rfl⟩) ha am b F el fun xs s₁ k₁ it => ?_
  unfold enumV at e
  split at e
  · rename_i l'
    cases e
    match xs, it with
    | [x], it =>
      have r := it.2 0 _ _ rfl rfl
      cases r with
      | lst a l' ys ho hH hl hx' =>
      refine call_enumerate_list ho.isList fun h' hen hli hsz kp => ?_
      have k₂ : Step s₁ { s₁ with heap := h' } := ⟨⟨_, _, rfl⟩, kp⟩
      have hne : a ≠ s₁.heap.objs.size := by
        obtain ⟨nn, e⟩ := ho
        exact Nat.ne_of_lt (Heap.lt_size e)
      have hne2 : a ≠ s₁.heap.objs.size + 1 := by
        obtain ⟨nn, e⟩ := ho
        exact Nat.ne_of_lt (Nat.lt_succ_of_lt (Heap.lt_size e))
      have hlist : h'.IsList a ys.toArray := (ho.at fun o e => kp _ o e).isList
      refine wpAny_pyIter_enum hen ?_
      have hef : s₁.heap.objs.size + 1 ∉ [s₁.heap.objs.size, a] := by
        intro q
        rcases List.mem_cons.mp q with q | q
        · exact Nat.succ_ne_self _ q
        · exact hne2 (List.mem_singleton.mp q).symm
      refine h _ _ [s₁.heap.objs.size + 1, s₁.heap.objs.size, a] [s₁.heap.objs.size + 1, s₁.heap.objs.size] _ (fun h H => Items prog w h H l' ys) (k₁.trans k₂)
        (It.ofWalksT (WalksT.enumerateD (Draws.list (prog := prog) (w := w) (A := A.in1) am.handled s₁.heap.objs.size a hne ys.toArray) (s₁.heap.objs.size + 1) (Nat.succ_ne_self _) hef (by simp)) (by rw [enumF_len]; simpa using hl) ?_ (fun _ _ _ _ v g => v.go g) ?_)
        ⟨⟨_, hen⟩, hli, hlist⟩ ?_ ?_ ?_
      · rintro i h ⟨⟨old, e1⟩, ⟨o2, e2, _⟩, ⟨o3, e3, _⟩⟩ b hb
        simp only [List.mem_cons, List.not_mem_nil, or_false] at hb
        rcases hb with rfl | rfl | rfl
        · exact ⟨_, e1⟩
        · exact ⟨o2, e2⟩
        · exact ⟨o3, e3⟩
      · rintro i v vals T h H ev ⟨t, x, hPx, rfl⟩ val hT hHT
        obtain ⟨u, hu, rfl⟩ := enumF_at 0 l' i v ev
        have hx2 : ys[i]? = some x := by simpa using hPx
        refine .tup T _ [.int i t, x] hT hHT rfl fun j v' x' e1 e2 => ?_
        match j with
        | 0 => cases e1; cases e2; rw [Nat.zero_add]; exact .int ..
        | 1 => cases e1; cases e2; exact val.2 i u x hu hx2
        | j + 2 => cases e1
      · refine Items.go (h := s₁.heap) (H := hid B env O) ⟨fun b o _ e => kp b o e, fun b o nb e q => ?_⟩ ⟨hl, hx'⟩
        rcases q with q | q
        · exact nb q
        · have hlt := Heap.lt_size e
          simp only [List.mem_cons, List.not_mem_nil, or_false] at q
          rcases q with q | q
          · exact big1 hlt q
          · exact big0 hlt q
      · intro b hb
        simp only [List.mem_cons, List.not_mem_nil, or_false] at hb
        cases q : s.heap.get? b with
        | none => rfl
        | some o =>
          have hlt := Heap.lt_size (k₁.kept b o q)
          rcases hb with z | z
          · exact (big1 hlt z).elim
          · exact (big0 hlt z).elim
      · intro b hb q
        have hu := F.hidden.keeps k₁.kept
        simp only [List.mem_cons, List.not_mem_nil, or_false] at hb
        rcases hb with rfl | rfl | rfl
        · exact hu.fresh (get_size_none _ (Nat.le_succ _)) q
        · exact hu.size q
        · exact hH q
    | [], it => cases it.1
    | _ :: _ :: _, it => cases it.1
  · cases e
end Mine
end Core16_part
section Core17_part
open PySem PySem.W PyProof.Rows PySem.Calls
set_option Elab.async false
set_option maxRecDepth 100000
namespace Mine
variable {prog : Program} {w : World} {K : Frag} {mg mb : Str → Option Value} {n : Nat} {env : Env} {lay : Lay}
noncomputable def itemsF (l : List (Key × V)) : List V := l.map fun p => .tup [ofKey p.1, p.2]
noncomputable def itemsV : V → Option (List V)
  | .dct l => some (itemsF l)
  | _ => none
theorem pair_vr {h : Heap} {H : Hid} {k : Key} {v : V} {key x : Value} {T : Addr} (hT : h.get? T = some { cls := .type "tuple", data := .seq #[key, x] }) (hH : ¬ H T) (hk : (keyKind prog w).is k key = true) (r : VR prog w h H v x) : VR prog w h H (.tup [ofKey k, v]) (.ref T) :=
  .tup T _ [key, x] ⟨_, hT, rfl, _, rfl⟩ hH rfl fun j v' x' e1 e2 => by
    match j with
    | 0 => cases e1; cases e2; exact key_of hk
    | 1 => cases e1; cases e2; exact r
    | j + 2 => cases e1
theorem DItems.at {h : Heap} {H : Hid} {l : List (Key × V)} {kvs : List (Key × Value)} (a : DItems prog w h H l kvs) {i : Nat} {p : Key × V} (e : l[i]? = some p) : ∃ x, kvs[i]? = some (p.1, x) ∧ VR prog w h H p.2 x := by
  have hl : l.length = kvs.length := by have := congrArg List.length a.1; simpa using this
  have hi : i < l.length := (List.getElem?_eq_some_iff.mp e).1
  have hi' : i < kvs.length := hl ▸ hi
  have e2 : kvs[i]? = some kvs[i] := List.getElem?_eq_getElem hi'
  have h1 : (l.map (·.1))[i]? = some p.1 := by rw [List.getElem?_map, e]; rfl
  have h2 : (kvs.map (·.1))[i]? = some kvs[i].1 := by rw [List.getElem?_map, e2]; rfl
  rw [a.1, h2] at h1
  have := Option.some.inj h1
  refine ⟨kvs[i].2, by rw [e2, ← this], a.2 i p kvs[i] e e2⟩
theorem items_call {A : Around} {E : Value → Shared → Prop} {o : Expr} {apos pos : Pos} {s : Shared} {h₀ : Heap} {B : Hid} {O : List Addr} {σ : St} {f : St → Option V} {l : List (Key × V)} {Q : Value → Shared → Prop} (ho : Impl prog w K mg mb n env lay (eval o env) f)
    (am : Amb n A) (b : Base K mg mb h₀) (F : Frm prog w env lay h₀ B O s.heap σ) (e : f σ = some (.dct l)) (hbase : attributeBase o "items" env (eval o env) = eval o env) (hline : (apos.endLine == pos.line) = true)
    (h : ∀ d kvs s', Step s s' → s'.heap.DictOf (keyKind prog w) d kvs → ¬ hid B env O d → DItems prog w s'.heap (hid B env O) l kvs → s'.heap.IsItemsView (s'.heap.objs.size - 1) d → s'.heap.objs.size ≠ 0 → Q (.ref (s'.heap.objs.size - 1)) s') :
    wpAny (model prog w) A (eval (.Call (.Attribute o "items" apos) [] [] pos) env) Q E s := by
  refine wpAny_Call_method (T := "dict") (id := "dict.items") hbase rfl hline PySem.F.plainAttrs_dict PySem.F.slot_dict_items PySem.F.type_dict_items (ho A s h₀ B O σ (.dct l) am b F e _ _ fun x s₁ k₁ r₁ => ?_)
  cases r₁ with
  | dct d l kvs hd hs hH hk hx =>
  refine ⟨hd.typeIs, hd.mapOf.noDict, ?_⟩
  show wpAny _ _ (callWith pos (.builtin "dict.items") [.ref d] [] []) Q E s₁
  have hz : (s₁.heap.push { cls := .type "dict_items", data := .fields #[.ref d] }).objs.size - 1 = s₁.heap.objs.size := by rw [Heap.size_push]; rfl
  have key := h d kvs { s₁ with heap := s₁.heap.push { cls := .type "dict_items", data := .fields #[.ref d] } } (k₁.trans (Step.push ..)) (hd.push _) hH ((DItems.go ((Kept.pushes _ _).goes _) ⟨hk, hx⟩)) (by
    show Heap.IsItemsView _ (_ - 1) d
    rw [hz]
    exact ⟨_, Heap.get?_push_size _ rfl, rfl, rfl⟩) (by show (s₁.heap.push _).objs.size ≠ 0; rw [Heap.size_push]; exact Nat.succ_ne_zero _)
  have key2 : Q (.ref s₁.heap.objs.size) { s₁ with heap := s₁.heap.push { cls := .type "dict_items", data := .fields #[.ref d] } } := by
    have := key
    dsimp only at this
    rw [hz] at this
    exact this
  exact method_meetsIn PySem.F.slot_dict_items PySem.F.entry_dict_items rfl (PySem.evalArgs_none ⟨rfl, hd.typeIs, PySem.F.args_dict_items_1 _, _, meets_dict_items (keyKind prog w) d hs, ⟨kvs, hd⟩, key2⟩)
theorem impli_items {elts : List Expr} {tk : Nat} {tpos apos pos : Pos} {o : Expr} {f : St → Option V} (ho : Impl prog w K mg mb n env lay (eval o env) f)
    (hbase : attributeBase o "items" env (eval o env) = eval o env := by rfl) (hline : (apos.endLine == pos.line) = true := by kernel_rfl) :
    ImplI prog w K mg mb n env lay (.Tuple elts tk tpos) (eval (.Call (.Attribute o "items" apos) [] [] pos) env) (fun σ => (f σ).bind itemsV) := by
  intro A s h₀ B O σ vs am b F e Q E h
  obtain ⟨v, ev, e⟩ := Option.bind_eq_some_iff.mp e
  unfold itemsV at e
  split at e
  · rename_i l
    cases e
    refine items_call ho am b F ev hbase hline fun d kvs s₁ k₁ hd hH di hview hne => ?_
    obtain ⟨ep, hat⟩ := hd.dictAt
    refine wpAny_pyIter_items hview hat ?_
    have hlen : l.length = kvs.length := by have := congrArg List.length di.1; simpa using this
    have hdlt : d < s₁.heap.objs.size := hat.lt_size
    have hdi : d ≠ s₁.heap.objs.size := Nat.ne_of_lt hdlt
    generalize hI : s₁.heap.objs.size = I at hdi hdlt
    refine h (.ref I) _ [I, d] [I] (fun i h => (∃ ok ov, IsItemIter h I d i kvs.length ep ok ov) ∧ h.DictAt (keyKind prog w) d kvs ep) (fun h H => DItems prog w h H l kvs) (k₁.trans (Step.push ..)) {
      sub := fun b hb => by rw [List.mem_singleton.mp hb]; exact List.mem_cons_self
      alive := ?alive, frame := ?frame, go := fun _ _ _ _ v g => v.go g, item := ?item, done := ?done, self := ?self } ?st ?val ?wr ?fp
    case alive =>
      rintro i h ⟨⟨ok, ov, e1⟩, ⟨o, es, e2, _⟩⟩ b hb
      simp only [List.mem_cons, List.not_mem_nil, or_false] at hb
      rcases hb with rfl | rfl
      · exact ⟨_, e1⟩
      · exact ⟨o, e2⟩
    case frame =>
      rintro i h h' ⟨⟨ok, ov, e1⟩, ⟨o, es, e2, r⟩⟩ hk
      exact ⟨⟨ok, ov, hk I List.mem_cons_self _ e1⟩, ⟨o, es, hk d (.tail _ List.mem_cons_self) o e2, r⟩⟩
    case item =>
      rintro i v s H Q' Qa E1 E2 hv ⟨⟨ok, ov, hit⟩, hm⟩ val hw u hq hQ
      unfold itemsF at hv
      rw [List.getElem?_map] at hv
      obtain ⟨p, hp, rfl⟩ := Option.map_eq_some_iff.mp hv
      obtain ⟨x, hx, r⟩ := val.at hp
      refine wpAny_pyNext_items_item hit hm hx fun key h' hkey hout htup hsz kk => hq (.ref s.heap.objs.size) _ ?_
      refine wpAny_letOwnedTupleGo_items hout fun h'' hit'' hs'' => ?_
      replace hs'' : Heap.SameBut I h' h'' := hs''
      have hIlt : I < s.heap.objs.size := Heap.lt_size hit
      have kk2 : ∀ b o, b ∉ [I] → s.heap.get? b = some o → h''.get? b = some o := fun b o nb e => by
        have nb' : b ≠ I := fun q => nb (List.mem_singleton.mpr q)
        exact hs''.extBut b o nb' (kk b o nb' e)
      refine hQ (.ref s.heap.objs.size) _ ⟨_, _, rfl⟩ kk2 ⟨⟨_, _, hit''⟩, hm.at' fun o e => kk2 d o (fun q => hdi (List.mem_singleton.mp q)) e⟩ ?_
      refine pair_vr (hs''.extBut _ _ (Nat.ne_of_gt hIlt) htup) u.size hkey (r.go ⟨fun b o nb e => kk2 b o (fun q => nb (hw b q)) e, fun _ _ nb _ => nb⟩)
    case done =>
      rintro s Q' E1 ⟨⟨ok, ov, hit⟩, hm⟩ hQ
      have hl2 : (itemsF l).length = kvs.length := by unfold itemsF; rw [List.length_map, hlen]
      rw [hl2] at hit
      refine wpAny_pyNext_items_end am.handled hit hm (List.getElem?_eq_none (Nat.le_refl _)) fun h' he => hQ _ ⟨_, _, rfl⟩ fun b o nb e => he b o (fun q => nb (List.mem_singleton.mpr q)) e
    case self =>
      rintro i s Q' E1 ⟨⟨ok, ov, hit⟩, hm⟩ hQ
      exact W.kcp_self hit hQ
    case st => exact ⟨⟨.none, .none, by rw [← hI]; exact Heap.get?_push_size _ rfl⟩, hat.push _⟩
    case val =>
      refine DItems.go (h := s₁.heap) (H := hid B env O) ⟨fun b o _ e => Heap.get?_push_of_some _ e, fun b o nb e q => ?_⟩ di
      rcases q with q | q
      · exact nb q
      · exact big0 (Heap.lt_size e) ((List.mem_singleton.mp q).trans hI.symm)
    case wr =>
      intro b hb
      cases q : s.heap.get? b with
      | none => rfl
      | some o => exact (big0 (Heap.lt_size (k₁.kept b o q)) ((List.mem_singleton.mp hb).trans hI.symm)).elim
    case fp =>
      intro b hb q
      simp only [List.mem_cons, List.not_mem_nil, or_false] at hb
      rcases hb with rfl | rfl
      · rw [← hI] at q
        exact (F.hidden.keeps k₁.kept).size q
      · exact hH q
  · cases e
theorem impl_listItems (j : Nat) {p apos ipos pos : Pos} {o : Expr} {f : St → Option V} (ho : Impl prog w K mg mb n env lay (eval o env) f) (hb : bootBuiltins (Str.ofString "list") = some (.type "list"))
    (hbase : attributeBase o "items" env (eval o env) = eval o env := by rfl) (hline : (apos.endLine == ipos.line) = true := by kernel_rfl)
    (hx : lay.globs[j]? = some (Str.ofString "list") := by rfl) (hv : nsIn K mainGlobals (Str.ofString "list") = some none := by kernel_rfl) :
    Impl prog w K mg mb n env lay (eval (.Call (.Name (Str.ofString "list") p) [.Call (.Attribute o "items" apos) [] [] ipos] [] pos) env)
      (fun σ => (f σ).bind fun v => (itemsV v).bind fun l => if l.length ≤ sizeLine then some (.lst l) else none) := by
  intro A s h₀ B O σ v am b F e Q E h
  obtain ⟨vd, ed, e⟩ := Option.bind_eq_some_iff.mp e
  obtain ⟨l', el, e⟩ := Option.bind_eq_some_iff.mp e
  split at e
  · rename_i hz
    cases e
    unfold itemsV at el
    split at el
    · rename_i l
      cases el
      refine wpAny_Call_NameR (impl_blt (prog := prog) (w := w) (mg := mg) (mb := mb) (n := n) (List.mem_of_getElem? hx) hv hb A s h₀ B O σ (.raw _) am b F rfl _ _ fun fv s₁ k₁ r₁ => ?_)
      cases r₁
      refine PySem.callWith_type rfl ?_
      show wpAny _ A (evalArgs (.type "list") true [(false, eval (.Call (.Attribute o "items" apos) [] [] ipos) env)] []) _ _ _
      refine evalArgs_plain (spliced_cons (items_call ho am b (F.step k₁.kept) ed hbase hline fun d kvs s₂ k₂ hd hH di hview hne => spliced_nil ?_))
      obtain ⟨ep, hat⟩ := hd.dictAt
      have hlen : l.length = kvs.length := by have := congrArg List.length di.1; simpa using this
      refine W.kdx_call am.handled hview hat (by unfold itemsF at hz; rw [List.length_map, hlen] at hz; exact hz) fun h' tk acc c as hk hS hal hG hacc => ?_
      have st : Step s { s₂ with heap := h', toks := tk } := (k₁.trans k₂).trans ⟨⟨_, _, rfl⟩, hk⟩
      have hu := F.hidden.keeps (k₁.trans k₂).kept
      refine h _ _ st (.lst _ (itemsF l) (as.map Value.ref) ⟨c, by rw [hS, ← hacc]⟩ hu.size (by unfold itemsF; rw [List.length_map, List.length_map, hal, hlen]) fun i v x e1 e2 => ?_)
      unfold itemsF at e1
      rw [List.getElem?_map] at e1 e2
      obtain ⟨q, hq, rfl⟩ := Option.map_eq_some_iff.mp e1
      obtain ⟨a, ha, rfl⟩ := Option.map_eq_some_iff.mp e2
      obtain ⟨key, kk, x, e3, e4, e5⟩ := hG.pairs i a ha
      obtain ⟨x', e6, r⟩ := di.at hq
      rw [e3] at e6
      cases e6
      have hgt : s₂.heap.objs.size < a := hG.above a (List.mem_of_getElem? ha)
      exact pair_vr e5 (hu.fresh (get_size_none _ (Nat.le_of_lt hgt))) e4 (r.keeps hk)
    · cases el
  · cases e
end Mine
end Core17_part
section Core18_part
open PySem PySem.W PyProof.Rows PySem.Calls
set_option Elab.async false
set_option maxRecDepth 100000
namespace Mine
variable {prog : Program} {w : World} {K : Frag} {mg mb : Str → Option Value} {n : Nat} {env : Env} {lay : Lay}
theorem Items.one {h : Heap} {H : Hid} {v : V} {xs : List Value} (it : Items prog w h H [v] xs) : ∃ x, xs = [x] ∧ VR prog w h H v x := by
  match xs, it with
  | [x], it => exact ⟨x, rfl, it.2 0 _ _ rfl rfl⟩
  | [], it => cases it.1
  | _ :: _ :: _, it => cases it.1
theorem Items.three {h : Heap} {H : Hid} {u v t : V} {xs : List Value} (it : Items prog w h H [u, v, t] xs) : ∃ x y z, xs = [x, y, z] ∧ VR prog w h H u x ∧ VR prog w h H v y ∧ VR prog w h H t z := by
  match xs, it with
  | [x, y, z], it => exact ⟨x, y, z, rfl, it.2 0 _ _ rfl rfl, it.2 1 _ _ rfl rfl, it.2 2 _ _ rfl rfl⟩
  | [], it => cases it.1
  | [_], it => cases it.1
  | [_, _], it => cases it.1
  | _ :: _ :: _ :: _ :: _, it => cases it.1
noncomputable def lenF : List V → Option V
  | [v] => lenV v
  | _ => none
theorem spec_len : FnSpec prog w K mg mb n (.builtin "len") lenF := by
  intro A s B args xs v am b u e it Q E h
  unfold lenF at e
  split at e
  · obtain ⟨x, rfl, r⟩ := it.one
    unfold lenV at e
    split at e
    · split at e
      · rename_i l hz
        cases e
        cases r with
        | lst a l ys ho hH hl hx =>
        have hb : ys.length ≤ sizeLine := hl ▸ hz
        rw [sizeLine_eq] at hb
        have hsz : ((ys.toArray.size : Nat) : Int) = (l.length : Int) := by simp [hl]
        refine call_len_list ho.isList (by rw [hsz, hl]; omega) ?_
        rw [hsz]
        exact h _ _ (Step.tok ..) (.int ..)
      · cases e
    · split at e
      · rename_i l hz
        cases e
        cases r with
        | tup a l ys ho hH hl hx =>
        have hb : ys.length ≤ sizeLine := hl ▸ hz
        rw [sizeLine_eq] at hb
        have hsz : ((ys.toArray.size : Nat) : Int) = (l.length : Int) := by simp [hl]
        refine PyProof.Rows.len_tuple ho (by rw [hsz, hl]; omega) ?_
        rw [hsz]
        exact h _ _ (Step.tok ..) (.int ..)
      · cases e
    · cases e
  · cases e
noncomputable def gtF (x y : UInt64) : Bool := isGt (Float64.cmp x y)
noncomputable def ltF (x y : UInt64) : Bool := isLt (Float64.cmp x y)
noncomputable def maxF : List V → Option V
  | [.flt a, .flt b, .flt c] => some (.flt (if gtF b a then (if gtF c b then c else b) else (if gtF c a then c else a)))
  | _ => none
noncomputable def minF : List V → Option V
  | [.flt a, .flt b, .flt c] => some (.flt (if ltF b a then (if ltF c b then c else b) else (if ltF c a then c else a)))
  | _ => none
noncomputable def fltAt (l : List UInt64) (i : Nat) : UInt64 := l.getD i 0
theorem cmpOf_gt {A : Around} {l : List UInt64} {P : Nat → Value → Prop} (hP : ∀ i v, P i v → ∃ t, v = .float (fltAt l i) t) : CmpOf prog w A .Gt P (fun i j => gtF (fltAt l i) (fltAt l j)) := by
  intro i j vi vj s Q E hi hj h
  obtain ⟨t, rfl⟩ := hP i vi hi
  obtain ⟨u, rfl⟩ := hP j vj hj
  have h : Q (.bool (gtF (fltAt l i) (fltAt l j))) s := h
  rw [gtF, isGt_is] at h
  exact AutoFloatOps.gt_0 h
theorem cmpOf_lt {A : Around} {l : List UInt64} {P : Nat → Value → Prop} (hP : ∀ i v, P i v → ∃ t, v = .float (fltAt l i) t) : CmpOf prog w A .Lt P (fun i j => ltF (fltAt l i) (fltAt l j)) := by
  intro i j vi vj s Q E hi hj h
  obtain ⟨t, rfl⟩ := hP i vi hi
  obtain ⟨u, rfl⟩ := hP j vj hj
  have h : Q (.bool (ltF (fltAt l i) (fltAt l j))) s := h
  rw [ltF, isLt_is] at h
  exact AutoFloatOps.lt_0 h
theorem three_at {a b c : UInt64} {t u x : Tok} (i : Nat) (v : Value) (h : (#[Value.float a t, .float b u, .float c x])[i]? = some v) : ∃ t, v = .float (fltAt [a, b, c] i) t := by
  match i with
  | 0 => cases h; exact ⟨_, rfl⟩
  | 1 => cases h; exact ⟨_, rfl⟩
  | 2 => cases h; exact ⟨_, rfl⟩
  | i + 3 => simp at h
theorem best_three (bt : Nat → Nat → Bool) : argBest bt 2 = if bt 1 0 then (if bt 2 1 then 2 else 1) else (if bt 2 0 then 2 else 0) := by
  have e1 : argBest bt 1 = if bt 1 0 then 1 else 0 := rfl
  show (if bt 2 (argBest bt 1) then 2 else argBest bt 1) = _
  rw [e1]
  cases bt 1 0 <;> rfl
theorem three_walk {A : Around} {E : Value → Shared → Prop} {s : Shared} {op : CmpOp} {a b c : UInt64} {t u x : Tok} {bt : Nat → Nat → Bool} {Q : Value → Shared → Prop} (hh : A.handled = none) (hc : ∀ P : Nat → Value → Prop, (∀ i v, P i v → ∃ t, v = .float (fltAt [a, b, c] i) t) → CmpOf prog w A op P bt)
    (h : ∀ v s', Step s s' → (∃ t, v = .float (fltAt [a, b, c] (if bt 1 0 then (if bt 2 1 then 2 else 1) else (if bt 2 0 then 2 else 0))) t) → Q v s') :
    wpAny (model prog w) A (pyIter (.ref s.heap.objs.size)) (fun it s₂ => ∃ I fp wr n P St bt, it = .ref I ∧ Walks prog w A I fp wr n P St ∧ St 0 s₂.heap ∧ (∀ b ∈ fp, b < s₂.heap.objs.size) ∧ 0 < n ∧ CmpOf prog w A op P bt ∧
      ∀ v h' tk, P (argBest bt (n - 1)) v → (∀ b o, b ∉ wr → s₂.heap.get? b = some o → h'.get? b = some o) → Q v { s₂ with heap := h', toks := tk }) E
      { s with heap := s.heap.push { cls := .type "tuple", data := .seq #[.float a t, .float b u, .float c x] } } := by
  have hT : (s.heap.push { cls := .type "tuple", data := .seq #[.float a t, .float b u, .float c x] }).IsTuple s.heap.objs.size #[.float a t, .float b u, .float c x] := ⟨_, Heap.get?_push_size _ rfl, rfl, 0, rfl⟩
  refine wpAny_pyIter_tuple hT ?_
  have hsz : (s.heap.push { cls := .type "tuple", data := .seq #[.float a t, .float b u, .float c x] }).objs.size = s.heap.objs.size + 1 := Heap.size_push ..
  refine ⟨_, [_, s.heap.objs.size], [_], _, _, _, bt, rfl, Walks.tuple (A := A) hh _ s.heap.objs.size (by rw [hsz]; exact Nat.ne_of_lt (Nat.lt_succ_self _)) #[.float a t, .float b u, .float c x],
    ⟨⟨_, Heap.get?_push_size _ rfl, rfl, rfl⟩, hT.push _⟩, fun d hd => ?_, by simp, hc _ fun i v q => three_at i v q, fun v h' tk hP hk => ?_⟩
  · show d < ((s.heap.push _).push _).objs.size
    rw [Heap.size_push, hsz]
    rcases List.mem_cons.mp hd with rfl | hd
    · rw [hsz]; exact Nat.lt_succ_self _
    · rcases List.mem_cons.mp hd with rfl | hd
      · exact Nat.lt_succ_of_lt (Nat.lt_succ_self _)
      · cases hd
  · have hold : ∀ d o, s.heap.get? d = some o → h'.get? d = some o := fun d o e => by
      refine hk d o (fun hm => ?_) (Heap.get?_push_of_some _ (Heap.get?_push_of_some _ e))
      rcases List.mem_cons.mp hm with e1 | hm
      · have := Heap.lt_size e; rw [e1, hsz] at this; exact Nat.lt_irrefl _ (Nat.lt_of_succ_lt this)
      · cases hm
    refine h v _ ⟨⟨_, _, rfl⟩, hold⟩ ?_
    have h2 := three_at _ v hP
    have h3 : (#[Value.float a t, .float b u, .float c x] : Array Value).size - 1 = 2 := rfl
    rw [h3, best_three] at h2
    exact h2
theorem spec_max : FnSpec prog w K mg mb n (.builtin "max") maxF := by
  intro A s B args xs v am bb uu e it Q E h
  unfold maxF at e
  split at e
  · rename_i a b c
    obtain ⟨x, y, z, rfl, r1, r2, r3⟩ := it.three
    cases r1; cases r2; cases r3
    refine call_max_three (three_walk (A := A.in1) (bt := fun i j => gtF (fltAt [a, b, c] i) (fltAt [a, b, c] j)) am.handled (fun P hP => cmpOf_gt hP) fun v' s' st hv => ?_)
    obtain ⟨t, rfl⟩ := hv
    refine h _ s' st ?_
    have : v = .flt (fltAt [a, b, c] (if gtF b a then (if gtF c b then 2 else 1) else (if gtF c a then 2 else 0))) := by
      rw [← Option.some.inj e]
      congr 1
      cases gtF b a <;> cases gtF c b <;> cases gtF c a <;> rfl
    rw [this]
    exact .flt ..
  · cases e
theorem spec_min : FnSpec prog w K mg mb n (.builtin "min") minF := by
  intro A s B args xs v am bb uu e it Q E h
  unfold minF at e
  split at e
  · rename_i a b c
    obtain ⟨x, y, z, rfl, r1, r2, r3⟩ := it.three
    cases r1; cases r2; cases r3
    refine call_min_three (three_walk (A := A.in1) (bt := fun i j => ltF (fltAt [a, b, c] i) (fltAt [a, b, c] j)) am.handled (fun P hP => cmpOf_lt hP) fun v' s' st hv => ?_)
    obtain ⟨t, rfl⟩ := hv
    refine h _ s' st ?_
    have : v = .flt (fltAt [a, b, c] (if ltF b a then (if ltF c b then 2 else 1) else (if ltF c a then 2 else 0))) := by
      rw [← Option.some.inj e]
      congr 1
      cases ltF b a <;> cases ltF c b <;> cases ltF c a <;> rfl
    rw [this]
    exact .flt ..
  · cases e
noncomputable def intF : List V → Option V
  | [.flt x] => match Float64.decode x with
    | .fin sg m e => some (.int (Float64.truncOf sg m e))
    | _ => none
  | _ => none
theorem spec_int : FnSpec prog w K mg mb n (.type "int") intF := by
  intro A s B args xs v am bb uu e it Q E h
  unfold intF at e
  split at e
  · obtain ⟨x, rfl, r⟩ := it.one
    cases r
    split at e
    · rename_i hd
      cases e
      exact call_int_float hd (h _ _ (Step.tok ..) (.int ..))
    · cases e
  · cases e
noncomputable def roundF : List V → Option V
  | [.flt x] => match Float64.decode x with
    | .fin sg m e => some (.int (Float64.nearestOf sg m e))
    | _ => none
  | _ => none
theorem spec_round : FnSpec prog w K mg mb n (.builtin "round") roundF := by
  intro A s B args xs v am bb uu e it Q E h
  unfold roundF at e
  split at e
  · obtain ⟨x, rfl, r⟩ := it.one
    cases r
    split at e
    · rename_i sg m ex hd
      cases e
      exact Flt.round_via1 (call_gives PySem.F.slot_float_round (typeIs_float s _ _) PySem.F.entry_float_round (PySem.F.args_float_round_1 _) (Flt.gives_round _ hd) (h _ _ (Step.tok ..) (.int ..)))
    · cases e
  · cases e
noncomputable def intsV : List V → Option (List Int)
  | [] => some []
  | .int z :: r => (intsV r).map (z :: ·)
  | _ => none
theorem intsV_at : ∀ {l : List V} {zs : List Int}, intsV l = some zs → l.length = zs.length ∧ ∀ (i : Nat) v, l[i]? = some v → v = .int (zs.getD i 0)
  | [], zs, e => by cases e; exact ⟨rfl, fun i v e => by cases e⟩
  | .int z :: r, zs, e => by
    unfold intsV at e
    obtain ⟨q, hq, rfl⟩ := Option.map_eq_some_iff.mp e
    obtain ⟨h1, h2⟩ := intsV_at hq
    refine ⟨by simp [h1], fun i v e => ?_⟩
    cases i with
    | zero => cases e; rfl
    | succ i => simpa using h2 i v (by simpa using e)
  | .none :: r, zs, e => by cases e
  | .bool _ :: r, zs, e => by cases e
  | .flt _ :: r, zs, e => by cases e
  | .str _ :: r, zs, e => by cases e
  | .tup _ :: r, zs, e => by cases e
  | .lst _ :: r, zs, e => by cases e
  | .dct _ :: r, zs, e => by cases e
  | .inst _ _ :: r, zs, e => by cases e
  | .raw _ :: r, zs, e => by cases e
noncomputable def sumZ : List Int → Int
  | [] => 0
  | z :: r => z + sumZ r
theorem preSum_shift (val : Nat → Int) : ∀ k, preSum val (k + 1) = val 0 + preSum (fun i => val (i + 1)) k
  | 0 => by simp [preSum]
  | k + 1 => by rw [preSum, preSum_shift val k, preSum]; omega
theorem preSum_list : ∀ (zs : List Int), preSum (fun i => zs.getD i 0) zs.length = sumZ zs
  | [] => rfl
  | z :: r => by
    rw [List.length_cons, preSum_shift, sumZ, ← preSum_list r]
    rfl
noncomputable def sumR : Nat → Int
  | 0 => 0
  | k + 1 => sumR k + k
theorem preSum_range : ∀ k : Nat, preSum (fun i => (0 : Int) + i * 1) k = sumR k
  | 0 => rfl
  | k + 1 => by rw [preSum, preSum_range k, sumR]; omega
noncomputable def sumF : List V → Option V
  | [.lst l] => (intsV l).map fun zs => .int (sumZ zs)
  | _ => none
theorem spec_sum : FnSpec prog w K mg mb n (.builtin "sum") sumF := by
  intro A s B args xs v am bb uu e it Q E h
  unfold sumF at e
  split at e
  · obtain ⟨x, rfl, r⟩ := it.one
    obtain ⟨zs, hz, rfl⟩ := Option.map_eq_some_iff.mp e
    obtain ⟨hl1, hl2⟩ := intsV_at hz
    cases r with
    | lst a _ ys ho hH hl hx =>
    refine call_sum_walkG (wpAny_pyIter_list ho.isList ?_)
    obtain ⟨nn, hoa⟩ := id ho
    have hne : a ≠ s.heap.objs.size := Nat.ne_of_lt (Heap.lt_size hoa)
    refine ⟨_, [s.heap.objs.size, a], [s.heap.objs.size], _, _, _, fun i => zs.getD i 0, rfl, Walks.list (A := A.in1) am.handled s.heap.objs.size a hne ys.toArray, ⟨⟨_, Heap.get?_push_size _ rfl, rfl, rfl⟩, ho.isList.push _⟩, fun d hd => ?_, fun i y hy => ?_, fun h' tk t' hk => ?_⟩
    · show d < (s.heap.push _).objs.size
      rw [Heap.size_push]
      simp only [List.mem_cons, List.not_mem_nil, or_false] at hd
      rcases hd with rfl | rfl
      · exact Nat.lt_succ_self _
      · exact Nat.lt_succ_of_lt (Heap.lt_size hoa)
    · have hy' : ys[i]? = some y := by simpa using hy
      have hi := (List.getElem?_eq_some_iff.mp hy').1
      rw [← hl] at hi
      have r := hx i _ y (List.getElem?_eq_getElem hi) hy'
      rw [hl2 i _ (List.getElem?_eq_getElem hi)] at r
      cases r
      exact ⟨_, rfl⟩
    · have hsz : ys.toArray.size = zs.length := by simp [← hl, hl1]
      rw [hsz, preSum_list]
      refine h _ _ ⟨⟨_, _, rfl⟩, fun b o e => hk b o (fun q => ?_) (Heap.get?_push_of_some _ e)⟩ (.int ..)
      exact big0 (Heap.lt_size e) (List.mem_singleton.mp q)
  · cases e
theorem impl_sumRange (i j : Nat) {p q rpos pos : Pos} {x : Expr} {f : St → Option V} (hf : Impl prog w K mg mb n env lay (eval x env) f) (hx : lay.globs[i]? = some (Str.ofString "sum") := by rfl) (hv : nsIn K mainGlobals (Str.ofString "sum") = some none := by kernel_rfl)
    (hx' : lay.globs[j]? = some (Str.ofString "range") := by rfl) (hv' : nsIn K mainGlobals (Str.ofString "range") = some none := by kernel_rfl) (hst : ∀ rest, starEach (x :: rest) env = (false, eval x env) :: starEach rest env := by intro _; rfl) :
    Impl prog w K mg mb n env lay (eval (.Call (.Name (Str.ofString "sum") p) [.Call (.Name (Str.ofString "range") q) [x] [] rpos] [] pos) env)
      (fun σ => (f σ).bind fun v => match v with | .int z => if small62 z then some (.int (sumR z.toNat)) else none | _ => none) := by
  intro A s h₀ B O σ v am b F e Q E h
  obtain ⟨vx, ex, e⟩ := Option.bind_eq_some_iff.mp e
  split at e
  · rename_i z
    split at e
    · rename_i hz
      cases e
      refine wpAny_Call_NameR (impl_blt (prog := prog) (w := w) (mg := mg) (mb := mb) (n := n) (List.mem_of_getElem? hx) hv boot_sum A s h₀ B O σ (.raw _) am b F rfl _ _ fun fv s₁ k₁ r₁ => ?_)
      cases r₁
      refine Calls.callWith_builtin rfl ?_
      show wpAny _ A (evalArgs (.builtin "sum") true [(false, eval (.Call (.Name (Str.ofString "range") q) [x] [] rpos) env)] []) _ _ _
      refine evalArgs_plain (spliced_cons (callB_args (es := [x]) hx' hv' boot_range (.inr ⟨_, rfl⟩) (.cons hf .nil hst) am b (F.step k₁.kept) (l := [.int z]) (by show (f σ).bind _ = _; rw [ex]; rfl) fun xs s₂ k₂ it => ?_))
      obtain ⟨y, rfl, r⟩ := it.one
      cases r
      refine call_range_1 (spliced_nil ?_)
      unfold small62 at hz
      simp only [Bool.and_eq_true, decide_eq_true_eq] at hz
      refine call_sum_walkG ?_
      have hr := IsRange.new s₂.heap 0 z 1 s₂.toks ‹Tok› (s₂.toks + 1)
      refine wpAny_pyIter_range hr (small_one (by decide) (by decide) hz.1 hz.2) ?_
      have hn : Builtin.Range.rangeSize 0 z 1 = ((z.toNat : Nat) : Int) := by
        rw [rangeSize_one]
        split <;> omega
      have hsz : (s₂.heap.push { cls := .type "range", data := .fields #[.int 0 s₂.toks, .int z ‹Tok›, .int 1 (s₂.toks + 1)] }).objs.size = s₂.heap.objs.size + 1 := Heap.size_push ..
      refine ⟨_, [_], [_], _, _, _, fun i => (0 : Int) + i * 1, rfl, Walks.range (A := A.in1) am.handled _ 0 1 z.toNat, ?_, fun d hd => ?_, fun i y hy => hy, fun h' tk t' hk => ?_⟩
      · have this : IsRangeIter ((s₂.heap.push { cls := .type "range", data := .fields #[.int 0 s₂.toks, .int z ‹Tok›, .int 1 (s₂.toks + 1)] }).push { cls := .type "range_iterator", data := .fields #[rawInt 0, rawInt (Builtin.Range.rangeSize 0 z 1), rawInt 1] })
            (s₂.heap.push { cls := .type "range", data := .fields #[.int 0 s₂.toks, .int z ‹Tok›, .int 1 (s₂.toks + 1)] }).objs.size 0 (Builtin.Range.rangeSize 0 z 1) 1 := Heap.get?_push_size _ rfl
        show IsRangeIter _ _ _ _ _
        rw [hn] at this
        simpa [hn] using this
      · rw [List.mem_singleton.mp hd]
        refine Nat.lt_of_lt_of_eq (Nat.lt_succ_self _) ?_
        exact (Heap.size_push ..).symm
      · have hp := preSum_range z.toNat
        rw [hp]
        refine h _ _ (((k₁.trans k₂).trans ⟨⟨_, _, rfl⟩, fun b o e => hk b o (fun q => ?_) (Heap.get?_push_of_some _ (Heap.get?_push_of_some _ e))⟩)) (.int ..)
        have := Heap.lt_size e
        have q' := List.mem_singleton.mp q
        rw [hsz] at q'
        exact big1 this q'
    · cases e
  · cases e
end Mine
end Core18_part
section Core19_part
open PySem PySem.W PyProof.Rows PySem.Calls
set_option Elab.async false
set_option maxRecDepth 100000
namespace Mine
variable {prog : Program} {w : World} {K : Frag} {mg mb : Str → Option Value} {n : Nat} {env : Env} {lay : Lay}
theorem impl_tupleO (i j : Nat) {x : Str} {kd : Acc} {p px pos : Pos} (hb : bootBuiltins (Str.ofString "tuple") = some (.type "tuple")) (hi : lay.names[i]? = some (x, kd) := by rfl) (hj : lay.globs[j]? = some (Str.ofString "tuple") := by rfl) (hv : nsIn K mainGlobals (Str.ofString "tuple") = some none := by kernel_rfl) :
    Impl prog w K mg mb n env lay (eval (.Call (.Name (Str.ofString "tuple") p) [.Name x px] [] pos) env) (fun σ => (σ.own i).bind fun v => match v with | .lst l => if l.length ≤ sizeLine then some (.tup l) else none | _ => none) := by
  intro A s h₀ B O σ v am b F e0 Q E h
  obtain ⟨va, ea, e⟩ := Option.bind_eq_some_iff.mp e0
  clear e0
  refine wpAny_Call_NameR (impl_blt (prog := prog) (w := w) (mg := mg) (mb := mb) (n := n) (List.mem_of_getElem? hj) hv hb A s h₀ B O σ (.raw _) am b F rfl _ _ fun f s₁ k₁ r₁ => ?_)
  cases r₁
  refine PySem.callWith_type rfl ?_
  show wpAny _ A (evalArgs (.type "tuple") true [(false, eval (.Name x px) env)] []) _ _ _
  refine evalArgs_plain (spliced_cons (own_name hi (F.step k₁.kept) ea fun k a hk ha hv r => spliced_nil ?_))
  cases va with
  | lst l =>
    dsimp only at e
    split at e
    · rename_i hz
      cases e
      obtain ⟨xs, ho, it⟩ := r
      refine call_tuple_list ho.isList (fun h' hk' => ?_) (by simpa [← it.1] using hz)
      have st : Step s { s₁ with heap := h'.push { cls := .type "tuple", data := .seq xs.toArray } } := k₁.trans ⟨⟨_, _, rfl⟩, fun b o e => Heap.get?_push_of_some _ (hk' b o e)⟩
      have hu : Under (hid B env O) h' := (F.hidden.keeps k₁.kept).keeps hk'
      exact h _ _ st (.tup _ l xs ⟨_, Heap.get?_push_size _ rfl, rfl, _, rfl⟩ hu.size it.1 fun i v x e1 e2 => (it.2 i v x e1 e2).keeps fun b o e => Heap.get?_push_of_some _ (hk' b o e))
    · cases e
  | _ => cases e
noncomputable def countZ (z : Int) : List Int → Nat
  | [] => 0
  | y :: r => countZ z r + (if y == z then 1 else 0)
noncomputable def intIs (z : Int) : Value → Bool
  | .int y _ => y == z
  | _ => false
theorem count_ints {h : Heap} {H : Hid} (z : Int) : ∀ {l : List V} {xs : List Value} {zs : List Int}, Items prog w h H l xs → intsV l = some zs → xs.countP (intIs z) = countZ z zs ∧ ∀ y ∈ xs, ∃ a t, y = .int a t
  | [], [], zs, it, e => by cases e; exact ⟨rfl, fun y hy => by cases hy⟩
  | [], _ :: _, zs, it, e => by cases it.1
  | _ :: _, [], zs, it, e => by cases it.1
  | v :: l, x :: xs, zs, it, e => by
    have r := it.2 0 v x rfl rfl
    have it' : Items prog w h H l xs := ⟨by simpa using it.1, fun i v x e1 e2 => it.2 (i + 1) v x (by simpa using e1) (by simpa using e2)⟩
    cases v with
    | int y =>
      unfold intsV at e
      obtain ⟨q, hq, rfl⟩ := Option.map_eq_some_iff.mp e
      obtain ⟨h1, h2⟩ := count_ints z it' hq
      cases r
      refine ⟨by rw [List.countP_cons, h1]; rfl, fun y hy => ?_⟩
      rcases List.mem_cons.mp hy with rfl | hy
      · exact ⟨_, _, rfl⟩
      · exact h2 y hy
    | _ => cases e
noncomputable def countV (a b : V) : Option V := match a, b with
  | .lst l, .int z => (intsV l).map fun zs => .int ((countZ z zs : Nat) : Int)
  | _, _ => none
theorem impl_count {o x : Expr} {apos pos : Pos} {f g : St → Option V} (ho : Impl prog w K mg mb n env lay (eval o env) f) (hx : Impl prog w K mg mb n env lay (eval x env) g)
    (hbase : attributeBase o "count" env (eval o env) = eval o env := by rfl)
    (hfew : ((backTo pos (starEach [x] env)).all (fun x => !x.1) && (backToKw pos (keywordEach [] env)).all (fun x => x.1.isSome)
      && decide (([x] : List Expr).length + ([] : List Keyword).length + (if ([] : List Keyword).isEmpty then 0 else 1) < 30)) = true := by rfl)
    (hline : (apos.endLine == pos.line) = true := by kernel_rfl) (htrees : backTo pos (starEach [x] env) = [(false, eval x env)] := by rfl) :
    Impl prog w K mg mb n env lay (eval (.Call (.Attribute o "count" apos) [x] [] pos) env) (fun σ => (f σ).bind fun a => (g σ).bind fun b => countV a b) := by
  intro A s h₀ B O σ v am b F e0 Q E h
  obtain ⟨va, ea, e⟩ := Option.bind_eq_some_iff.mp e0
  obtain ⟨vb, eb, e⟩ := Option.bind_eq_some_iff.mp e
  clear e0
  refine wpAny_Call_method (T := "list") (id := "list.count") hbase hfew hline PySem.F.plainAttrs_list PySem.F.slot_list_count PySem.F.type_list_count (ho A s h₀ B O σ va am b F ea _ _ fun y s₁ k₁ r₁ => ?_)
  cases va with
  | lst l =>
    cases vb with
    | int z =>
      unfold countV at e
      obtain ⟨zs, hz, rfl⟩ := Option.map_eq_some_iff.mp e
      cases r₁ with
      | lst a _ xs ho' hH hl hx' =>
      refine ⟨ho'.isList.typeIs, fun a' e => ?_, ?_⟩
      · cases e
        obtain ⟨m, e⟩ := ho'
        exact ⟨_, e, rfl⟩
      · rw [htrees]
        refine Calls.callWith_builtin rfl (evalArgs_plain (spliced_cons (hx A s₁ h₀ B O σ _ am b (F.step k₁.kept) eb _ _ fun y s₂ k₂ r₂ => spliced_nil ?_)))
        cases r₂
        obtain ⟨m, hg⟩ := ho'.at fun o e => k₂.kept _ o e
        have it : Items prog w s₂.heap (hid B env O) l xs := Items.keeps k₂.kept ⟨hl, hx'⟩
        obtain ⟨h1, h2⟩ := count_ints z it hz
        refine call_meets PySem.F.slot_list_count ⟨_, hg, rfl⟩ PySem.F.entry_list_count (PySem.F.args_list_count_2 _ _) (MeetsSeq.list_count a xs.toArray m _ (intIs z) fun y hy => ?_) ⟨hg, ?_⟩
        · obtain ⟨q, t, rfl⟩ := h2 y (by simpa using hy)
          exact (MeetsSeq.EqGives.int q z t _ : MeetsSeq.EqGives (.int q t) (.int z _) (q == z))
        · show Q (.int ((xs.countP (intIs z) : Nat) : Int) _) _
          rw [h1]
          exact h _ _ ((k₁.trans k₂).trans (Step.tok ..)) (.int ..)
    | _ => cases e
  | _ => cases e
noncomputable def ImplP (prog : Program) (w : World) (K : Frag) (mg mb : Str → Option Value) (n : Nat) (env : Env) (lay : Lay) (o : Option Expr) (f : St → Option (Option Int)) : Prop :=
  ∀ A s h₀ B O σ r, Amb n A → Base K mg mb h₀ → Frm prog w env lay h₀ B O s.heap σ → f σ = some r → ∀ (Q : Value → Shared → Prop) E, (∀ x s', Step s s' → IsPart x r → Q x s') → wpAny (model prog w) A (evalPart o env) Q E s
theorem part_none : ImplP prog w K mg mb n env lay none (fun _ => some none) := by
  intro A s h₀ B O σ r am b F e Q E h
  cases e
  exact wpAny_pure (h _ _ (Step.refl _) .none)
theorem part_some {e : Expr} {f : St → Option V} (hf : Impl prog w K mg mb n env lay (eval e env) f) : ImplP prog w K mg mb n env lay (some e) (fun σ => (f σ).bind fun v => match v with | .int z => some (some z) | _ => none) := by
  intro A s h₀ B O σ r am b F e Q E h
  obtain ⟨v, ev, e⟩ := Option.bind_eq_some_iff.mp e
  refine hf A s h₀ B O σ v am b F ev _ _ fun x s₁ k₁ r₁ => ?_
  split at e
  · cases e; cases r₁; exact h _ _ k₁ (.int ..)
  · cases e
noncomputable def pickL {α : Type} (l : List α) (lo hi : Option Int) : List α :=
  (sliceRange (sliceBounds lo hi none l.length).1 (sliceBounds lo hi none l.length).2.1 (sliceBounds lo hi none l.length).2.2).filterMap (l[·]?)
theorem Items.pick {h : Heap} {H : Hid} {l : List V} {xs : List Value} (it : Items prog w h H l xs) : ∀ (js : List Nat), Items prog w h H (js.filterMap (l[·]?)) (js.filterMap (xs[·]?))
  | [] => Items.nil
  | j :: js => by
    have ih := Items.pick it js
    rw [List.filterMap_cons, List.filterMap_cons]
    by_cases hj : j < l.length
    · have h2 : j < xs.length := it.1 ▸ hj
      have e1 : l[j]? = some l[j] := List.getElem?_eq_getElem hj
      have e2 : xs[j]? = some xs[j] := List.getElem?_eq_getElem h2
      rw [e1, e2]
      exact Items.cons (it.2 j _ _ e1 e2) ih
    · have e1 : l[j]? = none := List.getElem?_eq_none (Nat.le_of_not_lt hj)
      have e2 : xs[j]? = none := List.getElem?_eq_none (it.1 ▸ Nat.le_of_not_lt hj)
      rw [e1, e2]
      exact ih
theorem impl_slice {value : Expr} {lower upper : Option Expr} {p pos : Pos} {f : St → Option V} {g₁ g₂ : St → Option (Option Int)} (hf : Impl prog w K mg mb n env lay (eval value env) f) (h₁ : ImplP prog w K mg mb n env lay lower g₁) (h₂ : ImplP prog w K mg mb n env lay upper g₂)
    (ht : ∀ o r, letTemporaryGo value o r = pure () := by intro _ _; rfl) :
    Impl prog w K mg mb n env lay (eval (.Subscript value (.Slice lower upper none p) pos) env)
      (fun σ => (f σ).bind fun v => (g₁ σ).bind fun lo => (g₂ σ).bind fun hi => match v with | .lst l => if l.length ≤ sizeLine then some (.lst (pickL l lo hi)) else none | _ => none) := by
  intro A s h₀ B O σ v am b F e0 Q E h
  obtain ⟨va, ea, e⟩ := Option.bind_eq_some_iff.mp e0
  obtain ⟨lo, e1, e⟩ := Option.bind_eq_some_iff.mp e
  obtain ⟨hi, e2, e⟩ := Option.bind_eq_some_iff.mp e
  clear e0
  refine wpAny_Subscript_list_slice (hf A s h₀ B O σ va am b F ea _ _ fun x s₁ k₁ r₁ => h₁ A s₁ h₀ B O σ lo am b (F.step k₁.kept) e1 _ _ fun vl s₂ k₂ pl => h₂ A s₂ h₀ B O σ hi am b ((F.step k₁.kept).step k₂.kept) e2 _ _ fun vu s₃ k₃ pu => ?_) ht
  cases va with
  | lst l =>
    dsimp only at e
    split at e
    · rename_i hz
      cases e
      cases r₁ with
      | lst a _ xs ho hH hl hx =>
      have k23 := k₂.trans k₃
      refine ⟨a, xs.toArray, lo, hi, rfl, (ho.at fun o e => k23.kept _ o e).isList, by simpa [← hl] using hz, pl, pu, ?_⟩
      have it : Items prog w s₃.heap (hid B env O) l xs := Items.keeps k23.kept ⟨hl, hx⟩
      have hu : Under (hid B env O) s₃.heap := F.hidden.keeps (k₁.trans k23).kept
      have hp : slicePick xs.toArray lo hi none = (pickL xs lo hi).toArray := by
        unfold slicePick pickL
        simp
      rw [hp]
      have it2 : Items prog w s₃.heap (hid B env O) (pickL l lo hi) (pickL xs lo hi) := by
        unfold pickL
        rw [← hl]
        exact it.pick _
      have st : Step s₃ { s₃ with heap := (s₃.heap.push { cls := .type "slice", data := .fields #[vl, vu, .none] }) } := Step.push ..
      have key := VR.newList (s := { s₃ with heap := (s₃.heap.push { cls := .type "slice", data := .fields #[vl, vu, .none] }) }) (hu.keeps st.kept) (Items.keeps st.kept it2)
      have hsz : (s₃.heap.push { cls := .type "slice", data := .fields #[vl, vu, .none] }).objs.size = s₃.heap.objs.size + 1 := Heap.size_push ..
      dsimp only at key
      rw [hsz] at key
      exact h _ _ (((k₁.trans k23).trans st).trans (Step.push ..)) key
    · cases e
  | _ => cases e
theorem adjust_to (k m : Nat) (hk : k ≤ m) : Builtin.Slice.sliceAdjust none (some (k : Int)) 1 (m : Int) = (0, (k : Int)) := by
  unfold Builtin.Slice.sliceAdjust
  have h1 : ¬ ((1 : Int) < 0) := by omega
  have h2 : ¬ ((k : Int) < 0) := by omega
  simp only [h1, h2, if_false]
  congr 1
  omega
theorem places_to (k : Nat) : Builtin.Slice.slicePlaces 0 (k : Int) 1 = k := by
  unfold Builtin.Slice.slicePlaces
  have h1 : (1 : Int) > 0 := by omega
  simp only [h1, if_true, Int.ediv_one]
  split <;> omega
theorem sliceApplied_to {A : Around} {E : Value → Shared → Prop} {s : Shared} {sl : Addr} {k m : Nat} {u : Tok} {Q : Int × Int × Nat → Shared → Prop} (hs : s.heap.IsSliceOf sl .none (.int k u) .none) (hk : k ≤ m) (h : Q (0, 1, k) s) :
    wpAny (model prog w) A (Builtin.Slice.sliceApplied (.ref sl) (pure (m : Int))) Q E s := by
  obtain ⟨os, hos, hcs, hds⟩ := id hs
  unfold Builtin.Slice.sliceApplied Builtin.Slice.sliceFields
  refine wpAny_bind (wpAny_bind (wpAny_field hos hds (x := .none) rfl (wpAny_bind (wpAny_field hos hds (x := .int k u) rfl (wpAny_bind (wpAny_field hos hds (x := .none) rfl (wpAny_pure ?_)))))))
  refine wpAny_bind (slicePart_none ?_)
  show wpAny _ _ (if ((1 : Int) == 0) = true then _ else _) _ _ s
  rw [if_neg (by decide)]
  refine wpAny_bind (slicePart_none (wpAny_bind (slicePart_int (wpAny_bind (wpAny_pure ?_)))))
  show wpAny _ _ (match Builtin.Slice.sliceAdjust none (some (k : Int)) 1 (m : Int) with | (lo, hi) => pure (lo, (1 : Int), Builtin.Slice.slicePlaces lo hi 1)) _ _ s
  rw [adjust_to k m hk]
  show wpAny _ _ (pure ((0 : Int), (1 : Int), Builtin.Slice.slicePlaces 0 (k : Int) 1)) _ _ s
  rw [places_to k]
  exact wpAny_pure h
theorem pick_to (xs : Array Value) (k : Nat) : ((List.range k).filterMap fun (j : Nat) => xs[((0 : Int) + (j : Int) * 1).toNat]?).toArray = (xs.toList.take k).toArray := by
  have e : (fun (j : Nat) => xs[((0 : Int) + (j : Int) * 1).toNat]?) = fun j => xs[0 + j]? := by
    funext j
    have : ((0 : Int) + (j : Int) * 1).toNat = 0 + j := by omega
    rw [this]
  rw [e]
  have := pick_run xs 0 k
  rw [List.filterMap_map] at this
  have e2 : ((fun x => xs[x]?) ∘ fun x => 0 + x) = fun k => xs[0 + k]? := rfl
  rw [e2] at this
  rw [this]
  rfl
theorem getItem_tuple_to {A : Around} {E : Value → Shared → Prop} {s : Shared} {t sl : Addr} {items : Array Value} {k : Nat} {u : Tok} {Q : Value → Shared → Prop} (ht : IsTup s.heap t items) (hs : s.heap.IsSliceOf sl .none (.int k u) .none) (hk : k < items.size)
    (h : Q (.ref s.heap.objs.size) { s with heap := s.heap.push { cls := .type "tuple", data := .seq (items.toList.take k).toArray } })
    (hsz : items.size ≤ sizeLine) : wpAny (model prog w) A (getItem (.ref t) (.ref sl)) Q E s := by
  have hdrop : sizeOk (.seq (items.toList.take k).toArray) := by
    show (items.toList.take k).toArray.size ≤ sizeLine
    rw [List.size_toArray, List.length_take, Array.length_toList]
    omega
  obtain ⟨os, hos, hcs, hds⟩ := id hs
  have hTs : s.TypeIs (.ref sl) "slice" := ⟨os, hos, hcs⟩
  unfold getItem
  try with_reducible refine wpAny_holding ?_
  first | refine wpAny_bind (wpAny_pure ?_) | skip
  refine wpAny_bind (wpAny_sequenceKey ht.typeIs (by decide) ?_)
  refine wpAny_bind (wpAny_callSpecial?_slot (name := Str.ofString "__getitem__") ht.typeIs slot_tuple_getitem
    (wpAny_call_entry slot_tuple_getitem ht.typeIs entry_tuple_getitem ?_ (args_tuple_getitem _ _)))
  show wpAny _ _ (Builtin.Tuple.tupleItemsOf (.ref t) >>= _) _ _ s
  refine wpAny_bind (tupleItemsOf_ ht ?_)
  refine wpAny_bind (wpAny_typeOf hTs ?_)
  rw [if_pos (by decide)]
  refine wpAny_bind (sliceApplied_to hs (Nat.le_of_lt hk) ?_)
  have hno : ¬ (((0 : Int) == 0 && (1 : Int) == 1 && k == items.size) = true) := by
    have : (k == items.size) = false := by rw [beq_eq_false_iff_ne]; omega
    rw [this]; simp
  show wpAny _ _ (if ((0 : Int) == 0 && (1 : Int) == 1 && k == items.size) = true then _ else _) _ _ s
  rw [if_neg hno, pick_to items k]
  first
    | exact wpAny_bind (m := Builtin.Tuple.tupleExact _) (wpAny_newObj_type (wpAny_pure ⟨_, rfl, wpAny_pure h⟩) hdrop)
    | exact wpAny_bind (m := Builtin.Tuple.tupleExact _) (wpAny_newObj_type (wpAny_bind (wpAny_pure (wpAny_pure ⟨_, rfl, wpAny_pure h⟩))) hdrop)
    | exact wpAny_bind (wpAny_bind (m := Builtin.Tuple.tupleExact _) (wpAny_newObj_type (wpAny_pure (wpAny_pure ⟨_, rfl, wpAny_pure h⟩)) hdrop))
    | exact wpAny_bind (wpAny_bind (m := Builtin.Tuple.tupleExact _) (wpAny_newObj_type (wpAny_pure ⟨_, rfl, wpAny_pure h⟩) hdrop))
theorem impl_sliceT {value upper : Expr} {p pos : Pos} {f g : St → Option V} (hf : Impl prog w K mg mb n env lay (eval value env) f) (hg : Impl prog w K mg mb n env lay (eval upper env) g)
    (ht : ∀ o r, letTemporaryGo value o r = pure () := by intro _ _; rfl) :
    Impl prog w K mg mb n env lay (eval (.Subscript value (.Slice none (some upper) none p) pos) env)
      (fun σ => (f σ).bind fun v => (g σ).bind fun k => match v, k with | .tup l, .int z => if 0 ≤ z ∧ z.toNat < l.length ∧ l.length ≤ sizeLine then some (.tup (l.take z.toNat)) else none | _, _ => none) := by
  intro A s h₀ B O σ v am b F e0 Q E h
  obtain ⟨va, ea, e⟩ := Option.bind_eq_some_iff.mp e0
  obtain ⟨vb, eb, e⟩ := Option.bind_eq_some_iff.mp e
  clear e0
  refine wpAny_Subscript_Slice (T := "tuple") slot_tuple_getitem.lookup (hf A s h₀ B O σ va am b F ea _ _ fun x s₁ k₁ r₁ => wpAny_Slice ?_) ht
  rw [evalPart_none]
  refine wpAny_pure ?_
  rw [evalPart_some]
  refine hg A s₁ h₀ B O σ vb am b (F.step k₁.kept) eb _ _ fun y s₂ k₂ r₂ => ?_
  refine wpAny_pure ?_
  cases va with
  | tup l =>
    cases vb with
    | int z =>
      dsimp only at e
      split at e
      · rename_i hz
        cases e
        cases r₁ with
        | tup a _ xs ho hH hl hx =>
        cases r₂
        have ho' : IsTup (s₂.heap.push { cls := .type "slice", data := .fields #[.none, .int z ‹Tok›, .none] }) a xs.toArray := by
          obtain ⟨o, e, r⟩ := ho
          exact ⟨o, Heap.get?_push_of_some _ (k₂.kept _ _ e), r⟩
        have hzn : z = ((z.toNat : Nat) : Int) := by have := hz.1; omega
        refine ⟨ho'.typeIs, ?_⟩
        refine getItem_tuple_to (k := z.toNat) (u := ‹Tok›) (s := { s₂ with heap := s₂.heap.push { cls := .type "slice", data := .fields #[.none, .int z ‹Tok›, .none] } }) ho' (by
          have := Heap.IsSliceOf.new s₂.heap .none (.int z ‹Tok›) .none
          rw [← hzn]; exact this) (by simpa [← hl] using hz.2.1) ?_ (by simpa [← hl] using hz.2.2)
        have hu : Under (hid B env O) s₂.heap := F.hidden.keeps (k₁.trans k₂).kept
        have it : Items prog w s₂.heap (hid B env O) l xs := Items.keeps k₂.kept ⟨hl, hx⟩
        have it2 : Items prog w s₂.heap (hid B env O) (l.take z.toNat) (xs.take z.toNat) := by
          refine ⟨by rw [List.length_take, List.length_take, hl], fun i v x e1 e2 => ?_⟩
          rw [List.getElem?_take] at e1 e2
          split at e1
          · rename_i hi
            rw [if_pos hi] at e2
            exact it.2 i v x e1 e2
          · cases e1
        have st : Step s₂ { s₂ with heap := (s₂.heap.push { cls := .type "slice", data := .fields #[.none, .int z ‹Tok›, .none] }) } := Step.push ..
        exact h _ _ (((k₁.trans k₂).trans st).trans (Step.push ..)) (VR.newTuple (s := { s₂ with heap := (s₂.heap.push { cls := .type "slice", data := .fields #[.none, .int z ‹Tok›, .none] }) }) (hu.keeps st.kept) (Items.keeps st.kept it2))
      · cases e
    | _ => cases e
  | _ => cases e
noncomputable def clsStrOk (K : Frag) (C : Addr) (name x : Str) : Bool := readsIn K C (.type "type") && (match findCls K (.ref C) (.type "type") name with | some (.val (.str y _)) => y == x | _ => false)
theorem impl_clsStr (j : Nat) (C : Addr) (t : Str) {x : Str} {p : Pos} {attr : Str} {pos : Pos} (hx : lay.globs[j]? = some x := by rfl) (hv : nsIn K mainGlobals x = some (some (.ref C)) := by kernel_rfl) (hok : clsStrOk K C attr t = true := by kernel_rfl)
    (he : eval (.Attribute (.Name x p) attr pos) env = (do
      let o ← eval (.Name x p) env
      standAt pos.atName
      let r ← holding [o] (getAttr o attr true)
      letTemporaryGo (.Name x p) o r
      pure r) := by rfl) :
    Impl prog w K mg mb n env lay (eval (.Attribute (.Name x p) attr pos) env) (fun _ => some (.str t)) := by
  intro A s h₀ B O σ v am b F e Q E h
  cases e
  refine Attribute_any_ (impl_glob (prog := prog) (w := w) (mg := mg) (mb := mb) (n := n) (List.mem_of_getElem? hx) hv A s h₀ B O σ (.raw (.ref C)) am b F rfl _ _ fun y s₁ k₁ r₁ => ?_) he
  cases r₁
  unfold clsStrOk at hok
  simp only [Bool.and_eq_true] at hok
  obtain ⟨h1, h2⟩ := hok
  split at h2
  · rename_i y tk hf
    rw [beq_iff_eq.mp h2] at hf
    exact cls_value (b.X.keeps (F.step k₁.kept).keep) h1 hf rfl (h _ _ (k₁.trans (Step.tok ..)) (.str ..))
  · cases h2
end Mine
end Core19_part
section Core20_part
open PySem PySem.W PyProof.Rows PySem.Calls
set_option Elab.async false
set_option maxRecDepth 100000
namespace Mine
variable {prog : Program} {w : World} {K : Frag} {mg mb : Str → Option Value} {n : Nat} {env : Env} {lay : Lay}
noncomputable def St.ownFld (σ : St) (i : Nat) (C : Addr) (j : Nat) : Option V := (σ.own i).bind (fldV C j)
theorem impl_attrO (i : Nat) (C : Addr) (j : Nat) {x : Str} {kd : Acc} {px : Pos} {attr : Str} {pos : Pos} (hi : lay.names[i]? = some (x, kd) := by rfl) (hj : (flds C)[j]? = some attr := by rfl) (hok : attrOk K C attr = true := by kernel_rfl)
    (he : eval (.Attribute (.Name x px) attr pos) env = (do
      let o ← eval (.Name x px) env
      standAt pos.atName
      let r ← holding [o] (getAttr o attr true)
      letTemporaryGo (.Name x px) o r
      pure r) := by rfl) :
    Impl prog w K mg mb n env lay (eval (.Attribute (.Name x px) attr pos) env) (fun σ => σ.ownFld i C j) := by
  intro A s h₀ B O σ v am b F e0 Q E h
  obtain ⟨va, ea, e⟩ := Option.bind_eq_some_iff.mp e0
  clear e0
  refine Attribute_any_ (own_name hi F ea fun k a hk ha hv rr => ?_) he
  unfold fldV at e
  cases va with
  | inst C' l =>
    dsimp only at e
    split at e
    · rename_i hC
      subst hC
      obtain ⟨dx, es, m, h1, h2, h3, h4, h5, h6, h7⟩ := rr
      unfold attrOk at hok
      simp only [Bool.and_eq_true] at hok
      have hjl : j < es.length := h4 ▸ (List.getElem?_eq_some_iff.mp e).1
      have hje : es[j]? = some es[j] := List.getElem?_eq_getElem hjl
      have hok3 := hok.2
      split at hok3
      · rename_i a' ha'
        refine get_value (b.X.keeps F.keep) (inst_at h2 h3) (plainGet_of hok.1.1).1 (findObj_own hok.1.2 ha' hok3 (getL_at h5 (flds_nodup _) hj hje)) (h6 j _ hje) ?_
        exact h _ _ (Step.tok ..) (h7 j _ _ e hje)
      · cases hok3
    · cases e
  | _ => cases e
theorem putL_new (name : Str) (hsh : Int) (key v : Value) : ∀ es : List DictEntry, es.any (·.key.isStr name) = false → putL name hsh key v es = es ++ [⟨hsh, key, v⟩]
  | [], _ => rfl
  | e :: r, h => by
    rw [List.any_cons, Bool.or_eq_false_iff] at h
    unfold putL
    rw [if_neg (by rw [h.1]; decide), putL_new name hsh key v r h.2]
    rfl
noncomputable def setOk (K : Frag) (C : Addr) (name : Str) : Bool := (findIn K (.ref C) "__setattr__" == some (some (.builtin "object.__setattr__"))) && plainOver K C && (takerIn K C name == some none) && hasDictIn K C
theorem osa_own {A : Around} {s : Shared} {x dx C : Addr} {es : List DictEntry} {m : Nat} {name : Str} {tk : Tok} {v : Value} {R : Result → Shared → Prop} (X : K.In s.heap) (hx : s.heap.get? x = some (instObj C dx)) (hdx : s.heap.get? dx = some (dictOf es m))
    (hok : setOk K C name = true) (hnew : es.any (·.key.isStr name) = false) (href : es.any (·.refKey) = false) (hz : es.length ≤ 1000)
    (h : ∀ h' tk e, e.key = .str name s.toks → e.val = v → (∀ b o, b ≠ dx → s.heap.get? b = some o → h'.get? b = some o) → h'.get? dx = some (dictOf (es ++ [e]) (m + 1)) → R (.ok (.ret .none)) { s with heap := h', toks := tk }) :
    codeAny (model prog w) A (.call (.builtin "object.__setattr__") ⟨[.ref x, .str name tk, v], []⟩) R s := by
  unfold setOk at hok
  simp only [Bool.and_eq_true, beq_iff_eq] at hok
  obtain ⟨⟨⟨h1, h2⟩, h3⟩, h4⟩ := hok
  have I : W.InstAt s.heap x (instObj C dx) C (some (dictOf es m)) := inst_at hx hdx
  refine osa_open X I h2 h3 fun b => ?_
  obtain ⟨cd, hc, hd'⟩ := any_some h4
  have D' := Heap.get?_update_self (Obj.putName name (PyData.keyHash w.params name) (.str name s.toks) v) hdx (by rw [putName_dict]; rfl)
  have hN : Obj.putName name (PyData.keyHash w.params name) (.str name s.toks) v (dictOf es m) = dictOf (es ++ [⟨PyData.keyHash w.params name, .str name s.toks, v⟩]) (m + 1) := by
    rw [putName_dict, putL_new _ _ _ _ _ hnew]
    unfold putN
    rw [hnew]
    rfl
  rw [hN] at D'
  refine wpAny_bind (wpAny_pure (wpAny_bind (wpAny_bind (wpAny_loadPart hx (wpAny_bind ((looks_clsIn X hc).here ?_))))))
  rw [hd']
  refine wpAny_pure (a := some dx) (wpAny_bind (wpAny_pure (wpAny_bind ?_)))
  unfold nsSet
  refine wpAny_bind (wpAny_bind (wpAny_askSetting (wpAny_pure (wpAny_bind (wpAny_mkText (wpAny_bind (wpAny_loadPart hdx ?_)))))))
  dsimp only
  have c : aRefKeyMayBeTheName name es.toArray = false := by
    rw [aRefKeyMayBeTheName_at, ← Array.any_toList, ← Array.any_toList]
    show (!es.any (·.key.isStr name) && es.any (·.refKey)) = false
    rw [href, Bool.and_false]
  rw [c]
  refine wpAny_updatePart hdx ?_
  refine wpAny_bind (wpAny_lookBehind D' (pastItsLine_dict (by
    rw [List.size_toArray, sizeLine_eq, List.length_append]
    simp only [List.length_cons, List.length_nil]
    omega)) ?_)
  exact wpAny_pure (h _ _ ⟨PyData.keyHash w.params name, .str name s.toks, v⟩ rfl rfl (fun b o nb e => (Heap.get?_update_ne _ _ _ _ nb).trans e) D')
theorem set_own_dict {A : Around} {E : Value → Shared → Prop} {s : Shared} {x dx C : Addr} {es : List DictEntry} {m : Nat} {name : Str} {v : Value} {Q : Unit → Shared → Prop} (X : K.In s.heap) (hx : s.heap.get? x = some (instObj C dx)) (hdx : s.heap.get? dx = some (dictOf es m))
    (hok : setOk K C name = true) (hnew : es.any (·.key.isStr name) = false) (href : es.any (·.refKey) = false) (hz : es.length ≤ 1000)
    (h : ∀ h' tk e, e.key = .str name (s.toks + 1) → e.val = v → (∀ b o, b ≠ dx → s.heap.get? b = some o → h'.get? b = some o) → h'.get? dx = some (dictOf (es ++ [e]) (m + 1)) → Q () { s with heap := h', toks := tk }) :
    wpAny (model prog w) A (setAttr (.ref x) name v) Q E s := by
  have h1 : findIn K (.ref C) "__setattr__" = some (some (.builtin "object.__setattr__")) := by
    unfold setOk at hok
    simp only [Bool.and_eq_true, beq_iff_eq] at hok
    exact hok.1.1.1
  exact set_plain X (inst_at hx hdx) h1 (osa_own (s := { s with toks := s.toks + 1 }) X hx hdx hok hnew href hz fun h' tk e he1 he2 kp hd => h h' tk e he1 he2 kp hd)
noncomputable def handV : V → Bool
  | .raw _ => false
  | _ => true
theorem handV_in {h : Heap} {H : Hid} {v : V} {x : Value} (e : handV v = true) (r : VR prog w h H v x) : handedIn x = true := by
  cases r <;> first | rfl | cases e
theorem no_any {es : List DictEntry} {ks : List Str} {name : Str} (hk : ∀ (i : Nat) e, es[i]? = some e → ∃ nm t, ks[i]? = some nm ∧ e.key = .str nm t) (hn : ks.Nodup) (hj : ks[es.length]? = some name) : es.any (·.key.isStr name) = false ∧ es.any (·.refKey) = false := by
  constructor
  · rw [List.any_eq_false]
    intro e he
    obtain ⟨i, hi, rfl⟩ := List.getElem_of_mem he
    obtain ⟨nm, t, h1, h2⟩ := hk i _ (List.getElem?_eq_getElem hi)
    rw [h2]
    have : nm ≠ name := fun q => by
      subst q
      have := (List.getElem?_inj (List.getElem?_eq_some_iff.mp h1).1 hn).mp (h1.trans hj.symm)
      omega
    simp [Value.isStr, this]
  · rw [List.any_eq_false]
    intro e he
    obtain ⟨i, hi, rfl⟩ := List.getElem_of_mem he
    obtain ⟨nm, t, h1, h2⟩ := hk i _ (List.getElem?_eq_getElem hi)
    unfold DictEntry.refKey
    rw [h2]
    exact Bool.false_ne_true
theorem Frm.setInst {h₀ h h' : Heap} {B : Hid} {O : List Addr} {σ : St} {k : Nat} {a dx C : Addr} {l l' : List V} (F : Frm prog w env lay h₀ B O h σ) (ha : O[k]? = some a) (hdx : O[k + 1]? = some dx) (hv : σ.owns[k]? = some (.inst C l)) (hn : σ.owns[k + 1]? = some .none)
    (kp : ∀ b o, b ≠ dx → h.get? b = some o → h'.get? b = some o) (he : ∃ o, h'.get? dx = some o) (r : OwnR prog w h' (hid B env O) O k a (.inst C l')) :
    Frm prog w env lay h₀ B O h' { σ with owns := σ.owns.set k (.inst C l') } :=
  have hm : dx ∈ O := List.mem_of_getElem? hdx
  have hh : hid B env O dx := .inr (.inr (.inr hm))
  have g := Frm.goesBut (B := B) (O := O) hh kp
  { ok := F.ok, glob := F.glob, blt := F.blt
    keep := fun b o e => kp b o (fun q => by have := (F.oNew dx hm).1; rw [← q, e] at this; cases this) (F.keep b o e)
    under := fun b hb => by
      by_cases q : b = dx
      · subst q; exact he
      · obtain ⟨o, e⟩ := F.under b hb
        exact ⟨o, kp b o q e⟩
    locN := F.locN, oNew := F.oNew, oNodup := F.oNodup, cApart := F.cApart
    cLoc := fun n c m => ⟨(F.cLoc n c m).1, let ⟨o, e⟩ := (F.cLoc n c m).2; ⟨o, kp _ _ (fun q => (F.oNew dx hm).2.2.1 n (q ▸ m)) e⟩⟩
    cNew := F.cNew
    oLen := by simp [F.oLen]
    vLen := F.vLen
    ns := let ⟨m, hn, hr⟩ := F.ns; ⟨m, hn.at' (fun o e => kp _ _ (Ne.symm (F.oNew dx hm).2.1) e), fun i x sl e1 e2 => (hr i x sl e1 e2).go g fun _ _ e => e⟩
    cs := fun i x kd sl e1 e2 e3 => let ⟨c, y, e4, ⟨o, e5, e5'⟩, e6⟩ := F.cs i x kd sl e1 e2 e3; ⟨c, y, e4, ⟨o, kp _ _ (fun q => (F.oNew dx hm).2.2.1 x (q ▸ e4)) e5, e5'⟩, e6.go g fun _ _ e => e⟩
    os := fun i b u e1 e2 => by
      by_cases hi : i = k
      · subst hi
        rw [ha] at e1
        cases e1
        rw [getElem?_set_self' e2]
        exact r
      · rw [List.getElem?_set_ne (Ne.symm hi)] at e2
        by_cases hi2 : i = k + 1
        · subst hi2
          rw [hdx] at e1
          cases e1
          rw [hn] at e2
          cases e2
          exact he
        · have hba : b ≠ dx := fun q => by
            subst q
            have li : i < O.length := (List.getElem?_eq_some_iff.mp e1).1
            exact hi2 ((List.getElem?_inj li F.oNodup).mp (e1.trans hdx.symm))
          have r1 := F.os i b u e1 e2
          refine r1.go g (fun _ _ e => e) (fun o e => kp b o hba e) fun c o e3 e => kp c o (fun q => ?_) e
          subst q
          have li : i + 1 < O.length := (List.getElem?_eq_some_iff.mp e3).1
          have : i + 1 = k + 1 := (List.getElem?_inj li F.oNodup).mp (e3.trans hdx.symm)
          exact hi (Nat.succ.inj this) }
noncomputable def isNoneV : Option V → Bool
  | some .none => true
  | _ => false
noncomputable def St.setA (σ : St) (k : Nat) (C : Addr) (attr : Str) (v : V) : Option St := match σ.owns[k]? with
  | some (.inst C' l) => if C' = C ∧ (flds C)[l.length]? = some attr ∧ handV v = true ∧ l.length ≤ 1000 ∧ isNoneV σ.owns[k + 1]? = true then some { σ with owns := σ.owns.set k (.inst C (l ++ [v])) } else none
  | _ => none
theorem stm_setA (i : Nat) (C : Addr) {x : Str} {kd : Acc} {px tpos pos : Pos} {attr : Str} {value : Expr} {f : St → Option V} (hf : Impl prog w K mg mb n env lay (eval value env) f) (hi : lay.names[i]? = some (x, kd) := by rfl) (hok : setOk K C attr = true := by kernel_rfl)
    (hs : swapsWith value (some (.Attribute (.Name x px) attr tpos)) pos.line env = pure false := by rfl) :
    ImplS prog w K mg mb n env lay (exec (.Assign [.Attribute (.Name x px) attr tpos] value pos) env) (fun σ => (f σ).bind fun v => (σ.ownAt i).bind fun k => (σ.setA k C attr v).bind fun σ' => some (.next, σ')) := by
  intro A s h₀ B O σ r σ' am b F e Q E h
  obtain ⟨v, ev, e⟩ := Option.bind_eq_some_iff.mp e
  obtain ⟨k, ek, e⟩ := Option.bind_eq_some_iff.mp e
  obtain ⟨σ₁, e1, e⟩ := Option.bind_eq_some_iff.mp e
  cases e
  refine plainObj_wpAny_Assign_Attribute (hf A s h₀ B O σ v am b F ev _ _ fun y s₁ k₁ r₁ => ?_) hs
  have F₁ := F.step k₁.kept
  refine ownAt_load hi F₁ ek fun a ha => ?_
  unfold St.setA at e1
  split at e1
  · rename_i C' l hl
    split at e1
    · rename_i hc
      cases e1
      obtain ⟨rfl, hfl, hhv, hlen, hnn⟩ := hc
      have hnone : σ.owns[k + 1]? = some V.none := by
        unfold isNoneV at hnn
        split at hnn
        · assumption
        · cases hnn
      obtain ⟨dx, es, m, h1, h2, h3, h4, h5, h6, h7⟩ := F₁.os k a _ ha hl
      rw [h4] at hfl
      obtain ⟨n1, n2⟩ := no_any h5 (flds_nodup _) hfl
      have hm : dx ∈ O := List.mem_of_getElem? h1
      have hadx : a ≠ dx := fun q => by
        subst q
        have li : k < O.length := (List.getElem?_eq_some_iff.mp ha).1
        have := (List.getElem?_inj li F.oNodup).mp (ha.trans h1.symm)
        omega
      refine set_own_dict (b.X.keeps F₁.keep) h2 h3 hok n1 n2 (h4 ▸ hlen) fun h' tk e he1 he2 kp hd' => ?_
      have g := Frm.goesBut (env := env) (B := B) (O := O) (.inr (.inr (.inr hm))) kp
      have r' : OwnR prog w h' (hid B env O) O k a (.inst C' (l ++ [v])) := by
        refine ⟨dx, es ++ [e], m + 1, h1, kp a _ hadx h2, hd', by simp [h4], fun i e' q => ?_, fun i e' q => ?_, fun i v' e' q1 q2 => ?_⟩
        · by_cases hi : i < es.length
          · rw [List.getElem?_append_left hi] at q
            exact h5 i e' q
          · rw [List.getElem?_append_right (Nat.le_of_not_lt hi)] at q
            have hi0 : i - es.length = 0 := by
              have := (List.getElem?_eq_some_iff.mp q).1
              simp at this
              omega
            rw [hi0] at q
            cases q
            have : i = es.length := by omega
            subst this
            exact ⟨_, _, hfl, he1⟩
        · by_cases hi : i < es.length
          · rw [List.getElem?_append_left hi] at q
            exact h6 i e' q
          · rw [List.getElem?_append_right (Nat.le_of_not_lt hi)] at q
            have hi0 : i - es.length = 0 := by
              have := (List.getElem?_eq_some_iff.mp q).1
              simp at this
              omega
            rw [hi0] at q
            cases q
            rw [he2]
            exact handV_in hhv r₁
        · by_cases hi : i < es.length
          · rw [List.getElem?_append_left hi] at q2
            rw [List.getElem?_append_left (h4 ▸ hi)] at q1
            exact (h7 i v' e' q1 q2).go g
          · rw [List.getElem?_append_right (Nat.le_of_not_lt hi)] at q2
            rw [List.getElem?_append_right (h4 ▸ Nat.le_of_not_lt hi), h4] at q1
            have hi0 : i - es.length = 0 := by
              have := (List.getElem?_eq_some_iff.mp q2).1
              simp at this
              omega
            rw [hi0] at q1 q2
            cases q1; cases q2
            rw [he2]
            exact r₁.go g
      have F₂ := F₁.setInst ha h1 hl hnone kp ⟨_, hd'⟩ r'
      exact h _ _ O (Mv.trans F₁ (Mv.of k₁) (Mv.setOwn (tk := tk) hm kp)) F₂ rfl
    · cases e1
  · cases e1
end Mine
end Core20_part
section Core21_part
open PySem PySem.W PyProof.Rows PySem.Calls
set_option Elab.async false
set_option maxRecDepth 100000
namespace Mine
variable {prog : Program} {w : World} {K : Frag} {mg mb : Str → Option Value} {n : Nat} {env : Env} {lay : Lay}
noncomputable def initStO (lay : Lay) (C : Addr) (args : List V) : St := { vars := .own 0 :: (args.map Slot.val ++ List.replicate (lay.names.length - (args.length + 1)) Slot.no), owns := [.inst C [], .none] }
noncomputable def retI (C : Addr) : Option (Fl × St) → Option (List V)
  | some (Fl.next, σ) => match (σ.owns[0]? : Option V) with
    | some (V.inst C' l) => if C' = C then some l else none
    | _ => none
  | _ => none
noncomputable def InitSpec (prog : Program) (w : World) (K : Frag) (mg mb : Str → Option Value) (n : Nat) (f C : Addr) (F : List V → Option (List V)) : Prop :=
  ∀ A s h₀ B x dx args xs l, Amb n A → Base K mg mb h₀ → Kept h₀ s.heap → Under B s.heap → h₀.get? x = none → h₀.get? dx = none → x ≠ dx → ¬ B x → ¬ B dx → s.heap.get? x = some (instObj C dx) → s.heap.get? dx = some emptyDict → F args = some l →
    Items prog w s.heap (fun a => B a ∨ a = x ∨ a = dx) args xs → ∀ R : Result → Shared → Prop, (∀ s', Same s s' → Kept h₀ s'.heap → VR prog w s'.heap B (.inst C l) (.ref x) → R (.ok (.ret .none)) s') → codeAny (model prog w) A (.call (.ref f) ⟨.ref x :: xs, []⟩) R s
theorem init_spec {f C : Addr} {oc : Value} {od : Option Addr} {osl : Array (Option Value)} {fd : FuncData} {body : List Stmt} {ps : List Str} {fb : St → Option (Fl × St)}
    (ho : K.lookup f = some ⟨oc, od, .func fd, osl⟩) (hbody : fd.body = .stmts body) (hclo : fd.closure = []) (hcd : codeIn K fd.code fd.qualname = true)
    (hok : ∀ L, defOk fd lay ps L = true)
    (hbind : ∀ xs : List Value, xs.length = ps.length → bindArgs fd ⟨xs, []⟩ = pure (ps.zip xs))
    (hb : ∀ L, ImplS prog w K mg mb n (callEnvC fd L f) lay (execs body (callEnvC fd L f)) fb)
    (hco : fd.scope.isCoroutine = false := by rfl) (hgen : fd.scope.isGenerator = false := by rfl) :
    InitSpec prog w K mg mb (n + 1) f C (fun args => if args.length + 1 = ps.length then retI C (fb (initStO lay C args)) else none) := by
  intro A s h₀ B x dx args xs l am b kp0 u hx0 hdx0 hxd hBx hBdx hgx hgdx e it R h
  dsimp only at e
  split at e
  · rename_i hlen
    have hlx : (Value.ref x :: xs).length = ps.length := by rw [List.length_cons, ← it.1]; exact hlen
    have hok' := hok s.heap.objs.size
    unfold defOk at hok'
    simp only [Bool.and_eq_true, decide_eq_true_eq, beq_iff_eq, List.all_eq_true, Bool.or_eq_true, Bool.not_eq_true'] at hok'
    obtain ⟨⟨⟨⟨⟨⟨hl1, hl2⟩, hl3⟩, hl4⟩, hl5⟩, hl6⟩, hl7⟩ := hok'
    have hl1' := hl1
    unfold layOk at hl1'
    simp only [Bool.and_eq_true, beq_iff_eq, List.all_eq_true, Bool.not_eq_true', decide_eq_true_eq] at hl1'
    have hfn := hl1'.1.1.1
    have hzl : (ps.zip (Value.ref x :: xs)).map (·.1) = ps := List.map_fst_zip (by omega)
    have hat : ∀ (i : Nat) y k, lay.names[i]? = some (y, k) → i < ps.length → ps[i]? = some y := by
      intro i y k e1 hi
      rw [← hl3, List.getElem?_map, List.getElem?_take_of_lt hi, e1]
      rfl
    have hnd : ps.Nodup := by
      have := hl1'.1.2
      rw [← hl3, List.map_take]
      exact this.sublist (List.take_sublist ..)
    have hpk : ∀ y ∈ ps, ∃ k, (y, k) ∈ lay.names ∧ k.fits (fd.scope.names.lookup y) = true := by
      intro y hy
      rw [← hl3] at hy
      obtain ⟨⟨z, k⟩, hz, rfl⟩ := List.mem_map.mp hy
      have hz' := List.mem_of_mem_take hz
      exact ⟨k, hz', (hl1'.1.1.2 _ hz').1.1⟩
    refine codeAny_call_cells (fd := fd) (body := body) (binds := ps.zip (Value.ref x :: xs)) (by have := am.depth; omega) ((b.X.keeps kp0) _ _ ho) rfl (b.nl.keeps kp0) (codeRec_of (b.X.keeps kp0) hcd) hbody (hbind (Value.ref x :: xs) hlx) hclo ?_ ?_ hco hgen hfn
    · intro y hy
      have hy1 : y.1 ∈ ps := by rw [← hzl]; exact List.mem_map_of_mem hy
      obtain ⟨k, hk1, hk2⟩ := hpk y.1 hy1
      cases k with
      | loc => exact .inl (Acc.fits_loc hk2)
      | cell =>
        refine .inr ⟨Acc.fits_cell hk2, ?_⟩
        have := hl5 _ hk1
        simpa using this
      | cap => have := hl4 _ hk1; simp at this
    · intro s₁ X
      obtain ⟨⟨h₁, tk₁, rfl⟩, hns, hkeep, hfresh⟩ := X.toInCall
      have hzi : ∀ (i : Nat) y k, lay.names[i]? = some (y, k) → (hi : i < ps.length) → ∃ z, (Value.ref x :: xs)[i]? = some z ∧ (ps.zip (Value.ref x :: xs))[i]? = some (y, z) := by
        intro i y k e1 hi
        have := hat i y k e1 hi
        have hix : i < (Value.ref x :: xs).length := by omega
        refine ⟨(Value.ref x :: xs)[i], List.getElem?_eq_getElem hix, ?_⟩
        rw [List.getElem?_zip_eq_some]
        exact ⟨this, List.getElem?_eq_getElem hix⟩
      have gone : ∀ a, s.heap.objs.size ≤ a → s.heap.get? a = none := fun a ha => get_size_none _ ha
      have gone0 : ∀ a, s.heap.objs.size ≤ a → h₀.get? a = none := fun a ha => by
        cases q : h₀.get? a with
        | none => rfl
        | some o => have := kp0 a o q; rw [gone a ha] at this; cases this
      have hltx : x < s.heap.objs.size := Heap.lt_size hgx
      have hltd : dx < s.heap.objs.size := Heap.lt_size hgdx
      have hsl0 : ∀ sl, (initStO lay C args).vars[0]? = some sl → sl = .own 0 := fun sl e1 => by cases e1; rfl
      have hslot : ∀ (i : Nat) sl, (initStO lay C args).vars[i + 1]? = some sl → (∃ hv : i < args.length, sl = .val args[i]) ∨ (args.length ≤ i ∧ sl = .no) := by
        intro i sl e1
        unfold initStO at e1
        rw [List.getElem?_cons_succ] at e1
        by_cases hi : i < args.length
        · rw [List.getElem?_append_left (by simpa using hi)] at e1
          rw [List.getElem?_map, List.getElem?_eq_getElem hi] at e1
          exact .inl ⟨hi, (Option.some.inj e1).symm⟩
        · rw [List.getElem?_append_right (by simpa using Nat.le_of_not_lt hi)] at e1
          rw [List.getElem?_replicate] at e1
          split at e1
          · exact .inr ⟨Nat.le_of_not_lt hi, (Option.some.inj e1).symm⟩
          · cases e1
      have hg : Goes s.heap (fun a => B a ∨ a = x ∨ a = dx) h₁ (hid B (callEnvC fd s.heap.objs.size f) [x, dx]) := by
        refine ⟨fun b o _ e => hkeep b o e, fun a o na e => ?_⟩
        have hlt := Heap.lt_size e
        rintro (q | q | ⟨n', q⟩ | q)
        · exact na (.inl q)
        · have q' : a = s.heap.objs.size := q
          exact Nat.lt_irrefl _ (q' ▸ hlt)
        · have q' : s.heap.objs.size < a := X.above n' a (mem_of_lookup q)
          exact Nat.lt_asymm q' hlt
        · simp only [List.mem_cons, List.not_mem_nil, or_false] at q
          exact na (.inr q)
      have slotOk : ∀ (i : Nat) y k sl z, lay.names[i]? = some (y, k) → (initStO lay C args).vars[i]? = some sl → (i < ps.length → (Value.ref x :: xs)[i]? = some z) → SlotR prog w h₁ (hid B (callEnvC fd s.heap.objs.size f) [x, dx]) [x, dx] sl (if i < ps.length then some z else none) := by
        intro i y k sl z e1 e2 e3
        cases i with
        | zero =>
          rw [hsl0 sl e2]
          have h0 : 0 < ps.length := by omega
          have := e3 h0
          cases this
          rw [if_pos h0]
          exact ⟨x, rfl, rfl⟩
        | succ i =>
          rcases hslot i sl e2 with ⟨hi, rfl⟩ | ⟨_, rfl⟩
          · have h0 : i + 1 < ps.length := by omega
            have := e3 h0
            rw [List.getElem?_cons_succ] at this
            rw [if_pos h0]
            exact ⟨z, rfl, (it.2 i _ _ (List.getElem?_eq_getElem hi) this).go hg⟩
          · trivial
      have F : Frm prog w (callEnvC fd s.heap.objs.size f) lay h₀ B [x, dx] h₁ (initStO lay C args) := {
        ok := hl1, glob := hl6, blt := hl7, keep := Kept.trans kp0 hkeep, under := u.keeps hkeep
        locN := gone0 _ (Nat.le_refl _)
        oNew := fun a ha => by
          simp only [List.mem_cons, List.not_mem_nil, or_false] at ha
          have hne : a < s.heap.objs.size ∧ h₀.get? a = none ∧ ¬ B a := by
            rcases ha with rfl | rfl
            · exact ⟨hltx, hx0, hBx⟩
            · exact ⟨hltd, hdx0, hBdx⟩
          refine ⟨hne.2.1, Nat.ne_of_lt hne.1, fun n' q => ?_, hne.2.2⟩
          have q' : s.heap.objs.size < a := X.above n' a (mem_of_lookup q)
          exact Nat.lt_asymm q' hne.1
        oNodup := by simpa using hxd
        cApart := X.apart
        cLoc := fun n' c q => ⟨fun z => by have := X.above n' c (mem_of_lookup q); rw [z] at this; exact Nat.lt_irrefl _ this, let ⟨o, e1, _⟩ := X.cell n' c q; ⟨o, e1⟩⟩
        cNew := fun y _ c q => gone0 c (Nat.le_of_lt (X.above y c (mem_of_lookup q)))
        oLen := rfl
        vLen := by unfold initStO; simp; omega
        ns := ⟨_, hns, fun i y sl e1 e2 => by
          by_cases hi : i < ps.length
          · obtain ⟨z, e3, e4⟩ := hzi i y _ e1 hi
            have hkd : (callEnvC fd s.heap.objs.size f).kindOf y = some .local := Acc.fits_loc (hl1'.1.1.2 _ (List.mem_of_getElem? e1)).1.1
            have := slotOk i y _ sl z e1 e2 fun _ => e3
            rw [if_pos hi] at this
            rw [bindL_get _ _ _ i y z (by rw [hzl]; exact hnd) e4 hkd]
            exact this
          · cases i with
            | zero => omega
            | succ i =>
              rcases hslot i sl e2 with ⟨hi', rfl⟩ | ⟨_, rfl⟩
              · omega
              · trivial⟩
        cs := fun i y k sl e1 hk e2 => by
          have hm := List.mem_of_getElem? e1
          have hfit := (hl1'.1.1.2 _ hm).1.1
          cases k with
          | loc => exact absurd rfl hk
          | cap => have := hl4 _ hm; simp at this
          | cell =>
            have hs := hl5 _ hm
            have hs : ((cellsFrom (s.heap.objs.size + 1) fd.scope.names []).lookup y).isSome = true := by
              rcases hs with q | q
              · cases q
              · exact q
            obtain ⟨c, hc⟩ := Option.isSome_iff_exists.mp hs
            refine ⟨c, _, hc, X.cell y c hc, ?_⟩
            by_cases hi : i < ps.length
            · obtain ⟨z, e3, e4⟩ := hzi i y _ e1 hi
              have hkd : (callEnvC fd s.heap.objs.size f).kindOf y = some .cell := Acc.fits_cell hfit
              have := slotOk i y _ sl z e1 e2 fun _ => e3
              rw [if_pos hi] at this
              rw [bindC_get _ _ _ i y z (by rw [hzl]; exact hnd) e4 hkd]
              exact this
            · cases i with
              | zero => omega
              | succ i =>
                rcases hslot i sl e2 with ⟨hi', rfl⟩ | ⟨_, rfl⟩
                · omega
                · trivial
        os := fun k a v e1 e2 => by
          match k with
          | 0 =>
            cases e1
            cases e2
            exact ⟨dx, [], 0, rfl, hkeep _ _ hgx, hkeep _ _ hgdx, rfl, fun i e q => by simp at q, fun i e q => by simp at q, fun i v e q => by simp at q⟩
          | 1 =>
            cases e1
            cases e2
            exact ⟨_, hkeep _ _ hgdx⟩
          | k + 2 => cases e1 }
      cases hfb : fb (initStO lay C args) with
      | none => rw [hfb] at e; cases e
      | some p =>
      obtain ⟨r, σ'⟩ := p
      rw [hfb] at e
      refine hb s.heap.objs.size (A.deeper _) _ h₀ B [x, dx] _ r σ' ⟨am.handled, by have := am.depth; show A.depth + 1 + 4 * n < _; omega, by have := am.units; show A.units + 3 + 40 * n + 40 < _; omega⟩ b F hfb _ _ fun y s' O' k F' q => ?_
      cases r with
      | next =>
        cases q
        unfold retI at e
        dsimp only at e
        split at e
        · rename_i C' l' how
          split at e
          · rename_i hC
            subst hC
            cases e
            obtain ⟨dx', es, m, h1, h2, h3, h4, h5, h6, h7⟩ := F'.os 0 x _ (k.pre 0 x rfl) how
            have hdd : dx' = dx := by
              have := k.pre 1 dx rfl
              rw [h1] at this
              exact Option.some.inj this
            subst hdd
            refine h s' (Same.trans ⟨_, _, rfl⟩ k.same) F'.keep (.inst x dx' C' l es m h2 h3 hBx hBdx h4 h5 h6 fun i v e q1 q2 => (h7 i v e q1 q2).less fun a ha => .inl ha)
          · cases e
        · cases e
      | brk => cases e
      | cont => cases e
      | ret v' => cases e
  · cases e
noncomputable def ctorOk (K : Frag) (C f : Addr) : Bool := makesIn K C && (findIn K (.ref C) "__init__" == some (some (.ref f))) && (typeIn K (.ref f) == some (.type "function"))
theorem ctor_spec {f C : Addr} {F : List V → Option (List V)} (hi : InitSpec prog w K mg mb n f C F) (hok : ctorOk K C f = true := by kernel_rfl) : FnSpec prog w K mg mb (n + 1) (.ref C) (fun args => (F args).map (.inst C)) := by
  intro A s B args xs v am b u e it Q E h
  obtain ⟨l, el, rfl⟩ := Option.map_eq_some_iff.mp e
  unfold ctorOk at hok
  simp only [Bool.and_eq_true, beq_iff_eq] at hok
  obtain ⟨⟨h1, h2⟩, h3⟩ := hok
  refine wpAny_call ?_
  have X := b.X
  have hn1 : s.heap.get? s.heap.objs.size = none := get_size_none _ (Nat.le_refl _)
  have hn2 : s.heap.get? (s.heap.objs.size + 1) = none := get_size_none _ (Nat.le_succ _)
  obtain ⟨hh, g, d, t, os⟩ := s
  refine make_core (makes_of X h1) (looks_findIn X h2) (fun self => bind_fn X self h3) (.inl rfl) ?_
  have k : Kept hh ((hh.push emptyDict).push (instObj C hh.objs.size)) := (Kept.pushes _ _).push _
  have hgd : ((hh.push emptyDict).push (instObj C hh.objs.size)).get? hh.objs.size = some emptyDict := Heap.get?_push_of_some _ (Heap.get?_push_size _ rfl)
  have hgx : ((hh.push emptyDict).push (instObj C hh.objs.size)).get? (hh.objs.size + 1) = some (instObj C hh.objs.size) := by
    have := Heap.get?_push_size (hh.push emptyDict) (o := instObj C hh.objs.size) rfl
    rwa [Heap.size_push] at this
  have hw : (Code.builtin "type.__call__" ⟨.ref C :: xs, []⟩).weight ≤ 2 := by
    have : (Code.builtin "type.__call__" ⟨.ref C :: xs, []⟩).weight = (Code.builtin "type.__call__" ⟨[.ref 0], []⟩).weight := rfl
    rw [this]
    decide +kernel
  have hcu : (Code.builtin "type.__call__" ⟨.ref C :: xs, []⟩).cUnits ≤ 20 := by
    have : (Code.builtin "type.__call__" ⟨.ref C :: xs, []⟩).cUnits = (Code.builtin "type.__call__" ⟨[.ref 0], []⟩).cUnits := rfl
    rw [this]
    decide +kernel
  refine hi (A.under (.builtin "type.__call__" ⟨.ref C :: xs, []⟩)) ⟨_, g, d, t, os⟩ hh B (hh.objs.size + 1) hh.objs.size args xs l ⟨am.handled, ?_, ?_⟩ b k (u.keeps k) hn2 hn1 (Nat.succ_ne_self _) (u.fresh hn2) (u.fresh hn1) hgx hgd el ?_ _ fun s' sm kp r => ?_
  · have := am.depth
    show A.depth + _ + 4 * n < _
    omega
  · have := am.units
    show A.units + _ + 40 * n + 40 < _
    omega
  · refine Items.go (h := hh) (H := B) ⟨fun b o _ e => k b o e, fun b o nb e q => ?_⟩ it
    have hlt := Heap.lt_size e
    rcases q with q | q | q
    · exact nb q
    · exact big1 hlt q
    · exact big0 hlt q
  · obtain ⟨h', tk', rfl⟩ := sm
    exact ⟨rfl, h _ _ ⟨⟨_, _, rfl⟩, kp⟩ r⟩
end Mine
end Core21_part
section Core22_part
open PySem PySem.W PyProof.Rows PySem.Calls
set_option Elab.async false
set_option genSizeOfSpec false
set_option genInjectivity false
set_option maxRecDepth 100000
namespace Mine
variable {prog : Program} {w : World} {K : Frag} {mg mb : Str → Option Value} {n : Nat} {env : Env} {lay : Lay}
theorem impl_dict0 {pos : Pos} : Impl prog w K mg mb n env lay (eval (.Dict [] [] pos) env) (fun _ => some (.dct [])) := by
  intro A s h₀ B O σ v am b F e Q E h
  cases e
  refine wpAny_Dict_empty (h _ _ (Step.push ..) (.dct _ [] [] (Heap.DictOf.new _) (fresh_big b F.keep) F.hidden.size rfl fun i v x e => by cases e))
inductive ImplDP (prog : Program) (w : World) (K : Frag) (mg mb : Str → Option Value) (n : Nat) (env : Env) (lay : Lay) : List (Sem Value × Sem Value) → (St → Option (List (V × V))) → Prop
  | nil : ImplDP prog w K mg mb n env lay [] (fun _ => some [])
  | cons {t u : Sem Value} {ps : List (Sem Value × Sem Value)} {f g : St → Option V} {r : St → Option (List (V × V))} : Impl prog w K mg mb n env lay t f → Impl prog w K mg mb n env lay u g → ImplDP prog w K mg mb n env lay ps r →
      ImplDP prog w K mg mb n env lay ((t, u) :: ps) (fun σ => (f σ).bind fun a => (g σ).bind fun b => (r σ).bind fun l => some ((a, b) :: l))
theorem impl_stand {t : Sem Value} {pos : Pos} {f : St → Option V} (hf : Impl prog w K mg mb n env lay t f) : Impl prog w K mg mb n env lay (do let x ← t; standAt pos; pure x) f := by
  intro A s h₀ B O σ v am b F e Q E h
  exact wpAny_bind (hf A s h₀ B O σ v am b F e _ _ fun x s₁ k₁ r₁ => wpAny_bind (wpAny_standAt (wpAny_pure (h x s₁ k₁ r₁))))
noncomputable def keysV : List (V × V) → Option (List (Key × V))
  | [] => some []
  | (a, b) :: r => (keyV a).bind fun k => (keysV r).map ((k, b) :: ·)
noncomputable def PItems (prog : Program) (w : World) (h : Heap) (H : Hid) : List (V × V) → List (Value × Value) → Prop
  | [], [] => True
  | (a, b) :: l, (x, y) :: xs => VR prog w h H a x ∧ VR prog w h H b y ∧ PItems prog w h H l xs
  | _, _ => False
theorem pairs_sound {A : Around} {h₀ : Heap} {B : Hid} {O : List Addr} {σ : St} (am : Amb n A) (b : Base K mg mb h₀) : ∀ {ts : List (Sem Value × Sem Value)} {f : St → Option (List (V × V))}, ImplDP prog w K mg mb n env lay ts f → ∀ {s : Shared} {l : List (V × V)}, Frm prog w env lay h₀ B O s.heap σ → f σ = some l →
    ∀ (Q : List (Value × Value) → Shared → Prop) E, (∀ xs s', Step s s' → PItems prog w s'.heap (hid B env O) l xs → Q xs s') → wpAny (model prog w) A (evalPairs ts) Q E s
  | _, _, .nil, s, l, F, e, Q, E, h => by
    cases e
    exact evalPairs_nil (h _ _ (Step.refl _) trivial)
  | _, _, .cons (f := f) (g := g) (r := r) hf hg hr, s, l, F, e, Q, E, h => by
    obtain ⟨va, ea, e⟩ := Option.bind_eq_some_iff.mp e
    obtain ⟨vb, eb, e⟩ := Option.bind_eq_some_iff.mp e
    obtain ⟨vl, el, e⟩ := Option.bind_eq_some_iff.mp e
    cases e
    refine evalPairs_cons (hf A s h₀ B O σ va am b F ea _ _ fun x s₁ k₁ r₁ => hg A s₁ h₀ B O σ vb am b (F.step k₁.kept) eb _ _ fun y s₂ k₂ r₂ => ?_)
    refine pairs_sound am b hr ((F.step k₁.kept).step k₂.kept) el _ _ fun xs s₃ k₃ r₃ => ?_
    exact h _ s₃ ((k₁.trans k₂).trans k₃) ⟨(r₁.keeps k₂.kept).keeps k₃.kept, r₂.keeps k₃.kept, r₃⟩
noncomputable def mergedV (l : List (Key × V)) : List (Key × V) := l.foldl (fun acc kv => storedV acc kv.1 kv.2) []
theorem carries_of {h : Heap} {H : Hid} : ∀ {l : List (V × V)} {xs : List (Value × Value)} {ks : List (Key × V)}, PItems prog w h H l xs → keysV l = some ks → ∃ kvs, Carries (keyKind prog w) xs kvs ∧
    ∀ (acc : List (Key × V)) (acc' : List (Key × Value)), DItems prog w h H acc acc' → DItems prog w h H (ks.foldl (fun acc kv => storedV acc kv.1 kv.2) acc) (merged acc' kvs)
  | [], [], ks, _, e => by cases e; exact ⟨[], trivial, fun acc acc' d => d⟩
  | (a, b) :: l, (x, y) :: xs, ks, ⟨p, q, r⟩, e => by
    obtain ⟨k, hk, e⟩ := Option.bind_eq_some_iff.mp e
    obtain ⟨ks', hks, rfl⟩ := Option.map_eq_some_iff.mp e
    obtain ⟨kvs, hc, hd⟩ := carries_of r hks
    exact ⟨(k, y) :: kvs, ⟨key_is hk p, rfl, hc⟩, fun acc acc' d => hd _ _ (d.stored q)⟩
  | [], _ :: _, _, p, _ => p.elim
  | _ :: _, [], _, p, _ => p.elim
theorem impl_dict {keys : List (Option Expr)} {values : List Expr} {pos : Pos} {ts : List (Sem Value × Sem Value)} {f : St → Option (List (V × V))} (hf : ImplDP prog w K mg mb n env lay ts f)
    (hshape : (evalEachOpt keys env).zip ((evalEach values env).map fun v => do let x ← v; standAt pos; pure x) = ts.map fun p => (some p.1, p.2)) (h0 : ts ≠ []) (hlen : ts.length ≤ 15) :
    Impl prog w K mg mb n env lay (eval (.Dict keys values pos) env) (fun σ => (f σ).bind fun l => (keysV l).map fun ks => .dct (mergedV ks)) := by
  intro A s h₀ B O σ v am b F e Q E h
  obtain ⟨l, el, e⟩ := Option.bind_eq_some_iff.mp e
  obtain ⟨ks, hks, rfl⟩ := Option.map_eq_some_iff.mp e
  have st : Step s { s with heap := s.heap.push { cls := .type "dict", data := .dict #[] } } := Step.push ..
  have hn : s.heap.get? s.heap.objs.size = none := get_size_none _ (Nat.le_refl _)
  have hB : ∀ b o, s.heap.get? b = some o → Bw B [s.heap.objs.size] b → B b := fun b o e q => q.elim id fun q => by rw [List.mem_singleton.mp q, hn] at e; cases e
  have F₁ : Frm prog w env lay h₀ (Bw B [s.heap.objs.size]) O (s.heap.push { cls := .type "dict", data := .dict #[] }) σ := F.reb st.kept (by
    rintro a (q | q)
    · obtain ⟨o, e⟩ := F.under a q
      exact ⟨o, st.kept a o e⟩
    · rw [List.mem_singleton.mp q]; exact ⟨_, Heap.get?_push_size _ rfl⟩) hB
  refine wpAny_Dict_pairs (knd := keyKind prog w) hshape h0 hlen (pairs_sound (s := { s with heap := s.heap.push { cls := .type "dict", data := .dict #[] } }) am b hf F₁ el _ _ fun xs s₁ k₁ it => ?_)
  obtain ⟨kvs, hc, hd⟩ := carries_of it hks
  have hD := (Heap.DictOf.new (knd := keyKind prog w) s.heap).at fun o e => k₁.kept _ o e
  refine ⟨kvs, hc, hD, fun h' hd' hs' => ?_⟩
  have kp : ∀ b o, b ≠ s.heap.objs.size → s₁.heap.get? b = some o → h'.get? b = some o := fun b o nb e => hs'.extBut b o nb e
  have st2 : Step s { s₁ with heap := h', toks := s₁.toks + xs.length } := by
    obtain ⟨h₁, tk, e⟩ := k₁.toSame
    refine ⟨⟨h', s₁.toks + xs.length, by rw [e]⟩, fun b o e => kp b o (fun q => by rw [q, hn] at e; cases e) (k₁.kept b o (st.kept b o e))⟩
  have di := hd [] [] ⟨rfl, fun i v x e => by cases e⟩
  refine h _ _ st2 (.dct _ (mergedV ks) _ hd' (fresh_big b F.keep) F.hidden.size di.1 fun i v x e1 e2 => ?_)
  refine (di.2 i v x e1 e2).go ⟨fun b o nb e => kp b o (fun q => nb (.inl (.inr (List.mem_singleton.mpr q)))) e, fun b o nb e q => nb ?_⟩
  rcases q with q | q | q | q
  · exact .inl (.inl q)
  · exact .inr (.inl q)
  · exact .inr (.inr (.inl q))
  · exact .inr (.inr (.inr q))
end Mine
end Core22_part
section Core23_part
open PySem PySem.W PyProof.Rows PySem.Calls
set_option Elab.async false
set_option maxRecDepth 100000
namespace Mine
variable {prog : Program} {w : World} {K : Frag} {mg mb : Str → Option Value} {n : Nat} {env : Env} {lay : Lay}
theorem impl_tupleE {elts : List Expr} {k : Nat} {pos : Pos} {f : St → Option (List V)} (hf : ImplEs prog w K mg mb n env lay elts f) :
    Impl prog w K mg mb n env lay (eval (.Tuple elts k pos) env) (fun σ => (f σ).bind fun l => if l.length ≤ sizeLine then some (.tup l) else none) := impl_tuple hf.toL
theorem impl_listE {elts : List Expr} {pos : Pos} {f : St → Option (List V)} (hf : ImplEs prog w K mg mb n env lay elts f) :
    Impl prog w K mg mb n env lay (eval (.List elts pos) env) (fun σ => (f σ).bind fun l => if l.length ≤ sizeLine then some (.lst l) else none) := impl_list hf.toL
theorem impl_dict1 {k v : Expr} {pos : Pos} {f g : St → Option V} (hf : Impl prog w K mg mb n env lay (eval k env) f) (hg : Impl prog w K mg mb n env lay (eval v env) g) :
    Impl prog w K mg mb n env lay (eval (.Dict [some k] [v] pos) env) (fun σ => ((f σ).bind fun a => (g σ).bind fun b => some [(a, b)]).bind fun l => (keysV l).map fun ks => .dct (mergedV ks)) :=
  (impl_dict (ts := [(eval k env, (do let x ← eval v env; standAt pos; pure x))]) (.cons hf (impl_stand hg) .nil) rfl (by simp) (by simp)).eq fun σ => rfl
theorem impl_comp1 {elt target iter : Expr} {ifs : List Expr} {scope : Scope} {pos : Pos} {fi : St → Option (List V)} {asg : V → St → Option St} {c : St → Option Bool} {f : St → Option V} (lay' : Lay) (caps : List (Option Nat))
    (hi : ImplI prog w K mg mb n env lay target (eval iter env) fi)
    (ha : ∀ cl C, ImplA prog w K mg mb n (compEnvX scope cl C env) lay' (assign target (compEnvX scope cl C env)) asg)
    (hc : ∀ cl C, ImplIfs prog w K mg mb n (compEnvX scope cl C env) lay' ifs c)
    (he : ∀ cl C, Impl prog w K mg mb n (compEnvX scope cl C env) lay' (eval elt (compEnvX scope cl C env)) f) (hok : compOk scope lay lay' caps = true := by kernel_rfl) (hs : ∀ x, foldedSetIterable iter env x = pure x := by intro _; rfl) :
    Impl prog w K mg mb n env lay (eval (.ListComp elt [⟨target, iter, ifs, 0⟩] scope pos) env) (compV fi caps asg c (fun σ => (f σ).bind fun v => σ.push 0 v)) := impl_comp (parts_one lay' caps hi ha hc he hok hs)
theorem impl_comp2 {elt target iter target' iter' : Expr} {ifs ifs' : List Expr} {scope : Scope} {pos : Pos} {fi fi' : St → Option (List V)} {asg asg' : V → St → Option St} {c c' : St → Option Bool} {f : St → Option V} (lay' : Lay) (caps : List (Option Nat))
    (hi : ImplI prog w K mg mb n env lay target (eval iter env) fi)
    (ha : ∀ cl C, ImplA prog w K mg mb n (compEnvX scope cl C env) lay' (assign target (compEnvX scope cl C env)) asg)
    (hc : ∀ cl C, ImplIfs prog w K mg mb n (compEnvX scope cl C env) lay' ifs c)
    (hi' : ∀ cl C, ImplI prog w K mg mb n (compEnvX scope cl C env) lay' target' (eval iter' (compEnvX scope cl C env)) fi')
    (ha' : ∀ cl C, ImplA prog w K mg mb n (compEnvX scope cl C env) lay' (assign target' (compEnvX scope cl C env)) asg')
    (hc' : ∀ cl C, ImplIfs prog w K mg mb n (compEnvX scope cl C env) lay' ifs' c')
    (he : ∀ cl C, Impl prog w K mg mb n (compEnvX scope cl C env) lay' (eval elt (compEnvX scope cl C env)) f) (hok : compOk scope lay lay' caps = true := by kernel_rfl) (hs : ∀ x, foldedSetIterable iter env x = pure x := by intro _; rfl)
    (hs' : ∀ env x, foldedSetIterable iter' env x = pure x := by intro _ _; rfl) :
    Impl prog w K mg mb n env lay (eval (.ListComp elt [⟨target, iter, ifs, 0⟩, ⟨target', iter', ifs', 0⟩] scope pos) env) (compV fi caps asg c (fun σ => (fi' σ).bind fun vs => loopC asg' c' (fun σ => (f σ).bind fun v => σ.push 0 v) vs σ)) := impl_comp (parts_two lay' caps hi ha hc hi' ha' hc' he hok hs hs')
theorem stm_comp1 (i : Nat) {elt target iter : Expr} {ifs : List Expr} {scope : Scope} {pos : Pos} {fi : St → Option (List V)} {asg : V → St → Option St} {c : St → Option Bool} {f : St → Option V} {x : Str} {pos' spos : Pos} (lay' : Lay) (caps : List (Option Nat))
    (hii : ImplI prog w K mg mb n env lay target (eval iter env) fi)
    (ha : ∀ cl C, ImplA prog w K mg mb n (compEnvX scope cl C env) lay' (assign target (compEnvX scope cl C env)) asg)
    (hc : ∀ cl C, ImplIfs prog w K mg mb n (compEnvX scope cl C env) lay' ifs c)
    (he : ∀ cl C, Impl prog w K mg mb n (compEnvX scope cl C env) lay' (eval elt (compEnvX scope cl C env)) f) (hok : compOk scope lay lay' caps = true := by kernel_rfl) (hs : ∀ x, foldedSetIterable iter env x = pure x := by intro _; rfl)
    (hi : lay.names[i]? = some (x, .loc) := by rfl)
    (hl : ((pos'.line == (Expr.ListComp elt [⟨target, iter, ifs, 0⟩] scope pos).pos.line) && !(scope.names.any fun (n, k) => n == x && (k == .local || k == .cell))) = true := by kernel_rfl) :
    ImplS prog w K mg mb n env lay (exec (.Assign [.Name x pos'] (.ListComp elt [⟨target, iter, ifs, 0⟩] scope pos) spos) env) (fun σ => (compL fi caps asg c (fun σ => (f σ).bind fun v => σ.push 0 v) σ).bind fun l => some (.next, σ.put i (.val (.lst l)))) :=
  stm_comp i (parts_one lay' caps hii ha hc he hok hs) hi hl
theorem init_specE {f C : Addr} {oc : Value} {od : Option Addr} {osl : Array (Option Value)} {fd : FuncData} {body : List Stmt} {fb : St → Option (Fl × St)} {F : List V → Option (List V)} (lay : Lay) (ps : List Str)
    (ho : K.lookup f = some ⟨oc, od, .func fd, osl⟩) (hbody : fd.body = .stmts body) (hclo : fd.closure = []) (hcd : codeIn K fd.code fd.qualname = true)
    (hok : ∀ L, defOk fd lay ps L = true)
    (hbind : ∀ xs : List Value, xs.length = ps.length → bindArgs fd ⟨xs, []⟩ = pure (ps.zip xs))
    (hb : ∀ L, ImplS prog w K mg mb n (callEnvC fd L f) lay (execs body (callEnvC fd L f)) fb)
    (he : ∀ args l, F args = some l → args.length + 1 = ps.length ∧ retI C (fb (initStO lay C args)) = some l)
    (hco : fd.scope.isCoroutine = false := by rfl) (hgen : fd.scope.isGenerator = false := by rfl) :
    InitSpec prog w K mg mb (n + 1) f C F := by
  intro A s h₀ B x dx args xs l am b kp0 u hx0 hdx0 hxd hBx hBdx hgx hgdx e it R h
  obtain ⟨h1, h2⟩ := he args l e
  refine init_spec (C := C) ho hbody hclo hcd hok hbind hb hco hgen A s h₀ B x dx args xs l am b kp0 u hx0 hdx0 hxd hBx hBdx hgx hgdx ?_ it R h
  show (if args.length + 1 = ps.length then retI C (fb (initStO lay C args)) else none) = _
  rw [if_pos h1]
  exact h2
theorem fn_codeE {f : Addr} {oc : Value} {od : Option Addr} {osl : Array (Option Value)} {fd : FuncData} {body : List Stmt} {fb : St → Option (Fl × St)} {F : List V → Option V} (lay : Lay) (ps : List Str)
    (ho : K.lookup f = some ⟨oc, od, .func fd, osl⟩) (hbody : fd.body = .stmts body) (hclo : fd.closure = []) (hcd : codeIn K fd.code fd.qualname = true)
    (hok : ∀ L, defOk fd lay ps L = true)
    (hbind : ∀ xs : List Value, xs.length = ps.length → bindArgs fd ⟨xs, []⟩ = pure (ps.zip xs))
    (hb : ∀ L, ImplS prog w K mg mb n (callEnvC fd L f) lay (execs body (callEnvC fd L f)) fb)
    (he : ∀ args v, F args = some v → args.length = ps.length ∧ retV (fb (initSt lay args)) = some v)
    (hco : fd.scope.isCoroutine = false := by rfl) (hgen : fd.scope.isGenerator = false := by rfl) :
    ∀ A s B args xs v, Amb (n + 1) A → Base K mg mb s.heap → Under B s.heap → F args = some v → Items prog w s.heap B args xs →
    ∀ R : Result → Shared → Prop, (∀ x s', Step s s' → VR prog w s'.heap B v x → R (.ok (.ret x)) s') → codeAny (model prog w) A (.call (.ref f) ⟨xs, []⟩) R s := by
  intro A s B args xs v am b u e it R h
  obtain ⟨h1, h2⟩ := he args v e
  exact fn_code ho hbody hclo hcd hok hbind hb hco hgen A s B args xs v am b u (by rw [if_pos h1]; exact h2) it R h
end Mine
end Core23_part
section L1g1_part
open PySem PySem.W PyProof.Rows PySem.Calls
set_option Elab.async false
set_option maxRecDepth 100000
set_option maxHeartbeats 1000000
namespace Mine
variable {prog : Program} {w : World} {mg mb : Str → Option Value} {n : Nat}
theorem fill_L1g1 : Challenge.rw_pg0229_01 = Challenge.rw_pg0229_01 ∧ Mine.kTop = Mine.kTop := by
  k_fill
  exact ⟨rfl, rfl⟩
noncomputable def lay_tcInit : Lay := { names := [(Str.ofString "self", .loc), (Str.ofString "comp_select_list", .loc)], globs := [] }
noncomputable def tcInit_body : St → Option (Fl × St) := (thenS (fun (σ : St) => ((fun (σ : St) => σ.get 1) σ).bind fun v => (σ.ownAt 0).bind fun k => (σ.setA k clsComp (Str.ofString "comp_select_list") v).bind fun σ2 => some (Fl.next, σ2)) (fun (σ : St) => some (Fl.next, σ)))
noncomputable def tcInitF (args : List V) : Option (List V) := if args.length + 1 = 2 then retI clsComp (tcInit_body (initStO lay_tcInit clsComp args)) else none
theorem tcInit_spec : InitSpec prog w (Mine.kTop w.params) mg mb (n + 1) 35 clsComp tcInitF := by
  refine' init_specE (fb := _) lay_tcInit [Str.ofString "self", Str.ofString "comp_select_list"] (by k_is) rfl rfl (by k_is) ?ok ?bind ?hb ?he
  case ok => intro L; kernel_rfl
  case bind => intro xs h; obtain ⟨x0, x1, rfl⟩ := len2 h; rfl
  case hb =>
    intro L
    generalize callEnvC _ L 35 = env
    refine' stm_cons ?_ ?_
    refine' stm_setA 0 clsComp ?_
    refine' impl_name 1
    refine' stm_nil
  case he => exact fun args v e => if_some e
noncomputable def lay_compare : Lay := { names := [(Str.ofString "self", .loc), (Str.ofString "left", .loc), (Str.ofString "right", .loc), (Str.ofString "index", .loc), (Str.ofString "direction", .loc), (Str.ofString "l", .loc), (Str.ofString "r", .loc)], globs := [] }
noncomputable def compare_body : St → Option (Fl × St) := (thenS (fun (σ : St) => ((fun (σ : St) => ((fun (σ : St) => ((fun (σ : St) => σ.get 0) σ).bind (fldV clsComp 0)) σ).bind iterV) σ).bind fun vs => loopF (asgT [(fun (v : V) (σ : St) => some (σ.put 3 (Slot.val v))), (fun (v : V) (σ : St) => some (σ.put 4 (Slot.val v)))]) (thenS (fun (σ : St) => ((fun (σ : St) => ((fun (σ : St) => σ.get 1) σ).bind fun a => ((fun (σ : St) => σ.get 3) σ).bind fun b => itemV a b) σ).bind fun v => some (Fl.next, σ.put 5 (Slot.val v))) (thenS (fun (σ : St) => ((fun (σ : St) => ((fun (σ : St) => σ.get 2) σ).bind fun a => ((fun (σ : St) => σ.get 3) σ).bind fun b => itemV a b) σ).bind fun v => some (Fl.next, σ.put 6 (Slot.val v))) (thenS (fun (σ : St) => ((fun (σ : St) => ((fun (σ : St) => σ.get 5) σ).bind fun a => ((fun (σ : St) => σ.get 6) σ).bind fun b => cmpB .Lt a b) σ).bind fun b => if b then (thenS (fun (σ : St) => ((fun (σ : St) => ((fun (σ : St) => σ.get 4) σ).bind negV) σ).bind fun v => some (Fl.ret v, σ)) (fun (σ : St) => some (Fl.next, σ))) σ else (fun (σ : St) => some (Fl.next, σ)) σ) (thenS (fun (σ : St) => ((fun (σ : St) => ((fun (σ : St) => σ.get 5) σ).bind fun a => ((fun (σ : St) => σ.get 6) σ).bind fun b => cmpB .Gt a b) σ).bind fun b => if b then (thenS (fun (σ : St) => ((fun (σ : St) => σ.get 4) σ).bind fun v => some (Fl.ret v, σ)) (fun (σ : St) => some (Fl.next, σ))) σ else (fun (σ : St) => some (Fl.next, σ)) σ) (fun (σ : St) => some (Fl.next, σ)))))) vs σ) (thenS (fun (σ : St) => ((fun (_ : St) => some (V.int 0)) σ).bind fun v => some (Fl.ret v, σ)) (fun (σ : St) => some (Fl.next, σ))))
noncomputable def compareF (args : List V) : Option V := if args.length = 3 then retV (compare_body (initSt lay_compare args)) else none
theorem compare_spec : FnSpec prog w (Mine.kTop w.params) mg mb (n + 2) (.ref 42) compareF := by
  refine' fn_specE (fb := _) lay_compare [Str.ofString "self", Str.ofString "left", Str.ofString "right"] (by k_is) rfl rfl (by k_is) ?ok ?bind ?hb ?he
  case ok => intro L; kernel_rfl
  case bind => intro xs h; obtain ⟨x0, x1, x2, rfl⟩ := len3 h; rfl
  case hb =>
    intro L
    generalize callEnvC _ L 42 = env
    refine' stm_cons ?_ ?_
    refine' stm_for ?_ ?_ ?_
    refine' impli_val ?_
    refine' impl_attr clsComp 0 ?_
    refine' impl_name 0
    refine' tgt_tuple ?_
    refine' ImplAs.cons ?_ ?_
    refine' tgt_name 3
    refine' ImplAs.cons ?_ ?_
    refine' tgt_name 4
    exact ImplAs.nil
    refine' stm_cons ?_ ?_
    refine' stm_assign 5 ?_
    refine' impl_sub ?_ ?_
    refine' impl_name 1
    refine' impl_name 3
    refine' stm_cons ?_ ?_
    refine' stm_assign 6 ?_
    refine' impl_sub ?_ ?_
    refine' impl_name 2
    refine' impl_name 3
    refine' stm_cons ?_ ?_
    refine' stm_if ?_ ?_ ?_
    refine' test_cmp ?_ ?_
    refine' impl_name 5
    refine' impl_name 6
    refine' stm_cons ?_ ?_
    refine' stm_ret ?_
    refine' impl_neg ?_
    refine' impl_name 4
    refine' stm_nil
    refine' stm_nil
    refine' stm_cons ?_ ?_
    refine' stm_if ?_ ?_ ?_
    refine' test_cmp ?_ ?_
    refine' impl_name 5
    refine' impl_name 6
    refine' stm_cons ?_ ?_
    refine' stm_ret ?_
    refine' impl_name 4
    refine' stm_nil
    refine' stm_nil
    refine' stm_nil
    refine' stm_cons ?_ ?_
    refine' stm_ret ?_
    refine' impl_int
    refine' stm_nil
  case he => exact fun args v e => if_some e
theorem tc_ctor : FnSpec prog w (Mine.kTop w.params) mg mb (n + 2) (.ref 45) (fun args => (tcInitF args).map (.inst clsComp)) := ctor_spec tcInit_spec
end Mine
end L1g1_part
section L1g2_part
open PySem PySem.W PyProof.Rows PySem.Calls
set_option Elab.async false
set_option maxRecDepth 100000
set_option maxHeartbeats 1000000
namespace Mine
variable {prog : Program} {w : World} {mg mb : Str → Option Value} {n : Nat}
noncomputable def lay_addCallers : Lay := { names := [(Str.ofString "target", .loc), (Str.ofString "source", .loc), (Str.ofString "new_callers", .loc), (Str.ofString "func", .loc), (Str.ofString "caller", .loc)], globs := [Str.ofString "isinstance", Str.ofString "tuple", Str.ofString "zip"] }
noncomputable def addCallers_body : St → Option (Fl × St) := (thenS (fun (σ : St) => some (Fl.next, { vars := σ.vars.set 2 (.own σ.owns.length), owns := σ.owns ++ [.dct []] })) (thenS (fun (σ : St) => ((fun (σ : St) => ((fun (σ : St) => σ.get 0) σ).bind itemsV) σ).bind fun vs => loopF (asgT [(fun (v : V) (σ : St) => some (σ.put 3 (Slot.val v))), (fun (v : V) (σ : St) => some (σ.put 4 (Slot.val v)))]) (thenS (fun (σ : St) => ((fun (σ : St) => σ.get 4) σ).bind fun v => (σ.ownAt 2).bind fun k => ((fun (σ : St) => σ.get 3) σ).bind fun j => (σ.setD k j v).bind fun σ2 => some (Fl.next, σ2)) (fun (σ : St) => some (Fl.next, σ))) vs σ) (thenS (fun (σ : St) => ((fun (σ : St) => ((fun (σ : St) => σ.get 1) σ).bind itemsV) σ).bind fun vs => loopF (asgT [(fun (v : V) (σ : St) => some (σ.put 3 (Slot.val v))), (fun (v : V) (σ : St) => some (σ.put 4 (Slot.val v)))]) (thenS (fun (σ : St) => ((fun (σ : St) => ((fun (σ : St) => σ.get 3) σ).bind fun a => (σ.own 2).bind fun d => inD a d) σ).bind fun b => if b then (fun (_ : St) => none) σ else (thenS (fun (σ : St) => ((fun (σ : St) => σ.get 4) σ).bind fun v => (σ.ownAt 2).bind fun k => ((fun (σ : St) => σ.get 3) σ).bind fun j => (σ.setD k j v).bind fun σ2 => some (Fl.next, σ2)) (fun (σ : St) => some (Fl.next, σ))) σ) (fun (σ : St) => some (Fl.next, σ))) vs σ) (thenS (fun (σ : St) => (σ.own 2).bind fun v => (outV v).bind fun v => some (Fl.ret v, σ)) (fun (σ : St) => some (Fl.next, σ))))))
noncomputable def addCallersF (args : List V) : Option V := if args.length = 2 then retV (addCallers_body (initSt lay_addCallers args)) else none
theorem addCallers_spec : FnSpec prog w (Mine.kTop w.params) mg mb (n + 2) (.ref 63) addCallersF := by
  refine' fn_specE (fb := _) lay_addCallers [Str.ofString "target", Str.ofString "source"] (by k_is) rfl rfl (by k_is) ?ok ?bind ?hb ?he
  case ok => intro L; kernel_rfl
  case bind => intro xs h; obtain ⟨x0, x1, rfl⟩ := len2 h; rfl
  case hb =>
    intro L
    generalize callEnvC _ L 63 = env
    refine' stm_cons ?_ ?_
    refine' stm_ownD 2
    refine' stm_cons ?_ ?_
    refine' stm_for ?_ ?_ ?_
    refine' impli_items ?_
    refine' impl_name 0
    refine' tgt_tuple ?_
    refine' ImplAs.cons ?_ ?_
    refine' tgt_name 3
    refine' ImplAs.cons ?_ ?_
    refine' tgt_name 4
    exact ImplAs.nil
    refine' stm_cons ?_ ?_
    refine' stm_setD 2 ?_ ?_
    refine' impl_name 4
    refine' impl_name 3
    refine' stm_nil
    refine' stm_cons ?_ ?_
    refine' stm_for ?_ ?_ ?_
    refine' impli_items ?_
    refine' impl_name 1
    refine' tgt_tuple ?_
    refine' ImplAs.cons ?_ ?_
    refine' tgt_name 3
    refine' ImplAs.cons ?_ ?_
    refine' tgt_name 4
    exact ImplAs.nil
    refine' stm_cons ?_ ?_
    refine' stm_if ?_ ?_ ?_
    refine' test_inO 2 ?_
    refine' impl_name 3
    exact stm_no
    refine' stm_cons ?_ ?_
    refine' stm_setD 2 ?_ ?_
    refine' impl_name 4
    refine' impl_name 3
    refine' stm_nil
    refine' stm_nil
    refine' stm_cons ?_ ?_
    refine' stm_retO 2
    refine' stm_nil
  case he => exact fun args v e => if_some e
noncomputable def lay_addStats : Lay := { names := [(Str.ofString "target", .loc), (Str.ofString "source", .loc), (Str.ofString "cc", .loc), (Str.ofString "nc", .loc), (Str.ofString "tt", .loc), (Str.ofString "ct", .loc), (Str.ofString "callers", .loc), (Str.ofString "t_cc", .loc), (Str.ofString "t_nc", .loc), (Str.ofString "t_tt", .loc), (Str.ofString "t_ct", .loc), (Str.ofString "t_callers", .loc)], globs := [Str.ofString "add_callers"] }
noncomputable def addStats_body : St → Option (Fl × St) := (thenS (fun (σ : St) => ((fun (σ : St) => σ.get 1) σ).bind fun v => ((asgT [(fun (v : V) (σ : St) => some (σ.put 2 (Slot.val v))), (fun (v : V) (σ : St) => some (σ.put 3 (Slot.val v))), (fun (v : V) (σ : St) => some (σ.put 4 (Slot.val v))), (fun (v : V) (σ : St) => some (σ.put 5 (Slot.val v))), (fun (v : V) (σ : St) => some (σ.put 6 (Slot.val v)))]) v σ).bind fun σ2 => some (Fl.next, σ2)) (thenS (fun (σ : St) => ((fun (σ : St) => σ.get 0) σ).bind fun v => ((asgT [(fun (v : V) (σ : St) => some (σ.put 7 (Slot.val v))), (fun (v : V) (σ : St) => some (σ.put 8 (Slot.val v))), (fun (v : V) (σ : St) => some (σ.put 9 (Slot.val v))), (fun (v : V) (σ : St) => some (σ.put 10 (Slot.val v))), (fun (v : V) (σ : St) => some (σ.put 11 (Slot.val v)))]) v σ).bind fun σ2 => some (Fl.next, σ2)) (thenS (fun (σ : St) => ((fun (σ : St) => ((fun (σ : St) => ((fun (σ : St) => ((fun (σ : St) => σ.get 2) σ).bind fun a => ((fun (σ : St) => σ.get 7) σ).bind fun b => binV .Add a b) σ).bind fun a => ((fun (σ : St) => ((fun (σ : St) => ((fun (σ : St) => σ.get 3) σ).bind fun a => ((fun (σ : St) => σ.get 8) σ).bind fun b => binV .Add a b) σ).bind fun a => ((fun (σ : St) => ((fun (σ : St) => ((fun (σ : St) => σ.get 4) σ).bind fun a => ((fun (σ : St) => σ.get 9) σ).bind fun b => binV .Add a b) σ).bind fun a => ((fun (σ : St) => ((fun (σ : St) => ((fun (σ : St) => σ.get 5) σ).bind fun a => ((fun (σ : St) => σ.get 10) σ).bind fun b => binV .Add a b) σ).bind fun a => ((fun (σ : St) => ((fun (σ : St) => ((fun (σ : St) => ((fun (σ : St) => σ.get 11) σ).bind fun a => ((fun (σ : St) => ((fun (σ : St) => σ.get 6) σ).bind fun a => ((fun (_ : St) => some []) σ).bind fun l => some (a :: l)) σ).bind fun l => some (a :: l)) σ).bind addCallersF) σ).bind fun a => ((fun (_ : St) => some []) σ).bind fun l => some (a :: l)) σ).bind fun l => some (a :: l)) σ).bind fun l => some (a :: l)) σ).bind fun l => some (a :: l)) σ).bind fun l => some (a :: l)) σ).bind fun l => if l.length ≤ sizeLine then some (V.tup l) else none) σ).bind fun v => some (Fl.ret v, σ)) (fun (σ : St) => some (Fl.next, σ)))))
noncomputable def addStatsF (args : List V) : Option V := if args.length = 2 then retV (addStats_body (initSt lay_addStats args)) else none
theorem addStats_spec : FnSpec prog w (Mine.kTop w.params) mg mb (n + 3) (.ref 56) addStatsF := by
  refine' fn_specE (fb := _) lay_addStats [Str.ofString "target", Str.ofString "source"] (by k_is) rfl rfl (by k_is) ?ok ?bind ?hb ?he
  case ok => intro L; kernel_rfl
  case bind => intro xs h; obtain ⟨x0, x1, rfl⟩ := len2 h; rfl
  case hb =>
    intro L
    generalize callEnvC _ L 56 = env
    refine' stm_cons ?_ ?_
    refine' stm_tuple ?_ ?_
    refine' impl_name 1
    refine' tgt_tuple ?_
    refine' ImplAs.cons ?_ ?_
    refine' tgt_name 2
    refine' ImplAs.cons ?_ ?_
    refine' tgt_name 3
    refine' ImplAs.cons ?_ ?_
    refine' tgt_name 4
    refine' ImplAs.cons ?_ ?_
    refine' tgt_name 5
    refine' ImplAs.cons ?_ ?_
    refine' tgt_name 6
    exact ImplAs.nil
    refine' stm_cons ?_ ?_
    refine' stm_tuple ?_ ?_
    refine' impl_name 0
    refine' tgt_tuple ?_
    refine' ImplAs.cons ?_ ?_
    refine' tgt_name 7
    refine' ImplAs.cons ?_ ?_
    refine' tgt_name 8
    refine' ImplAs.cons ?_ ?_
    refine' tgt_name 9
    refine' ImplAs.cons ?_ ?_
    refine' tgt_name 10
    refine' ImplAs.cons ?_ ?_
    refine' tgt_name 11
    exact ImplAs.nil
    refine' stm_cons ?_ ?_
    refine' stm_ret ?_
    refine' impl_tupleE ?_
    refine' ImplEs.cons ?_ ?_ (by intro _; rfl)
    refine' impl_bin ?_ ?_
    refine' impl_name 2
    refine' impl_name 7
    refine' ImplEs.cons ?_ ?_ (by intro _; rfl)
    refine' impl_bin ?_ ?_
    refine' impl_name 3
    refine' impl_name 8
    refine' ImplEs.cons ?_ ?_ (by intro _; rfl)
    refine' impl_bin ?_ ?_
    refine' impl_name 4
    refine' impl_name 9
    refine' ImplEs.cons ?_ ?_ (by intro _; rfl)
    refine' impl_bin ?_ ?_
    refine' impl_name 5
    refine' impl_name 10
    refine' ImplEs.cons ?_ ?_ (by intro _; rfl)
    refine' impl_callK 0 addCallers_spec ?_
    rotate_left 1
    refine' ImplEs.cons ?_ ?_ (by intro _; rfl)
    refine' impl_name 11
    refine' ImplEs.cons ?_ ?_ (by intro _; rfl)
    refine' impl_name 6
    exact ImplEs.nil
    exact ImplEs.nil
    refine' stm_nil
  case he => exact fun args v e => if_some e
end Mine
end L1g2_part
section L1g3_part
open PySem PySem.W PyProof.Rows PySem.Calls
set_option Elab.async false
set_option maxRecDepth 100000
set_option maxHeartbeats 1000000
namespace Mine
variable {prog : Program} {w : World} {mg mb : Str → Option Value} {n : Nat}
noncomputable def lay_rgbHsv : Lay := { names := [(Str.ofString "r", .loc), (Str.ofString "g", .loc), (Str.ofString "b", .loc), (Str.ofString "maxc", .loc), (Str.ofString "minc", .loc), (Str.ofString "rangec", .loc), (Str.ofString "v", .loc), (Str.ofString "s", .loc), (Str.ofString "rc", .loc), (Str.ofString "gc", .loc), (Str.ofString "bc", .loc), (Str.ofString "h", .loc)], globs := [Str.ofString "max", Str.ofString "min"] }
noncomputable def rgbHsv_body : St → Option (Fl × St) := (thenS (fun (σ : St) => ((fun (σ : St) => ((fun (σ : St) => ((fun (σ : St) => σ.get 0) σ).bind fun a => ((fun (σ : St) => ((fun (σ : St) => σ.get 1) σ).bind fun a => ((fun (σ : St) => ((fun (σ : St) => σ.get 2) σ).bind fun a => ((fun (_ : St) => some []) σ).bind fun l => some (a :: l)) σ).bind fun l => some (a :: l)) σ).bind fun l => some (a :: l)) σ).bind maxF) σ).bind fun v => some (Fl.next, σ.put 3 (Slot.val v))) (thenS (fun (σ : St) => ((fun (σ : St) => ((fun (σ : St) => ((fun (σ : St) => σ.get 0) σ).bind fun a => ((fun (σ : St) => ((fun (σ : St) => σ.get 1) σ).bind fun a => ((fun (σ : St) => ((fun (σ : St) => σ.get 2) σ).bind fun a => ((fun (_ : St) => some []) σ).bind fun l => some (a :: l)) σ).bind fun l => some (a :: l)) σ).bind fun l => some (a :: l)) σ).bind minF) σ).bind fun v => some (Fl.next, σ.put 4 (Slot.val v))) (thenS (fun (σ : St) => ((fun (σ : St) => ((fun (σ : St) => σ.get 3) σ).bind fun a => ((fun (σ : St) => σ.get 4) σ).bind fun b => binV .Sub a b) σ).bind fun v => some (Fl.next, σ.put 5 (Slot.val v))) (thenS (fun (σ : St) => ((fun (σ : St) => σ.get 3) σ).bind fun v => some (Fl.next, σ.put 6 (Slot.val v))) (thenS (fun (σ : St) => ((fun (σ : St) => ((fun (σ : St) => σ.get 4) σ).bind fun a => ((fun (σ : St) => σ.get 3) σ).bind fun b => cmpB .Eq a b) σ).bind fun b => if b then (thenS (fun (σ : St) => ((fun (σ : St) => ((fun (σ : St) => ((fun (_ : St) => some (V.flt 0)) σ).bind fun a => ((fun (σ : St) => ((fun (_ : St) => some (V.flt 0)) σ).bind fun a => ((fun (σ : St) => ((fun (σ : St) => σ.get 6) σ).bind fun a => ((fun (_ : St) => some []) σ).bind fun l => some (a :: l)) σ).bind fun l => some (a :: l)) σ).bind fun l => some (a :: l)) σ).bind fun l => if l.length ≤ sizeLine then some (V.tup l) else none) σ).bind fun v => some (Fl.ret v, σ)) (fun (σ : St) => some (Fl.next, σ))) σ else (fun (σ : St) => some (Fl.next, σ)) σ) (thenS (fun (σ : St) => ((fun (σ : St) => ((fun (σ : St) => σ.get 5) σ).bind fun a => ((fun (σ : St) => σ.get 3) σ).bind fun b => binV .Div a b) σ).bind fun v => some (Fl.next, σ.put 7 (Slot.val v))) (thenS (fun (σ : St) => ((fun (σ : St) => ((fun (σ : St) => ((fun (σ : St) => σ.get 3) σ).bind fun a => ((fun (σ : St) => σ.get 0) σ).bind fun b => binV .Sub a b) σ).bind fun a => ((fun (σ : St) => σ.get 5) σ).bind fun b => binV .Div a b) σ).bind fun v => some (Fl.next, σ.put 8 (Slot.val v))) (thenS (fun (σ : St) => ((fun (σ : St) => ((fun (σ : St) => ((fun (σ : St) => σ.get 3) σ).bind fun a => ((fun (σ : St) => σ.get 1) σ).bind fun b => binV .Sub a b) σ).bind fun a => ((fun (σ : St) => σ.get 5) σ).bind fun b => binV .Div a b) σ).bind fun v => some (Fl.next, σ.put 9 (Slot.val v))) (thenS (fun (σ : St) => ((fun (σ : St) => ((fun (σ : St) => ((fun (σ : St) => σ.get 3) σ).bind fun a => ((fun (σ : St) => σ.get 2) σ).bind fun b => binV .Sub a b) σ).bind fun a => ((fun (σ : St) => σ.get 5) σ).bind fun b => binV .Div a b) σ).bind fun v => some (Fl.next, σ.put 10 (Slot.val v))) (thenS (fun (σ : St) => ((fun (σ : St) => ((fun (σ : St) => σ.get 0) σ).bind fun a => ((fun (σ : St) => σ.get 3) σ).bind fun b => cmpB .Eq a b) σ).bind fun b => if b then (thenS (fun (σ : St) => ((fun (σ : St) => ((fun (σ : St) => σ.get 10) σ).bind fun a => ((fun (σ : St) => σ.get 9) σ).bind fun b => binV .Sub a b) σ).bind fun v => some (Fl.next, σ.put 11 (Slot.val v))) (fun (σ : St) => some (Fl.next, σ))) σ else (thenS (fun (σ : St) => ((fun (σ : St) => ((fun (σ : St) => σ.get 1) σ).bind fun a => ((fun (σ : St) => σ.get 3) σ).bind fun b => cmpB .Eq a b) σ).bind fun b => if b then (thenS (fun (σ : St) => ((fun (σ : St) => ((fun (σ : St) => ((fun (_ : St) => some (V.flt 4611686018427387904)) σ).bind fun a => ((fun (σ : St) => σ.get 8) σ).bind fun b => binV .Add a b) σ).bind fun a => ((fun (σ : St) => σ.get 10) σ).bind fun b => binV .Sub a b) σ).bind fun v => some (Fl.next, σ.put 11 (Slot.val v))) (fun (σ : St) => some (Fl.next, σ))) σ else (thenS (fun (σ : St) => ((fun (σ : St) => ((fun (σ : St) => ((fun (_ : St) => some (V.flt 4616189618054758400)) σ).bind fun a => ((fun (σ : St) => σ.get 9) σ).bind fun b => binV .Add a b) σ).bind fun a => ((fun (σ : St) => σ.get 8) σ).bind fun b => binV .Sub a b) σ).bind fun v => some (Fl.next, σ.put 11 (Slot.val v))) (fun (σ : St) => some (Fl.next, σ))) σ) (fun (σ : St) => some (Fl.next, σ))) σ) (thenS (fun (σ : St) => ((fun (σ : St) => ((fun (σ : St) => ((fun (σ : St) => σ.get 11) σ).bind fun a => ((fun (_ : St) => some (V.flt 4618441417868443648)) σ).bind fun b => binV .Div a b) σ).bind fun a => ((fun (_ : St) => some (V.flt 4607182418800017408)) σ).bind fun b => binV .Mod a b) σ).bind fun v => some (Fl.next, σ.put 11 (Slot.val v))) (thenS (fun (σ : St) => ((fun (σ : St) => ((fun (σ : St) => ((fun (σ : St) => σ.get 11) σ).bind fun a => ((fun (σ : St) => ((fun (σ : St) => σ.get 7) σ).bind fun a => ((fun (σ : St) => ((fun (σ : St) => σ.get 6) σ).bind fun a => ((fun (_ : St) => some []) σ).bind fun l => some (a :: l)) σ).bind fun l => some (a :: l)) σ).bind fun l => some (a :: l)) σ).bind fun l => if l.length ≤ sizeLine then some (V.tup l) else none) σ).bind fun v => some (Fl.ret v, σ)) (fun (σ : St) => some (Fl.next, σ))))))))))))))
noncomputable def rgbHsvF (args : List V) : Option V := if args.length = 3 then retV (rgbHsv_body (initSt lay_rgbHsv args)) else none
theorem rgbHsv_spec : FnSpec prog w (Mine.kTop w.params) mg mb (n + 2) (.ref 70) rgbHsvF := by
  refine' fn_specE (fb := _) lay_rgbHsv [Str.ofString "r", Str.ofString "g", Str.ofString "b"] (by k_is) rfl rfl (by k_is) ?ok ?bind ?hb ?he
  case ok => intro L; kernel_rfl
  case bind => intro xs h; obtain ⟨x0, x1, x2, rfl⟩ := len3 h; rfl
  case hb =>
    intro L
    generalize callEnvC _ L 70 = env
    refine' stm_cons ?_ ?_
    refine' stm_assign 3 ?_
    refine' impl_callB 0 spec_max PyProof.Rows.Boot.max ?_
    rotate_left 1
    refine' ImplEs.cons ?_ ?_ (by intro _; rfl)
    refine' impl_name 0
    refine' ImplEs.cons ?_ ?_ (by intro _; rfl)
    refine' impl_name 1
    refine' ImplEs.cons ?_ ?_ (by intro _; rfl)
    refine' impl_name 2
    exact ImplEs.nil
    refine' stm_cons ?_ ?_
    refine' stm_assign 4 ?_
    refine' impl_callB 1 spec_min PyProof.Rows.Boot.min ?_
    rotate_left 1
    refine' ImplEs.cons ?_ ?_ (by intro _; rfl)
    refine' impl_name 0
    refine' ImplEs.cons ?_ ?_ (by intro _; rfl)
    refine' impl_name 1
    refine' ImplEs.cons ?_ ?_ (by intro _; rfl)
    refine' impl_name 2
    exact ImplEs.nil
    refine' stm_cons ?_ ?_
    refine' stm_assign 5 ?_
    refine' impl_bin ?_ ?_
    refine' impl_name 3
    refine' impl_name 4
    refine' stm_cons ?_ ?_
    refine' stm_assign 6 ?_
    refine' impl_name 3
    refine' stm_cons ?_ ?_
    refine' stm_if ?_ ?_ ?_
    refine' test_cmp ?_ ?_
    refine' impl_name 4
    refine' impl_name 3
    refine' stm_cons ?_ ?_
    refine' stm_ret ?_
    refine' impl_tupleE ?_
    refine' ImplEs.cons ?_ ?_ (by intro _; rfl)
    refine' impl_flt
    refine' ImplEs.cons ?_ ?_ (by intro _; rfl)
    refine' impl_flt
    refine' ImplEs.cons ?_ ?_ (by intro _; rfl)
    refine' impl_name 6
    exact ImplEs.nil
    refine' stm_nil
    refine' stm_nil
    refine' stm_cons ?_ ?_
    refine' stm_assign 7 ?_
    refine' impl_bin ?_ ?_
    refine' impl_name 5
    refine' impl_name 3
    refine' stm_cons ?_ ?_
    refine' stm_assign 8 ?_
    refine' impl_bin ?_ ?_
    refine' impl_bin ?_ ?_
    refine' impl_name 3
    refine' impl_name 0
    refine' impl_name 5
    refine' stm_cons ?_ ?_
    refine' stm_assign 9 ?_
    refine' impl_bin ?_ ?_
    refine' impl_bin ?_ ?_
    refine' impl_name 3
    refine' impl_name 1
    refine' impl_name 5
    refine' stm_cons ?_ ?_
    refine' stm_assign 10 ?_
    refine' impl_bin ?_ ?_
    refine' impl_bin ?_ ?_
    refine' impl_name 3
    refine' impl_name 2
    refine' impl_name 5
    refine' stm_cons ?_ ?_
    refine' stm_if ?_ ?_ ?_
    refine' test_cmp ?_ ?_
    refine' impl_name 0
    refine' impl_name 3
    refine' stm_cons ?_ ?_
    refine' stm_assign 11 ?_
    refine' impl_bin ?_ ?_
    refine' impl_name 10
    refine' impl_name 9
    refine' stm_nil
    refine' stm_cons ?_ ?_
    refine' stm_if ?_ ?_ ?_
    refine' test_cmp ?_ ?_
    refine' impl_name 1
    refine' impl_name 3
    refine' stm_cons ?_ ?_
    refine' stm_assign 11 ?_
    refine' impl_bin ?_ ?_
    refine' impl_bin ?_ ?_
    refine' impl_flt
    refine' impl_name 8
    refine' impl_name 10
    refine' stm_nil
    refine' stm_cons ?_ ?_
    refine' stm_assign 11 ?_
    refine' impl_bin ?_ ?_
    refine' impl_bin ?_ ?_
    refine' impl_flt
    refine' impl_name 9
    refine' impl_name 8
    refine' stm_nil
    refine' stm_nil
    refine' stm_cons ?_ ?_
    refine' stm_assign 11 ?_
    refine' impl_bin ?_ ?_
    refine' impl_bin ?_ ?_
    refine' impl_name 11
    refine' impl_flt
    refine' impl_flt
    refine' stm_cons ?_ ?_
    refine' stm_ret ?_
    refine' impl_tupleE ?_
    refine' ImplEs.cons ?_ ?_ (by intro _; rfl)
    refine' impl_name 11
    refine' ImplEs.cons ?_ ?_ (by intro _; rfl)
    refine' impl_name 7
    refine' ImplEs.cons ?_ ?_ (by intro _; rfl)
    refine' impl_name 6
    exact ImplEs.nil
    refine' stm_nil
  case he => exact fun args v e => if_some e
noncomputable def lay_hsvRgb : Lay := { names := [(Str.ofString "h", .loc), (Str.ofString "s", .loc), (Str.ofString "v", .loc), (Str.ofString "i", .loc), (Str.ofString "f", .loc), (Str.ofString "p", .loc), (Str.ofString "q", .loc), (Str.ofString "t", .loc)], globs := [Str.ofString "int"] }
noncomputable def hsvRgb_body : St → Option (Fl × St) := (thenS (fun (σ : St) => ((fun (σ : St) => ((fun (σ : St) => σ.get 1) σ).bind fun a => ((fun (_ : St) => some (V.flt 0)) σ).bind fun b => cmpB .Eq a b) σ).bind fun b => if b then (thenS (fun (σ : St) => ((fun (σ : St) => ((fun (σ : St) => ((fun (σ : St) => σ.get 2) σ).bind fun a => ((fun (σ : St) => ((fun (σ : St) => σ.get 2) σ).bind fun a => ((fun (σ : St) => ((fun (σ : St) => σ.get 2) σ).bind fun a => ((fun (_ : St) => some []) σ).bind fun l => some (a :: l)) σ).bind fun l => some (a :: l)) σ).bind fun l => some (a :: l)) σ).bind fun l => if l.length ≤ sizeLine then some (V.tup l) else none) σ).bind fun v => some (Fl.ret v, σ)) (fun (σ : St) => some (Fl.next, σ))) σ else (fun (σ : St) => some (Fl.next, σ)) σ) (thenS (fun (σ : St) => ((fun (σ : St) => ((fun (σ : St) => ((fun (σ : St) => ((fun (σ : St) => σ.get 0) σ).bind fun a => ((fun (_ : St) => some (V.flt 4618441417868443648)) σ).bind fun b => binV .Mult a b) σ).bind fun a => ((fun (_ : St) => some []) σ).bind fun l => some (a :: l)) σ).bind intF) σ).bind fun v => some (Fl.next, σ.put 3 (Slot.val v))) (thenS (fun (σ : St) => ((fun (σ : St) => ((fun (σ : St) => ((fun (σ : St) => σ.get 0) σ).bind fun a => ((fun (_ : St) => some (V.flt 4618441417868443648)) σ).bind fun b => binV .Mult a b) σ).bind fun a => ((fun (σ : St) => σ.get 3) σ).bind fun b => binV .Sub a b) σ).bind fun v => some (Fl.next, σ.put 4 (Slot.val v))) (thenS (fun (σ : St) => ((fun (σ : St) => ((fun (σ : St) => σ.get 2) σ).bind fun a => ((fun (σ : St) => ((fun (_ : St) => some (V.flt 4607182418800017408)) σ).bind fun a => ((fun (σ : St) => σ.get 1) σ).bind fun b => binV .Sub a b) σ).bind fun b => binV .Mult a b) σ).bind fun v => some (Fl.next, σ.put 5 (Slot.val v))) (thenS (fun (σ : St) => ((fun (σ : St) => ((fun (σ : St) => σ.get 2) σ).bind fun a => ((fun (σ : St) => ((fun (_ : St) => some (V.flt 4607182418800017408)) σ).bind fun a => ((fun (σ : St) => ((fun (σ : St) => σ.get 1) σ).bind fun a => ((fun (σ : St) => σ.get 4) σ).bind fun b => binV .Mult a b) σ).bind fun b => binV .Sub a b) σ).bind fun b => binV .Mult a b) σ).bind fun v => some (Fl.next, σ.put 6 (Slot.val v))) (thenS (fun (σ : St) => ((fun (σ : St) => ((fun (σ : St) => σ.get 2) σ).bind fun a => ((fun (σ : St) => ((fun (_ : St) => some (V.flt 4607182418800017408)) σ).bind fun a => ((fun (σ : St) => ((fun (σ : St) => σ.get 1) σ).bind fun a => ((fun (σ : St) => ((fun (_ : St) => some (V.flt 4607182418800017408)) σ).bind fun a => ((fun (σ : St) => σ.get 4) σ).bind fun b => binV .Sub a b) σ).bind fun b => binV .Mult a b) σ).bind fun b => binV .Sub a b) σ).bind fun b => binV .Mult a b) σ).bind fun v => some (Fl.next, σ.put 7 (Slot.val v))) (thenS (fun (σ : St) => ((fun (σ : St) => ((fun (σ : St) => σ.get 3) σ).bind fun a => ((fun (_ : St) => some (V.int 6)) σ).bind fun b => binV .Mod a b) σ).bind fun v => some (Fl.next, σ.put 3 (Slot.val v))) (thenS (fun (σ : St) => ((fun (σ : St) => ((fun (σ : St) => σ.get 3) σ).bind fun a => ((fun (_ : St) => some (V.int 0)) σ).bind fun b => cmpB .Eq a b) σ).bind fun b => if b then (thenS (fun (σ : St) => ((fun (σ : St) => ((fun (σ : St) => ((fun (σ : St) => σ.get 2) σ).bind fun a => ((fun (σ : St) => ((fun (σ : St) => σ.get 7) σ).bind fun a => ((fun (σ : St) => ((fun (σ : St) => σ.get 5) σ).bind fun a => ((fun (_ : St) => some []) σ).bind fun l => some (a :: l)) σ).bind fun l => some (a :: l)) σ).bind fun l => some (a :: l)) σ).bind fun l => if l.length ≤ sizeLine then some (V.tup l) else none) σ).bind fun v => some (Fl.ret v, σ)) (fun (σ : St) => some (Fl.next, σ))) σ else (fun (σ : St) => some (Fl.next, σ)) σ) (thenS (fun (σ : St) => ((fun (σ : St) => ((fun (σ : St) => σ.get 3) σ).bind fun a => ((fun (_ : St) => some (V.int 1)) σ).bind fun b => cmpB .Eq a b) σ).bind fun b => if b then (thenS (fun (σ : St) => ((fun (σ : St) => ((fun (σ : St) => ((fun (σ : St) => σ.get 6) σ).bind fun a => ((fun (σ : St) => ((fun (σ : St) => σ.get 2) σ).bind fun a => ((fun (σ : St) => ((fun (σ : St) => σ.get 5) σ).bind fun a => ((fun (_ : St) => some []) σ).bind fun l => some (a :: l)) σ).bind fun l => some (a :: l)) σ).bind fun l => some (a :: l)) σ).bind fun l => if l.length ≤ sizeLine then some (V.tup l) else none) σ).bind fun v => some (Fl.ret v, σ)) (fun (σ : St) => some (Fl.next, σ))) σ else (fun (σ : St) => some (Fl.next, σ)) σ) (thenS (fun (σ : St) => ((fun (σ : St) => ((fun (σ : St) => σ.get 3) σ).bind fun a => ((fun (_ : St) => some (V.int 2)) σ).bind fun b => cmpB .Eq a b) σ).bind fun b => if b then (thenS (fun (σ : St) => ((fun (σ : St) => ((fun (σ : St) => ((fun (σ : St) => σ.get 5) σ).bind fun a => ((fun (σ : St) => ((fun (σ : St) => σ.get 2) σ).bind fun a => ((fun (σ : St) => ((fun (σ : St) => σ.get 7) σ).bind fun a => ((fun (_ : St) => some []) σ).bind fun l => some (a :: l)) σ).bind fun l => some (a :: l)) σ).bind fun l => some (a :: l)) σ).bind fun l => if l.length ≤ sizeLine then some (V.tup l) else none) σ).bind fun v => some (Fl.ret v, σ)) (fun (σ : St) => some (Fl.next, σ))) σ else (fun (σ : St) => some (Fl.next, σ)) σ) (thenS (fun (σ : St) => ((fun (σ : St) => ((fun (σ : St) => σ.get 3) σ).bind fun a => ((fun (_ : St) => some (V.int 3)) σ).bind fun b => cmpB .Eq a b) σ).bind fun b => if b then (thenS (fun (σ : St) => ((fun (σ : St) => ((fun (σ : St) => ((fun (σ : St) => σ.get 5) σ).bind fun a => ((fun (σ : St) => ((fun (σ : St) => σ.get 6) σ).bind fun a => ((fun (σ : St) => ((fun (σ : St) => σ.get 2) σ).bind fun a => ((fun (_ : St) => some []) σ).bind fun l => some (a :: l)) σ).bind fun l => some (a :: l)) σ).bind fun l => some (a :: l)) σ).bind fun l => if l.length ≤ sizeLine then some (V.tup l) else none) σ).bind fun v => some (Fl.ret v, σ)) (fun (σ : St) => some (Fl.next, σ))) σ else (fun (σ : St) => some (Fl.next, σ)) σ) (thenS (fun (σ : St) => ((fun (σ : St) => ((fun (σ : St) => σ.get 3) σ).bind fun a => ((fun (_ : St) => some (V.int 4)) σ).bind fun b => cmpB .Eq a b) σ).bind fun b => if b then (thenS (fun (σ : St) => ((fun (σ : St) => ((fun (σ : St) => ((fun (σ : St) => σ.get 7) σ).bind fun a => ((fun (σ : St) => ((fun (σ : St) => σ.get 5) σ).bind fun a => ((fun (σ : St) => ((fun (σ : St) => σ.get 2) σ).bind fun a => ((fun (_ : St) => some []) σ).bind fun l => some (a :: l)) σ).bind fun l => some (a :: l)) σ).bind fun l => some (a :: l)) σ).bind fun l => if l.length ≤ sizeLine then some (V.tup l) else none) σ).bind fun v => some (Fl.ret v, σ)) (fun (σ : St) => some (Fl.next, σ))) σ else (fun (σ : St) => some (Fl.next, σ)) σ) (thenS (fun (σ : St) => ((fun (σ : St) => ((fun (σ : St) => σ.get 3) σ).bind fun a => ((fun (_ : St) => some (V.int 5)) σ).bind fun b => cmpB .Eq a b) σ).bind fun b => if b then (thenS (fun (σ : St) => ((fun (σ : St) => ((fun (σ : St) => ((fun (σ : St) => σ.get 2) σ).bind fun a => ((fun (σ : St) => ((fun (σ : St) => σ.get 5) σ).bind fun a => ((fun (σ : St) => ((fun (σ : St) => σ.get 6) σ).bind fun a => ((fun (_ : St) => some []) σ).bind fun l => some (a :: l)) σ).bind fun l => some (a :: l)) σ).bind fun l => some (a :: l)) σ).bind fun l => if l.length ≤ sizeLine then some (V.tup l) else none) σ).bind fun v => some (Fl.ret v, σ)) (fun (σ : St) => some (Fl.next, σ))) σ else (fun (σ : St) => some (Fl.next, σ)) σ) (fun (σ : St) => some (Fl.next, σ)))))))))))))))
noncomputable def hsvRgbF (args : List V) : Option V := if args.length = 3 then retV (hsvRgb_body (initSt lay_hsvRgb args)) else none
theorem hsvRgb_spec : FnSpec prog w (Mine.kTop w.params) mg mb (n + 2) (.ref 77) hsvRgbF := by
  refine' fn_specE (fb := _) lay_hsvRgb [Str.ofString "h", Str.ofString "s", Str.ofString "v"] (by k_is) rfl rfl (by k_is) ?ok ?bind ?hb ?he
  case ok => intro L; kernel_rfl
  case bind => intro xs h; obtain ⟨x0, x1, x2, rfl⟩ := len3 h; rfl
  case hb =>
    intro L
    generalize callEnvC _ L 77 = env
    refine' stm_cons ?_ ?_
    refine' stm_if ?_ ?_ ?_
    refine' test_cmp ?_ ?_
    refine' impl_name 1
    refine' impl_flt
    refine' stm_cons ?_ ?_
    refine' stm_ret ?_
    refine' impl_tupleE ?_
    refine' ImplEs.cons ?_ ?_ (by intro _; rfl)
    refine' impl_name 2
    refine' ImplEs.cons ?_ ?_ (by intro _; rfl)
    refine' impl_name 2
    refine' ImplEs.cons ?_ ?_ (by intro _; rfl)
    refine' impl_name 2
    exact ImplEs.nil
    refine' stm_nil
    refine' stm_nil
    refine' stm_cons ?_ ?_
    refine' stm_assign 3 ?_
    refine' impl_callB 0 spec_int PyProof.Rows.Boot.int ?_
    rotate_left 1
    refine' ImplEs.cons ?_ ?_ (by intro _; rfl)
    refine' impl_bin ?_ ?_
    refine' impl_name 0
    refine' impl_flt
    exact ImplEs.nil
    refine' stm_cons ?_ ?_
    refine' stm_assign 4 ?_
    refine' impl_bin ?_ ?_
    refine' impl_bin ?_ ?_
    refine' impl_name 0
    refine' impl_flt
    refine' impl_name 3
    refine' stm_cons ?_ ?_
    refine' stm_assign 5 ?_
    refine' impl_bin ?_ ?_
    refine' impl_name 2
    refine' impl_bin ?_ ?_
    refine' impl_flt
    refine' impl_name 1
    refine' stm_cons ?_ ?_
    refine' stm_assign 6 ?_
    refine' impl_bin ?_ ?_
    refine' impl_name 2
    refine' impl_bin ?_ ?_
    refine' impl_flt
    refine' impl_bin ?_ ?_
    refine' impl_name 1
    refine' impl_name 4
    refine' stm_cons ?_ ?_
    refine' stm_assign 7 ?_
    refine' impl_bin ?_ ?_
    refine' impl_name 2
    refine' impl_bin ?_ ?_
    refine' impl_flt
    refine' impl_bin ?_ ?_
    refine' impl_name 1
    refine' impl_bin ?_ ?_
    refine' impl_flt
    refine' impl_name 4
    refine' stm_cons ?_ ?_
    refine' stm_assign 3 ?_
    refine' impl_bin ?_ ?_
    refine' impl_name 3
    refine' impl_int
    refine' stm_cons ?_ ?_
    refine' stm_if ?_ ?_ ?_
    refine' test_cmp ?_ ?_
    refine' impl_name 3
    refine' impl_int
    refine' stm_cons ?_ ?_
    refine' stm_ret ?_
    refine' impl_tupleE ?_
    refine' ImplEs.cons ?_ ?_ (by intro _; rfl)
    refine' impl_name 2
    refine' ImplEs.cons ?_ ?_ (by intro _; rfl)
    refine' impl_name 7
    refine' ImplEs.cons ?_ ?_ (by intro _; rfl)
    refine' impl_name 5
    exact ImplEs.nil
    refine' stm_nil
    refine' stm_nil
    refine' stm_cons ?_ ?_
    refine' stm_if ?_ ?_ ?_
    refine' test_cmp ?_ ?_
    refine' impl_name 3
    refine' impl_int
    refine' stm_cons ?_ ?_
    refine' stm_ret ?_
    refine' impl_tupleE ?_
    refine' ImplEs.cons ?_ ?_ (by intro _; rfl)
    refine' impl_name 6
    refine' ImplEs.cons ?_ ?_ (by intro _; rfl)
    refine' impl_name 2
    refine' ImplEs.cons ?_ ?_ (by intro _; rfl)
    refine' impl_name 5
    exact ImplEs.nil
    refine' stm_nil
    refine' stm_nil
    refine' stm_cons ?_ ?_
    refine' stm_if ?_ ?_ ?_
    refine' test_cmp ?_ ?_
    refine' impl_name 3
    refine' impl_int
    refine' stm_cons ?_ ?_
    refine' stm_ret ?_
    refine' impl_tupleE ?_
    refine' ImplEs.cons ?_ ?_ (by intro _; rfl)
    refine' impl_name 5
    refine' ImplEs.cons ?_ ?_ (by intro _; rfl)
    refine' impl_name 2
    refine' ImplEs.cons ?_ ?_ (by intro _; rfl)
    refine' impl_name 7
    exact ImplEs.nil
    refine' stm_nil
    refine' stm_nil
    refine' stm_cons ?_ ?_
    refine' stm_if ?_ ?_ ?_
    refine' test_cmp ?_ ?_
    refine' impl_name 3
    refine' impl_int
    refine' stm_cons ?_ ?_
    refine' stm_ret ?_
    refine' impl_tupleE ?_
    refine' ImplEs.cons ?_ ?_ (by intro _; rfl)
    refine' impl_name 5
    refine' ImplEs.cons ?_ ?_ (by intro _; rfl)
    refine' impl_name 6
    refine' ImplEs.cons ?_ ?_ (by intro _; rfl)
    refine' impl_name 2
    exact ImplEs.nil
    refine' stm_nil
    refine' stm_nil
    refine' stm_cons ?_ ?_
    refine' stm_if ?_ ?_ ?_
    refine' test_cmp ?_ ?_
    refine' impl_name 3
    refine' impl_int
    refine' stm_cons ?_ ?_
    refine' stm_ret ?_
    refine' impl_tupleE ?_
    refine' ImplEs.cons ?_ ?_ (by intro _; rfl)
    refine' impl_name 7
    refine' ImplEs.cons ?_ ?_ (by intro _; rfl)
    refine' impl_name 5
    refine' ImplEs.cons ?_ ?_ (by intro _; rfl)
    refine' impl_name 2
    exact ImplEs.nil
    refine' stm_nil
    refine' stm_nil
    refine' stm_cons ?_ ?_
    refine' stm_if ?_ ?_ ?_
    refine' test_cmp ?_ ?_
    refine' impl_name 3
    refine' impl_int
    refine' stm_cons ?_ ?_
    refine' stm_ret ?_
    refine' impl_tupleE ?_
    refine' ImplEs.cons ?_ ?_ (by intro _; rfl)
    refine' impl_name 2
    refine' ImplEs.cons ?_ ?_ (by intro _; rfl)
    refine' impl_name 5
    refine' ImplEs.cons ?_ ?_ (by intro _; rfl)
    refine' impl_name 6
    exact ImplEs.nil
    refine' stm_nil
    refine' stm_nil
    refine' stm_nil
  case he => exact fun args v e => if_some e
end Mine
end L1g3_part
section L1g4_part
open PySem PySem.W PyProof.Rows PySem.Calls
set_option Elab.async false
set_option maxRecDepth 100000
set_option maxHeartbeats 1000000
namespace Mine
variable {prog : Program} {w : World} {mg mb : Str → Option Value} {n : Nat}
noncomputable def lay_wsInit : Lay := { names := [(Str.ofString "self", .loc), (Str.ofString "ws", .loc), (Str.ofString "S", .loc), (Str.ofString "T", .loc), (Str.ofString "count", .loc), (Str.ofString "b", .loc), (Str.ofString "n", .loc), (Str.ofString "nt", .loc), (Str.ofString "ch", .loc)], globs := [Str.ofString "Whitespace", Str.ofString "len", Str.ofString "tuple"] }
noncomputable def wsInit_body : St → Option (Fl × St) := (thenS (fun (σ : St) => ((fun (σ : St) => σ.get 1) σ).bind fun v => (σ.ownAt 0).bind fun k => (σ.setA k clsWs (Str.ofString "raw") v).bind fun σ2 => some (Fl.next, σ2)) (thenS (fun (σ : St) => ((fun (σ : St) => ((fun (σ : St) => ((fun (_ : St) => some (V.str (Str.ofString " "))) σ).bind fun a => ((fun (σ : St) => ((fun (_ : St) => some (V.str (Str.ofString "\t"))) σ).bind fun a => ((fun (_ : St) => some []) σ).bind fun l => some (a :: l)) σ).bind fun l => some (a :: l)) σ).bind fun l => if l.length ≤ sizeLine then some (V.tup l) else none) σ).bind fun v => match v with | .tup [a, b] => some (Fl.next, (σ.put 3 (.val b)).put 2 (.val a)) | _ => none) (thenS (fun (σ : St) => ((fun (σ : St) => ((fun (_ : St) => some []) σ).bind fun l => if l.length ≤ sizeLine then some l else none) σ).bind fun l => some (Fl.next, { vars := σ.vars.set 4 (.own σ.owns.length), owns := σ.owns ++ [.lst l] })) (thenS (fun (σ : St) => ((fun (_ : St) => some (V.int 0)) σ).bind fun v => ((fun (v : V) (σ : St) => some (σ.put 5 (Slot.val v))) v σ).bind fun (σ : St) => ((fun (v : V) (σ : St) => some (σ.put 6 (Slot.val v))) v σ).bind fun (σ : St) => ((fun (v : V) (σ : St) => some (σ.put 7 (Slot.val v))) v σ).bind fun (σ : St) => some (Fl.next, σ)) (thenS (fun (σ : St) => ((fun (σ : St) => ((fun (σ : St) => σ.ownFld 0 clsWs 0) σ).bind iterV) σ).bind fun vs => loopF (fun (v : V) (σ : St) => some (σ.put 8 (Slot.val v))) (thenS (fun (σ : St) => ((fun (σ : St) => ((fun (σ : St) => σ.get 8) σ).bind fun a => ((fun (σ : St) => σ.get 2) σ).bind fun b => cmpB .Eq a b) σ).bind fun b => if b then (thenS (fun (σ : St) => ((fun (σ : St) => ((fun (σ : St) => σ.get 6) σ).bind fun a => ((fun (_ : St) => some (V.int 1)) σ).bind fun b => binV .Add a b) σ).bind fun v => some (Fl.next, σ.put 6 (Slot.val v))) (thenS (fun (σ : St) => ((fun (σ : St) => ((fun (σ : St) => σ.get 5) σ).bind fun a => ((fun (_ : St) => some (V.int 1)) σ).bind fun b => binV .Add a b) σ).bind fun v => some (Fl.next, σ.put 5 (Slot.val v))) (fun (σ : St) => some (Fl.next, σ)))) σ else (thenS (fun (σ : St) => ((fun (σ : St) => ((fun (σ : St) => σ.get 8) σ).bind fun a => ((fun (σ : St) => σ.get 3) σ).bind fun b => cmpB .Eq a b) σ).bind fun b => if b then (thenS (fun (σ : St) => ((fun (σ : St) => ((fun (σ : St) => σ.get 6) σ).bind fun a => ((fun (_ : St) => some (V.int 1)) σ).bind fun b => binV .Add a b) σ).bind fun v => some (Fl.next, σ.put 6 (Slot.val v))) (thenS (fun (σ : St) => ((fun (σ : St) => ((fun (σ : St) => σ.get 7) σ).bind fun a => ((fun (_ : St) => some (V.int 1)) σ).bind fun b => binV .Add a b) σ).bind fun v => some (Fl.next, σ.put 7 (Slot.val v))) (thenS (fun (σ : St) => ((fun (σ : St) => ((fun (σ : St) => σ.get 5) σ).bind fun a => ((fun (σ : St) => (σ.own 4).bind lenV) σ).bind fun b => cmpB .GtE a b) σ).bind fun b => if b then (thenS (fun (σ : St) => ((fun (σ : St) => (σ.own 4).bind fun a => ((fun (σ : St) => ((fun (σ : St) => ((fun (σ : St) => ((fun (_ : St) => some (V.int 0)) σ).bind fun a => ((fun (_ : St) => some []) σ).bind fun l => some (a :: l)) σ).bind fun l => if l.length ≤ sizeLine then some (V.lst l) else none) σ).bind fun a => ((fun (σ : St) => ((fun (σ : St) => ((fun (σ : St) => σ.get 5) σ).bind fun a => ((fun (σ : St) => (σ.own 4).bind lenV) σ).bind fun b => binV .Sub a b) σ).bind fun a => ((fun (_ : St) => some (V.int 1)) σ).bind fun b => binV .Add a b) σ).bind fun b => binV .Mult a b) σ).bind fun b => match a, b with | .lst l, .lst l2 => if l.length + l2.length ≤ sizeLine then some (l ++ l2) else none | _, _ => none) σ).bind fun l => some (Fl.next, { vars := σ.vars.set 4 (.own σ.owns.length), owns := σ.owns ++ [.lst l] })) (fun (σ : St) => some (Fl.next, σ))) σ else (fun (σ : St) => some (Fl.next, σ)) σ) (thenS (fun (σ : St) => ((fun (σ : St) => ((fun (σ : St) => (σ.own 4).bind fun a => ((fun (σ : St) => σ.get 5) σ).bind fun j => match a, j with | .lst l, .int z => if 0 ≤ z ∧ l.length ≤ sizeLine then l[z.toNat]? else none | _, _ => none) σ).bind fun a => ((fun (_ : St) => some (V.int 1)) σ).bind fun b => binV .Add a b) σ).bind fun v => (σ.ownAt 4).bind fun k => ((fun (σ : St) => σ.get 5) σ).bind fun j => (σ.setL k j v).bind fun σ2 => some (Fl.next, σ2)) (thenS (fun (σ : St) => ((fun (_ : St) => some (V.int 0)) σ).bind fun v => some (Fl.next, σ.put 5 (Slot.val v))) (fun (σ : St) => some (Fl.next, σ))))))) σ else (thenS (fun (σ : St) => some (Fl.brk, σ)) (fun (σ : St) => some (Fl.next, σ))) σ) (fun (σ : St) => some (Fl.next, σ))) σ) (fun (σ : St) => some (Fl.next, σ))) vs σ) (thenS (fun (σ : St) => ((fun (σ : St) => σ.get 6) σ).bind fun v => (σ.ownAt 0).bind fun k => (σ.setA k clsWs (Str.ofString "n") v).bind fun σ2 => some (Fl.next, σ2)) (thenS (fun (σ : St) => ((fun (σ : St) => σ.get 7) σ).bind fun v => (σ.ownAt 0).bind fun k => (σ.setA k clsWs (Str.ofString "nt") v).bind fun σ2 => some (Fl.next, σ2)) (thenS (fun (σ : St) => ((fun (σ : St) => ((fun (σ : St) => ((fun (σ : St) => (σ.own 4).bind fun v => match v with | .lst l => if l.length ≤ sizeLine then some (V.tup l) else none | _ => none) σ).bind fun a => ((fun (σ : St) => ((fun (σ : St) => σ.get 5) σ).bind fun a => ((fun (_ : St) => some []) σ).bind fun l => some (a :: l)) σ).bind fun l => some (a :: l)) σ).bind fun l => if l.length ≤ sizeLine then some (V.tup l) else none) σ).bind fun v => (σ.ownAt 0).bind fun k => (σ.setA k clsWs (Str.ofString "norm") v).bind fun σ2 => some (Fl.next, σ2)) (thenS (fun (σ : St) => ((fun (σ : St) => ((fun (σ : St) => (σ.own 4).bind lenV) σ).bind fun a => ((fun (_ : St) => some (V.int 1)) σ).bind fun b => (cmpB .LtE a b).map V.bool) σ).bind fun v => (σ.ownAt 0).bind fun k => (σ.setA k clsWs (Str.ofString "is_simple") v).bind fun σ2 => some (Fl.next, σ2)) (fun (σ : St) => some (Fl.next, σ)))))))))))
noncomputable def wsInitF (args : List V) : Option (List V) := if args.length + 1 = 2 then retI clsWs (wsInit_body (initStO lay_wsInit clsWs args)) else none
theorem wsInit_spec : InitSpec prog w (Mine.kTop w.params) mg mb (n + 2) 94 clsWs wsInitF := by
  refine' init_specE (fb := _) lay_wsInit [Str.ofString "self", Str.ofString "ws"] (by k_is) rfl rfl (by k_is) ?ok ?bind ?hb ?he
  case ok => intro L; kernel_rfl
  case bind => intro xs h; obtain ⟨x0, x1, rfl⟩ := len2 h; rfl
  case hb =>
    intro L
    generalize callEnvC _ L 94 = env
    refine' stm_cons ?_ ?_
    refine' stm_setA 0 clsWs ?_
    refine' impl_name 1
    refine' stm_cons ?_ ?_
    refine' stm_swap2 2 3 ?_ (by intro env h1 h2 h3; have hb : env.blockKind = .function := (by unfold Env.blockKind; rw [h1]; rfl); unfold swappedStores; dsimp only; simp only [hb, h2, h3, List.filterMap]; rfl)
    refine' impl_tupleE ?_
    refine' ImplEs.cons ?_ ?_ (by intro _; rfl)
    refine' impl_clsStr 0 clsWs (Str.ofString " ")
    refine' ImplEs.cons ?_ ?_ (by intro _; rfl)
    refine' impl_clsStr 0 clsWs (Str.ofString "\t")
    exact ImplEs.nil
    refine' stm_cons ?_ ?_
    refine' stm_ownL 4 ?_
    refine' fresh_list ?_
    exact ImplEs.nil
    refine' stm_cons ?_ ?_
    refine' stm_three ?_ ?_ ?_ ?_
    refine' impl_int
    refine' tgt_name 5
    refine' tgt_name 6
    refine' tgt_name 7
    refine' stm_cons ?_ ?_
    refine' stm_for ?_ ?_ ?_
    refine' impli_val ?_
    refine' impl_attrO 0 clsWs 0
    refine' tgt_name 8
    refine' stm_cons ?_ ?_
    refine' stm_if ?_ ?_ ?_
    refine' test_cmp ?_ ?_
    refine' impl_name 8
    refine' impl_name 2
    refine' stm_cons ?_ ?_
    refine' stm_assign 6 ?_
    refine' impl_bin ?_ ?_
    refine' impl_name 6
    refine' impl_int
    refine' stm_cons ?_ ?_
    refine' stm_assign 5 ?_
    refine' impl_bin ?_ ?_
    refine' impl_name 5
    refine' impl_int
    refine' stm_nil
    refine' stm_cons ?_ ?_
    refine' stm_if ?_ ?_ ?_
    refine' test_cmp ?_ ?_
    refine' impl_name 8
    refine' impl_name 3
    refine' stm_cons ?_ ?_
    refine' stm_assign 6 ?_
    refine' impl_bin ?_ ?_
    refine' impl_name 6
    refine' impl_int
    refine' stm_cons ?_ ?_
    refine' stm_assign 7 ?_
    refine' impl_bin ?_ ?_
    refine' impl_name 7
    refine' impl_int
    refine' stm_cons ?_ ?_
    refine' stm_if ?_ ?_ ?_
    refine' test_cmp ?_ ?_
    refine' impl_name 5
    refine' impl_lenO 4 1
    refine' stm_cons ?_ ?_
    refine' stm_ownL 4 ?_
    refine' fresh_cat 4 ?_
    refine' impl_bin ?_ ?_
    refine' impl_listE ?_
    refine' ImplEs.cons ?_ ?_ (by intro _; rfl)
    refine' impl_int
    exact ImplEs.nil
    refine' impl_bin ?_ ?_
    refine' impl_bin ?_ ?_
    refine' impl_name 5
    refine' impl_lenO 4 1
    refine' impl_int
    refine' stm_nil
    refine' stm_nil
    refine' stm_cons ?_ ?_
    refine' stm_setL 4 ?_ ?_
    refine' impl_bin ?_ ?_
    refine' impl_subO 4 ?_
    refine' impl_name 5
    refine' impl_int
    refine' impl_name 5
    refine' stm_cons ?_ ?_
    refine' stm_assign 5 ?_
    refine' impl_int
    refine' stm_nil
    refine' stm_cons ?_ ?_
    refine' stm_break
    refine' stm_nil
    refine' stm_nil
    refine' stm_nil
    refine' stm_cons ?_ ?_
    refine' stm_setA 0 clsWs ?_
    refine' impl_name 6
    refine' stm_cons ?_ ?_
    refine' stm_setA 0 clsWs ?_
    refine' impl_name 7
    refine' stm_cons ?_ ?_
    refine' stm_setA 0 clsWs ?_
    refine' impl_tupleE ?_
    refine' ImplEs.cons ?_ ?_ (by intro _; rfl)
    refine' impl_tupleO 4 2 PyProof.Rows.Boot.tuple
    refine' ImplEs.cons ?_ ?_ (by intro _; rfl)
    refine' impl_name 5
    exact ImplEs.nil
    refine' stm_cons ?_ ?_
    refine' stm_setA 0 clsWs ?_
    refine' impl_cmp ?_ ?_
    refine' impl_lenO 4 1
    refine' impl_int
    refine' stm_nil
  case he => exact fun args v e => if_some e
noncomputable def lay_indent : Lay := { names := [(Str.ofString "self", .loc), (Str.ofString "tabsize", .loc), (Str.ofString "count", .loc), (Str.ofString "trailing", .loc), (Str.ofString "il", .loc), (Str.ofString "i", .loc)], globs := [Str.ofString "range", Str.ofString "len"] }
noncomputable def indent_body : St → Option (Fl × St) := (thenS (fun (σ : St) => ((fun (σ : St) => ((fun (σ : St) => σ.get 0) σ).bind (fldV clsWs 3)) σ).bind fun v => ((asgT [(fun (v : V) (σ : St) => some (σ.put 2 (Slot.val v))), (fun (v : V) (σ : St) => some (σ.put 3 (Slot.val v)))]) v σ).bind fun σ2 => some (Fl.next, σ2)) (thenS (fun (σ : St) => ((fun (_ : St) => some (V.int 0)) σ).bind fun v => some (Fl.next, σ.put 4 (Slot.val v))) (thenS (fun (σ : St) => ((fun (σ : St) => ((fun (σ : St) => ((fun (σ : St) => σ.get 1) σ).bind fun a => ((fun (σ : St) => ((fun (σ : St) => ((fun (σ : St) => ((fun (σ : St) => σ.get 2) σ).bind fun a => ((fun (_ : St) => some []) σ).bind fun l => some (a :: l)) σ).bind lenF) σ).bind fun a => ((fun (_ : St) => some []) σ).bind fun l => some (a :: l)) σ).bind fun l => some (a :: l)) σ).bind rangeV) σ).bind fun vs => loopF (fun (v : V) (σ : St) => some (σ.put 5 (Slot.val v))) (thenS (fun (σ : St) => ((fun (σ : St) => ((fun (σ : St) => σ.get 4) σ).bind fun a => ((fun (σ : St) => ((fun (σ : St) => ((fun (σ : St) => σ.get 5) σ).bind fun a => ((fun (σ : St) => σ.get 1) σ).bind fun b => binV .FloorDiv a b) σ).bind fun a => ((fun (σ : St) => ((fun (σ : St) => σ.get 2) σ).bind fun a => ((fun (σ : St) => σ.get 5) σ).bind fun b => itemV a b) σ).bind fun b => binV .Mult a b) σ).bind fun b => binV .Add a b) σ).bind fun v => some (Fl.next, σ.put 4 (Slot.val v))) (fun (σ : St) => some (Fl.next, σ))) vs σ) (thenS (fun (σ : St) => ((fun (σ : St) => ((fun (σ : St) => σ.get 3) σ).bind fun a => ((fun (σ : St) => ((fun (σ : St) => σ.get 1) σ).bind fun a => ((fun (σ : St) => ((fun (σ : St) => σ.get 4) σ).bind fun a => ((fun (σ : St) => ((fun (σ : St) => σ.get 0) σ).bind (fldV clsWs 2)) σ).bind fun b => binV .Add a b) σ).bind fun b => binV .Mult a b) σ).bind fun b => binV .Add a b) σ).bind fun v => some (Fl.ret v, σ)) (fun (σ : St) => some (Fl.next, σ))))))
noncomputable def indentF (args : List V) : Option V := if args.length = 2 then retV (indent_body (initSt lay_indent args)) else none
theorem indent_spec : FnSpec prog w (Mine.kTop w.params) mg mb (n + 1) (.ref 108) indentF := by
  refine' fn_specE (fb := _) lay_indent [Str.ofString "self", Str.ofString "tabsize"] (by k_is) rfl rfl (by k_is) ?ok ?bind ?hb ?he
  case ok => intro L; kernel_rfl
  case bind => intro xs h; obtain ⟨x0, x1, rfl⟩ := len2 h; rfl
  case hb =>
    intro L
    generalize callEnvC _ L 108 = env
    refine' stm_cons ?_ ?_
    refine' stm_tuple ?_ ?_
    refine' impl_attr clsWs 3 ?_
    refine' impl_name 0
    refine' tgt_tuple ?_
    refine' ImplAs.cons ?_ ?_
    refine' tgt_name 2
    refine' ImplAs.cons ?_ ?_
    refine' tgt_name 3
    exact ImplAs.nil
    refine' stm_cons ?_ ?_
    refine' stm_assign 4 ?_
    refine' impl_int
    refine' stm_cons ?_ ?_
    refine' stm_for ?_ ?_ ?_
    refine' impli_range 0 ?_
    refine' ImplEs.cons ?_ ?_ (by intro _; rfl)
    refine' impl_name 1
    refine' ImplEs.cons ?_ ?_ (by intro _; rfl)
    refine' impl_callB 1 spec_len PyProof.Rows.Boot.len ?_
    rotate_left 1
    refine' ImplEs.cons ?_ ?_ (by intro _; rfl)
    refine' impl_name 2
    exact ImplEs.nil
    exact ImplEs.nil
    refine' tgt_name 5
    refine' stm_cons ?_ ?_
    refine' stm_assign 4 ?_
    refine' impl_bin ?_ ?_
    refine' impl_name 4
    refine' impl_bin ?_ ?_
    refine' impl_bin ?_ ?_
    refine' impl_name 5
    refine' impl_name 1
    refine' impl_sub ?_ ?_
    refine' impl_name 2
    refine' impl_name 5
    refine' stm_nil
    refine' stm_cons ?_ ?_
    refine' stm_ret ?_
    refine' impl_bin ?_ ?_
    refine' impl_name 3
    refine' impl_bin ?_ ?_
    refine' impl_name 1
    refine' impl_bin ?_ ?_
    refine' impl_name 4
    refine' impl_attr clsWs 2 ?_
    refine' impl_name 0
    refine' stm_nil
  case he => exact fun args v e => if_some e
theorem ws_ctor : FnSpec prog w (Mine.kTop w.params) mg mb (n + 3) (.ref 139) (fun args => (wsInitF args).map (.inst clsWs)) := ctor_spec wsInit_spec
end Mine
end L1g4_part
section L1h_part
open PySem PySem.W PyProof.Rows PySem.Calls
set_option Elab.async false
set_option maxRecDepth 100000
set_option maxHeartbeats 1000000
namespace Mine
variable {prog : Program} {w : World} {mg mb : Str → Option Value} {n : Nat}
noncomputable def lay_lawHues : Lay := { names := [(Str.ofString "size", .loc), (Str.ofString "stops", .loc), (Str.ofString "rows", .loc), (Str.ofString "k", .loc), (Str.ofString "r", .loc), (Str.ofString "g", .loc), (Str.ofString "b", .loc)], globs := [Str.ofString "range", Str.ofString "hsv_to_rgb", Str.ofString "rgb_to_hsv"] }
noncomputable def lawHues_body : St → Option (Fl × St) := (thenS (fun (σ : St) => ((fun (σ : St) => ((fun (_ : St) => some []) σ).bind fun l => if l.length ≤ sizeLine then some l else none) σ).bind fun l => some (Fl.next, { vars := σ.vars.set 2 (.own σ.owns.length), owns := σ.owns ++ [.lst l] })) (thenS (fun (σ : St) => ((fun (σ : St) => ((fun (σ : St) => ((fun (σ : St) => σ.get 1) σ).bind fun a => ((fun (_ : St) => some []) σ).bind fun l => some (a :: l)) σ).bind rangeV) σ).bind fun vs => loopF (fun (v : V) (σ : St) => some (σ.put 3 (Slot.val v))) (thenS (fun (σ : St) => ((fun (σ : St) => ((fun (σ : St) => ((fun (σ : St) => ((fun (σ : St) => ((fun (σ : St) => σ.get 3) σ).bind fun a => ((fun (σ : St) => σ.get 0) σ).bind fun b => binV .Mult a b) σ).bind fun a => ((fun (σ : St) => σ.get 1) σ).bind fun b => binV .Div a b) σ).bind fun a => ((fun (σ : St) => ((fun (_ : St) => some (V.flt 4607182418800017408)) σ).bind fun a => ((fun (σ : St) => ((fun (_ : St) => some (V.flt 4607182418800017408)) σ).bind fun a => ((fun (_ : St) => some []) σ).bind fun l => some (a :: l)) σ).bind fun l => some (a :: l)) σ).bind fun l => some (a :: l)) σ).bind hsvRgbF) σ).bind fun v => ((asgT [(fun (v : V) (σ : St) => some (σ.put 4 (Slot.val v))), (fun (v : V) (σ : St) => some (σ.put 5 (Slot.val v))), (fun (v : V) (σ : St) => some (σ.put 6 (Slot.val v)))]) v σ).bind fun σ2 => some (Fl.next, σ2)) (thenS (fun (σ : St) => (σ.ownAt 2).bind fun k => ((fun (σ : St) => ((fun (σ : St) => ((fun (σ : St) => σ.get 3) σ).bind fun a => ((fun (σ : St) => ((fun (σ : St) => ((fun (σ : St) => ((fun (σ : St) => ((fun (σ : St) => σ.get 4) σ).bind fun a => ((fun (σ : St) => ((fun (σ : St) => σ.get 5) σ).bind fun a => ((fun (σ : St) => ((fun (σ : St) => σ.get 6) σ).bind fun a => ((fun (_ : St) => some []) σ).bind fun l => some (a :: l)) σ).bind fun l => some (a :: l)) σ).bind fun l => some (a :: l)) σ).bind rgbHsvF) σ).bind fun a => ((fun (_ : St) => some (V.int 0)) σ).bind fun b => itemV a b) σ).bind fun a => ((fun (_ : St) => some []) σ).bind fun l => some (a :: l)) σ).bind fun l => some (a :: l)) σ).bind fun l => if l.length ≤ sizeLine then some (V.tup l) else none) σ).bind fun v => (σ.push k v).bind fun σ2 => some (Fl.next, σ2)) (fun (σ : St) => some (Fl.next, σ)))) vs σ) (thenS (fun (σ : St) => (σ.own 2).bind fun v => (outV v).bind fun v => some (Fl.ret v, σ)) (fun (σ : St) => some (Fl.next, σ)))))
noncomputable def lawHuesF (args : List V) : Option V := if args.length = 2 then retV (lawHues_body (initSt lay_lawHues args)) else none
theorem lawHues_spec : FnSpec prog w (Mine.kTop w.params) mg mb (n + 3) (.ref 150) lawHuesF := by
  refine' fn_specE (fb := _) lay_lawHues [Str.ofString "size", Str.ofString "stops"] (by k_is) rfl rfl (by k_is) ?ok ?bind ?hb ?he
  case ok => intro L; kernel_rfl
  case bind => intro xs h; obtain ⟨x0, x1, rfl⟩ := len2 h; rfl
  case hb =>
    intro L
    generalize callEnvC _ L 150 = env
    refine' stm_cons ?_ ?_
    refine' stm_ownL 2 ?_
    refine' fresh_list ?_
    exact ImplEs.nil
    refine' stm_cons ?_ ?_
    refine' stm_for ?_ ?_ ?_
    refine' impli_range 0 ?_
    refine' ImplEs.cons ?_ ?_ (by intro _; rfl)
    refine' impl_name 1
    exact ImplEs.nil
    refine' tgt_name 3
    refine' stm_cons ?_ ?_
    refine' stm_tuple ?_ ?_
    refine' impl_callK 1 hsvRgb_spec ?_
    rotate_left 1
    refine' ImplEs.cons ?_ ?_ (by intro _; rfl)
    refine' impl_bin ?_ ?_
    refine' impl_bin ?_ ?_
    refine' impl_name 3
    refine' impl_name 0
    refine' impl_name 1
    refine' ImplEs.cons ?_ ?_ (by intro _; rfl)
    refine' impl_flt
    refine' ImplEs.cons ?_ ?_ (by intro _; rfl)
    refine' impl_flt
    exact ImplEs.nil
    refine' tgt_tuple ?_
    refine' ImplAs.cons ?_ ?_
    refine' tgt_name 4
    refine' ImplAs.cons ?_ ?_
    refine' tgt_name 5
    refine' ImplAs.cons ?_ ?_
    refine' tgt_name 6
    exact ImplAs.nil
    refine' stm_cons ?_ ?_
    refine' stm_append 2 ?_
    refine' impl_tupleE ?_
    refine' ImplEs.cons ?_ ?_ (by intro _; rfl)
    refine' impl_name 3
    refine' ImplEs.cons ?_ ?_ (by intro _; rfl)
    refine' impl_sub ?_ ?_
    refine' impl_callK 2 rgbHsv_spec ?_
    rotate_left 1
    refine' ImplEs.cons ?_ ?_ (by intro _; rfl)
    refine' impl_name 4
    refine' ImplEs.cons ?_ ?_ (by intro _; rfl)
    refine' impl_name 5
    refine' ImplEs.cons ?_ ?_ (by intro _; rfl)
    refine' impl_name 6
    exact ImplEs.nil
    refine' impl_int
    exact ImplEs.nil
    refine' stm_nil
    refine' stm_cons ?_ ?_
    refine' stm_retO 2
    refine' stm_nil
  case he => exact fun args v e => if_some e
noncomputable def lay_lawRooms : Lay := { names := [(Str.ofString "size", .cell), (Str.ofString "stops", .cell)], globs := [Str.ofString "range"] }
noncomputable def laylawRooms1 : Lay := { names := [(Str.ofString "k", .loc), (Str.ofString "size", .cap), (Str.ofString "stops", .cap)], globs := [Str.ofString "Whitespace"] }
noncomputable def lawRooms_body : St → Option (Fl × St) := (thenS (fun (σ : St) => ((compV (fun (σ : St) => ((fun (σ : St) => ((fun (σ : St) => σ.get 0) σ).bind fun a => ((fun (_ : St) => some []) σ).bind fun l => some (a :: l)) σ).bind rangeV) [none, some 0, some 1] (fun (v : V) (σ : St) => some (σ.put 0 (Slot.val v))) (fun (_ : St) => some true) (fun (σ : St) => ((fun (σ : St) => ((fun (σ : St) => ((fun (σ : St) => σ.get 0) σ).bind fun a => ((fun (σ : St) => ((fun (σ : St) => ((fun (σ : St) => ((fun (σ : St) => ((fun (σ : St) => ((fun (σ : St) => ((fun (σ : St) => ((fun (_ : St) => some (V.str (Str.ofString " "))) σ).bind fun a => ((fun (σ : St) => ((fun (σ : St) => σ.get 0) σ).bind fun a => ((fun (σ : St) => σ.get 2) σ).bind fun b => binV .Mult a b) σ).bind fun b => binV .Mult a b) σ).bind fun a => ((fun (_ : St) => some (V.str (Str.ofString "\t"))) σ).bind fun b => binV .Add a b) σ).bind fun a => ((fun (_ : St) => some []) σ).bind fun l => some (a :: l)) σ).bind (fun args => (wsInitF args).map (.inst clsWs))) σ).bind fun v => match v with | V.inst C' l => if C' = clsWs then ((fun (σ : St) => ((fun (σ : St) => σ.get 1) σ).bind fun a => ((fun (_ : St) => some []) σ).bind fun l => some (a :: l)) σ).bind fun l' => indentF (V.inst C' l :: l') else none | _ => none) σ).bind fun a => ((fun (σ : St) => ((fun (σ : St) => σ.get 0) σ).bind fun a => ((fun (σ : St) => σ.get 2) σ).bind fun b => binV .Mult a b) σ).bind fun b => binV .Sub a b) σ).bind fun a => ((fun (_ : St) => some []) σ).bind fun l => some (a :: l)) σ).bind fun l => some (a :: l)) σ).bind fun l => if l.length ≤ sizeLine then some (V.tup l) else none) σ).bind fun v => σ.push 0 v)) σ).bind fun v => some (Fl.ret v, σ)) (fun (σ : St) => some (Fl.next, σ)))
noncomputable def lawRoomsF (args : List V) : Option V := if args.length = 2 then retV (lawRooms_body (initSt lay_lawRooms args)) else none
theorem lawRooms_spec : FnSpec prog w (Mine.kTop w.params) mg mb (n + 4) (.ref 155) lawRoomsF := by
  refine' fn_specE (fb := _) lay_lawRooms [Str.ofString "size", Str.ofString "stops"] (by k_is) rfl rfl (by k_is) ?ok ?bind ?hb ?he
  case ok => intro L; kernel_rfl
  case bind => intro xs h; obtain ⟨x0, x1, rfl⟩ := len2 h; rfl
  case hb =>
    intro L
    generalize callEnvC _ L 155 = env
    refine' stm_cons ?_ ?_
    refine' stm_ret ?_
    refine' impl_comp1 laylawRooms1 [none, some 0, some 1] ?q1a ?q1b ?q1c ?q1d
    case q1a =>
      refine' impli_range 0 ?_
      refine' ImplEs.cons ?_ ?_ (by intro _; rfl)
      refine' impl_name 0
      exact ImplEs.nil
    case q1b =>
      intro cl C
      generalize compEnvX _ cl C _ = cenv
      refine' tgt_name 0
    case q1c =>
      intro cl C
      generalize compEnvX _ cl C _ = cenv
      refine' ifs_nil
    case q1d =>
      intro cl C
      generalize compEnvX _ cl C _ = cenv
      refine' impl_tupleE ?_
      refine' ImplEs.cons ?_ ?_ (by intro _; rfl)
      refine' impl_name 0
      refine' ImplEs.cons ?_ ?_ (by intro _; rfl)
      refine' impl_bin ?_ ?_
      refine' impl_meth clsWs 108 indent_spec ?_ ?_
      rotate_left 2
      refine' impl_callK 0 ws_ctor ?_
      rotate_left 1
      refine' ImplEs.cons ?_ ?_ (by intro _; rfl)
      refine' impl_bin ?_ ?_
      refine' impl_bin ?_ ?_
      refine' impl_str
      refine' impl_bin ?_ ?_
      refine' impl_name 0
      refine' impl_name 2
      refine' impl_str
      exact ImplEs.nil
      refine' ImplEs.cons ?_ ?_ (by intro _; rfl)
      refine' impl_name 1
      exact ImplEs.nil
      refine' impl_bin ?_ ?_
      refine' impl_name 0
      refine' impl_name 2
      exact ImplEs.nil
    refine' stm_nil
  case he => exact fun args v e => if_some e
noncomputable def lay_lawTold : Lay := { names := [(Str.ofString "rows", .cell), (Str.ofString "way", .loc), (Str.ofString "judge", .cell)], globs := [Str.ofString "TupleComp", Str.ofString "range", Str.ofString "len"] }
noncomputable def laylawTold1 : Lay := { names := [(Str.ofString "j", .loc), (Str.ofString "i", .loc), (Str.ofString "judge", .cap), (Str.ofString "rows", .cap)], globs := [Str.ofString "range"] }
noncomputable def lawTold_body : St → Option (Fl × St) := (thenS (fun (σ : St) => ((fun (σ : St) => ((fun (σ : St) => ((fun (σ : St) => ((fun (σ : St) => ((fun (σ : St) => ((fun (σ : St) => ((fun (_ : St) => some (V.int 1)) σ).bind fun a => ((fun (σ : St) => ((fun (σ : St) => σ.get 1) σ).bind fun a => ((fun (_ : St) => some []) σ).bind fun l => some (a :: l)) σ).bind fun l => some (a :: l)) σ).bind fun l => if l.length ≤ sizeLine then some (V.tup l) else none) σ).bind fun a => ((fun (_ : St) => some []) σ).bind fun l => some (a :: l)) σ).bind fun l => if l.length ≤ sizeLine then some (V.lst l) else none) σ).bind fun a => ((fun (_ : St) => some []) σ).bind fun l => some (a :: l)) σ).bind (fun args => (tcInitF args).map (.inst clsComp))) σ).bind fun v => some (Fl.next, σ.put 2 (Slot.val v))) (thenS (fun (σ : St) => ((compV (fun (σ : St) => ((fun (σ : St) => ((fun (σ : St) => ((fun (σ : St) => ((fun (σ : St) => σ.get 0) σ).bind fun a => ((fun (_ : St) => some []) σ).bind fun l => some (a :: l)) σ).bind lenF) σ).bind fun a => ((fun (_ : St) => some []) σ).bind fun l => some (a :: l)) σ).bind rangeV) [none, none, some 2, some 0] (fun (v : V) (σ : St) => some (σ.put 0 (Slot.val v))) (fun (_ : St) => some true) (fun (σ : St) => ((fun (σ : St) => ((fun (σ : St) => ((fun (σ : St) => σ.get 0) σ).bind fun a => ((fun (_ : St) => some []) σ).bind fun l => some (a :: l)) σ).bind rangeV) σ).bind fun vs => loopC (fun (v : V) (σ : St) => some (σ.put 1 (Slot.val v))) (fun (_ : St) => some true) (fun (σ : St) => ((fun (σ : St) => ((fun (σ : St) => σ.get 2) σ).bind fun v => match v with | V.inst C' l => if C' = clsComp then ((fun (σ : St) => ((fun (σ : St) => ((fun (σ : St) => σ.get 3) σ).bind fun a => ((fun (σ : St) => σ.get 1) σ).bind fun b => itemV a b) σ).bind fun a => ((fun (σ : St) => ((fun (σ : St) => ((fun (σ : St) => σ.get 3) σ).bind fun a => ((fun (σ : St) => σ.get 0) σ).bind fun b => itemV a b) σ).bind fun a => ((fun (_ : St) => some []) σ).bind fun l => some (a :: l)) σ).bind fun l => some (a :: l)) σ).bind fun l' => compareF (V.inst C' l :: l') else none | _ => none) σ).bind fun v => σ.push 0 v) vs σ)) σ).bind fun v => some (Fl.ret v, σ)) (fun (σ : St) => some (Fl.next, σ))))
noncomputable def lawToldF (args : List V) : Option V := if args.length = 2 then retV (lawTold_body (initSt lay_lawTold args)) else none
theorem lawTold_spec : FnSpec prog w (Mine.kTop w.params) mg mb (n + 3) (.ref 160) lawToldF := by
  refine' fn_specE (fb := _) lay_lawTold [Str.ofString "rows", Str.ofString "way"] (by k_is) rfl rfl (by k_is) ?ok ?bind ?hb ?he
  case ok => intro L; kernel_rfl
  case bind => intro xs h; obtain ⟨x0, x1, rfl⟩ := len2 h; rfl
  case hb =>
    intro L
    generalize callEnvC _ L 160 = env
    refine' stm_cons ?_ ?_
    refine' stm_assign 2 ?_
    refine' impl_callK 0 tc_ctor ?_
    rotate_left 1
    refine' ImplEs.cons ?_ ?_ (by intro _; rfl)
    refine' impl_listE ?_
    refine' ImplEs.cons ?_ ?_ (by intro _; rfl)
    refine' impl_tupleE ?_
    refine' ImplEs.cons ?_ ?_ (by intro _; rfl)
    refine' impl_int
    refine' ImplEs.cons ?_ ?_ (by intro _; rfl)
    refine' impl_name 1
    exact ImplEs.nil
    exact ImplEs.nil
    exact ImplEs.nil
    refine' stm_cons ?_ ?_
    refine' stm_ret ?_
    refine' impl_comp2 laylawTold1 [none, none, some 2, some 0] ?q1a ?q1b ?q1c ?q1e ?q1f ?q1g ?q1d
    case q1a =>
      refine' impli_range 1 ?_
      refine' ImplEs.cons ?_ ?_ (by intro _; rfl)
      refine' impl_callB 2 spec_len PyProof.Rows.Boot.len ?_
      rotate_left 1
      refine' ImplEs.cons ?_ ?_ (by intro _; rfl)
      refine' impl_name 0
      exact ImplEs.nil
      exact ImplEs.nil
    case q1b =>
      intro cl C
      generalize compEnvX _ cl C _ = cenv
      refine' tgt_name 0
    case q1c =>
      intro cl C
      generalize compEnvX _ cl C _ = cenv
      refine' ifs_nil
    case q1e =>
      intro cl C
      generalize compEnvX _ cl C _ = cenv
      refine' impli_range 0 ?_
      refine' ImplEs.cons ?_ ?_ (by intro _; rfl)
      refine' impl_name 0
      exact ImplEs.nil
    case q1f =>
      intro cl C
      generalize compEnvX _ cl C _ = cenv
      refine' tgt_name 1
    case q1g =>
      intro cl C
      generalize compEnvX _ cl C _ = cenv
      refine' ifs_nil
    case q1d =>
      intro cl C
      generalize compEnvX _ cl C _ = cenv
      refine' impl_meth clsComp 42 compare_spec ?_ ?_
      rotate_left 2
      refine' impl_name 2
      refine' ImplEs.cons ?_ ?_ (by intro _; rfl)
      refine' impl_sub ?_ ?_
      refine' impl_name 3
      refine' impl_name 1
      refine' ImplEs.cons ?_ ?_ (by intro _; rfl)
      refine' impl_sub ?_ ?_
      refine' impl_name 3
      refine' impl_name 0
      exact ImplEs.nil
    refine' stm_nil
  case he => exact fun args v e => if_some e
noncomputable def lay_lawSums : Lay := { names := [(Str.ofString "rests", .loc), (Str.ofString "many", .loc), (Str.ofString "total", .loc), (Str.ofString "k", .loc), (Str.ofString "rest", .loc)], globs := [Str.ofString "enumerate", Str.ofString "add_func_stats"] }
noncomputable def lawSums_body : St → Option (Fl × St) := (thenS (fun (σ : St) => ((fun (σ : St) => ((fun (σ : St) => ((fun (_ : St) => some (V.int 0)) σ).bind fun a => ((fun (σ : St) => ((fun (_ : St) => some (V.int 0)) σ).bind fun a => ((fun (σ : St) => ((fun (_ : St) => some (V.int 0)) σ).bind fun a => ((fun (σ : St) => ((fun (_ : St) => some (V.int 0)) σ).bind fun a => ((fun (σ : St) => ((fun (_ : St) => some (V.dct [])) σ).bind fun a => ((fun (_ : St) => some []) σ).bind fun l => some (a :: l)) σ).bind fun l => some (a :: l)) σ).bind fun l => some (a :: l)) σ).bind fun l => some (a :: l)) σ).bind fun l => some (a :: l)) σ).bind fun l => if l.length ≤ sizeLine then some (V.tup l) else none) σ).bind fun v => some (Fl.next, σ.put 2 (Slot.val v))) (thenS (fun (σ : St) => ((fun (σ : St) => ((fun (σ : St) => ((fun (σ : St) => σ.get 0) σ).bind fun a => ((fun (_ : St) => some []) σ).bind fun l => some (a :: l)) σ).bind enumV) σ).bind fun vs => loopF (asgT [(fun (v : V) (σ : St) => some (σ.put 3 (Slot.val v))), (fun (v : V) (σ : St) => some (σ.put 4 (Slot.val v)))]) (thenS (fun (σ : St) => ((fun (σ : St) => ((fun (σ : St) => σ.get 3) σ).bind fun a => ((fun (_ : St) => some (V.int 0)) σ).bind fun b => cmpB .Gt a b) σ).bind fun b => if b then (thenS (fun (σ : St) => ((fun (σ : St) => ((fun (σ : St) => ((fun (σ : St) => σ.get 2) σ).bind fun a => ((fun (σ : St) => ((fun (σ : St) => ((fun (σ : St) => ((fun (_ : St) => some (V.int 1)) σ).bind fun a => ((fun (σ : St) => ((fun (σ : St) => σ.get 3) σ).bind fun a => ((fun (σ : St) => ((fun (σ : St) => σ.get 4) σ).bind fun a => ((fun (σ : St) => ((fun (σ : St) => ((fun (σ : St) => ((fun (σ : St) => ((fun (_ : St) => some (V.int 2)) σ).bind fun a => ((fun (σ : St) => σ.get 3) σ).bind fun b => binV .Mult a b) σ).bind fun a => ((fun (σ : St) => σ.get 1) σ).bind fun b => binV .Sub a b) σ).bind fun a => ((fun (σ : St) => ((fun (σ : St) => ((fun (_ : St) => some (V.int 2)) σ).bind fun a => ((fun (σ : St) => σ.get 4) σ).bind fun b => binV .Mult a b) σ).bind fun a => ((fun (σ : St) => σ.get 1) σ).bind fun b => binV .Sub a b) σ).bind fun b => binV .Mult a b) σ).bind fun a => ((fun (σ : St) => ((fun (σ : St) => (((fun (σ : St) => σ.get 4) σ).bind fun a => ((fun (_ : St) => some (V.int 1)) σ).bind fun b => some [(a, b)]).bind fun l => (keysV l).map fun ks => V.dct (mergedV ks)) σ).bind fun a => ((fun (_ : St) => some []) σ).bind fun l => some (a :: l)) σ).bind fun l => some (a :: l)) σ).bind fun l => some (a :: l)) σ).bind fun l => some (a :: l)) σ).bind fun l => some (a :: l)) σ).bind fun l => if l.length ≤ sizeLine then some (V.tup l) else none) σ).bind fun a => ((fun (_ : St) => some []) σ).bind fun l => some (a :: l)) σ).bind fun l => some (a :: l)) σ).bind addStatsF) σ).bind fun v => some (Fl.next, σ.put 2 (Slot.val v))) (fun (σ : St) => some (Fl.next, σ))) σ else (fun (σ : St) => some (Fl.next, σ)) σ) (fun (σ : St) => some (Fl.next, σ))) vs σ) (thenS (fun (σ : St) => ((fun (σ : St) => σ.get 2) σ).bind fun v => some (Fl.ret v, σ)) (fun (σ : St) => some (Fl.next, σ)))))
noncomputable def lawSumsF (args : List V) : Option V := if args.length = 2 then retV (lawSums_body (initSt lay_lawSums args)) else none
theorem lawSums_spec : FnSpec prog w (Mine.kTop w.params) mg mb (n + 4) (.ref 167) lawSumsF := by
  refine' fn_specE (fb := _) lay_lawSums [Str.ofString "rests", Str.ofString "many"] (by k_is) rfl rfl (by k_is) ?ok ?bind ?hb ?he
  case ok => intro L; kernel_rfl
  case bind => intro xs h; obtain ⟨x0, x1, rfl⟩ := len2 h; rfl
  case hb =>
    intro L
    generalize callEnvC _ L 167 = env
    refine' stm_cons ?_ ?_
    refine' stm_assign 2 ?_
    refine' impl_tupleE ?_
    refine' ImplEs.cons ?_ ?_ (by intro _; rfl)
    refine' impl_int
    refine' ImplEs.cons ?_ ?_ (by intro _; rfl)
    refine' impl_int
    refine' ImplEs.cons ?_ ?_ (by intro _; rfl)
    refine' impl_int
    refine' ImplEs.cons ?_ ?_ (by intro _; rfl)
    refine' impl_int
    refine' ImplEs.cons ?_ ?_ (by intro _; rfl)
    refine' impl_dict0
    exact ImplEs.nil
    refine' stm_cons ?_ ?_
    refine' stm_for ?_ ?_ ?_
    refine' impli_enum 0 ?_ PyProof.Rows.Boot.enumerate
    refine' ImplEs.cons ?_ ?_ (by intro _; rfl)
    refine' impl_name 0
    exact ImplEs.nil
    refine' tgt_tuple ?_
    refine' ImplAs.cons ?_ ?_
    refine' tgt_name 3
    refine' ImplAs.cons ?_ ?_
    refine' tgt_name 4
    exact ImplAs.nil
    refine' stm_cons ?_ ?_
    refine' stm_if ?_ ?_ ?_
    refine' test_cmp ?_ ?_
    refine' impl_name 3
    refine' impl_int
    refine' stm_cons ?_ ?_
    refine' stm_assign 2 ?_
    refine' impl_callK 1 addStats_spec ?_
    rotate_left 1
    refine' ImplEs.cons ?_ ?_ (by intro _; rfl)
    refine' impl_name 2
    refine' ImplEs.cons ?_ ?_ (by intro _; rfl)
    refine' impl_tupleE ?_
    refine' ImplEs.cons ?_ ?_ (by intro _; rfl)
    refine' impl_int
    refine' ImplEs.cons ?_ ?_ (by intro _; rfl)
    refine' impl_name 3
    refine' ImplEs.cons ?_ ?_ (by intro _; rfl)
    refine' impl_name 4
    refine' ImplEs.cons ?_ ?_ (by intro _; rfl)
    refine' impl_bin ?_ ?_
    refine' impl_bin ?_ ?_
    refine' impl_bin ?_ ?_
    refine' impl_int
    refine' impl_name 3
    refine' impl_name 1
    refine' impl_bin ?_ ?_
    refine' impl_bin ?_ ?_
    refine' impl_int
    refine' impl_name 4
    refine' impl_name 1
    refine' ImplEs.cons ?_ ?_ (by intro _; rfl)
    refine' impl_dict1 ?_ ?_
    refine' impl_name 4
    refine' impl_int
    exact ImplEs.nil
    exact ImplEs.nil
    refine' stm_nil
    refine' stm_nil
    refine' stm_nil
    refine' stm_cons ?_ ?_
    refine' stm_ret ?_
    refine' impl_name 2
    refine' stm_nil
  case he => exact fun args v e => if_some e
end Mine
end L1h_part
section L1i_part
open PySem PySem.W PyProof.Rows PySem.Calls
set_option Elab.async false
set_option maxRecDepth 100000
set_option maxHeartbeats 1000000
namespace Mine
variable {prog : Program} {w : World} {mg mb : Str → Option Value} {n : Nat}
noncomputable def lay_law : Lay := { names := [(Str.ofString "script", .loc), (Str.ofString "size", .cell), (Str.ofString "stops", .cell), (Str.ofString "hues", .loc), (Str.ofString "rooms", .loc), (Str.ofString "wheel", .loc), (Str.ofString "tabs", .loc), (Str.ofString "turned", .loc), (Str.ofString "reached", .loc), (Str.ofString "told", .loc), (Str.ofString "rests", .loc), (Str.ofString "many", .cell), (Str.ofString "step", .cell), (Str.ofString "total", .loc), (Str.ofString "plain", .cell)], globs := [Str.ofString "sum", Str.ofString "range", Str.ofString "_law_hues", Str.ofString "_law_rooms", Str.ofString "_law_told", Str.ofString "_law_sums", Str.ofString "list"] }
noncomputable def laylaw1 : Lay := { names := [(Str.ofString "d", .loc), (Str.ofString "size", .cap), (Str.ofString "stops", .cap)], globs := [] }
noncomputable def laylaw2 : Lay := { names := [(Str.ofString "k", .loc), (Str.ofString "hue", .loc), (Str.ofString "stops", .cap)], globs := [Str.ofString "round"] }
noncomputable def laylaw3 : Lay := { names := [(Str.ofString "k", .loc), (Str.ofString "room", .loc), (Str.ofString "size", .cap)], globs := [] }
noncomputable def laylaw4 : Lay := { names := [(Str.ofString "k", .loc), (Str.ofString "many", .cap), (Str.ofString "step", .cap)], globs := [] }
noncomputable def laylaw5 : Lay := { names := [(Str.ofString "j", .loc), (Str.ofString "i", .loc), (Str.ofString "plain", .cap)], globs := [Str.ofString "range"] }
noncomputable def laylaw6 : Lay := { names := [(Str.ofString "rest", .loc)], globs := [] }
noncomputable def law_tail : St → Option (Fl × St) := (thenS (whileF (fun (σ : St) => ((compV (fun (σ : St) => ((fun (σ : St) => ((fun (_ : St) => some (V.int 2)) σ).bind fun a => ((fun (σ : St) => ((fun (σ : St) => ((fun (σ : St) => σ.get 1) σ).bind fun a => ((fun (_ : St) => some (V.int 1)) σ).bind fun b => binV .Add a b) σ).bind fun a => ((fun (_ : St) => some []) σ).bind fun l => some (a :: l)) σ).bind fun l => some (a :: l)) σ).bind rangeV) [none, some 1, some 2] (fun (v : V) (σ : St) => some (σ.put 0 (Slot.val v))) (fun (σ : St) => ((fun (σ : St) => ((fun (σ : St) => ((fun (σ : St) => σ.get 1) σ).bind fun a => ((fun (σ : St) => σ.get 0) σ).bind fun b => binV .Mod a b) σ).bind fun a => ((fun (_ : St) => some (V.int 0)) σ).bind fun b => cmpB .Eq a b) σ).bind fun a => if a then (fun (σ : St) => ((fun (σ : St) => ((fun (σ : St) => ((fun (σ : St) => σ.get 2) σ).bind fun a => ((fun (σ : St) => σ.get 0) σ).bind fun b => binV .Mod a b) σ).bind fun a => ((fun (_ : St) => some (V.int 0)) σ).bind fun b => cmpB .Eq a b) σ).bind fun a => if a then (fun (_ : St) => some true) σ else some false) σ else some false) (fun (σ : St) => ((fun (σ : St) => σ.get 0) σ).bind fun v => σ.push 0 v)) σ).bind fun a => ((fun (σ : St) => ((fun (_ : St) => some []) σ).bind fun l => if l.length ≤ sizeLine then some (V.lst l) else none) σ).bind fun b => cmpB .NotEq a b) (thenS (fun (σ : St) => (σ.get 2).bind fun a => ((fun (_ : St) => some (V.int 1)) σ).bind fun v => match a, v with | .int a, .int b => some (Fl.next, σ.put 2 (.val (.int (a + b)))) | _, _ => none) (fun (σ : St) => some (Fl.next, σ))) 20) (thenS (fun (σ : St) => ((fun (σ : St) => ((fun (σ : St) => ((fun (σ : St) => σ.get 1) σ).bind fun a => ((fun (σ : St) => ((fun (σ : St) => σ.get 2) σ).bind fun a => ((fun (_ : St) => some []) σ).bind fun l => some (a :: l)) σ).bind fun l => some (a :: l)) σ).bind lawHuesF) σ).bind fun v => some (Fl.next, σ.put 3 (Slot.val v))) (thenS (fun (σ : St) => ((fun (σ : St) => ((fun (σ : St) => ((fun (σ : St) => σ.get 1) σ).bind fun a => ((fun (σ : St) => ((fun (σ : St) => σ.get 2) σ).bind fun a => ((fun (_ : St) => some []) σ).bind fun l => some (a :: l)) σ).bind fun l => some (a :: l)) σ).bind lawRoomsF) σ).bind fun v => some (Fl.next, σ.put 4 (Slot.val v))) (thenS (fun (σ : St) => ((fun (σ : St) => ((fun (σ : St) => ((fun (σ : St) => σ.get 3) σ).bind fun a => ((fun (σ : St) => ((fun (_ : St) => some (V.int 1)) σ).bind fun a => ((fun (_ : St) => some []) σ).bind fun l => some (a :: l)) σ).bind fun l => some (a :: l)) σ).bind lawToldF) σ).bind fun v => some (Fl.next, σ.put 5 (Slot.val v))) (thenS (fun (σ : St) => ((fun (σ : St) => ((fun (σ : St) => ((fun (σ : St) => σ.get 4) σ).bind fun a => ((fun (σ : St) => ((fun (σ : St) => ((fun (_ : St) => some (V.int 1)) σ).bind negV) σ).bind fun a => ((fun (_ : St) => some []) σ).bind fun l => some (a :: l)) σ).bind fun l => some (a :: l)) σ).bind lawToldF) σ).bind fun v => some (Fl.next, σ.put 6 (Slot.val v))) (thenS (fun (σ : St) => ((fun (σ : St) => ((fun (σ : St) => ((fun (_ : St) => some (V.int 4)) σ).bind fun a => ((fun (σ : St) => ((fun (σ : St) => ((fun (σ : St) => σ.get 1) σ).bind fun a => ((fun (σ : St) => ((fun (σ : St) => σ.get 5) σ).bind fun a => ((fun (_ : St) => some (V.int 1)) σ).bind fun b => countV a b) σ).bind fun b => binV .Mult a b) σ).bind fun a => ((fun (σ : St) => ((fun (σ : St) => σ.get 2) σ).bind fun a => ((fun (σ : St) => ((fun (σ : St) => σ.get 6) σ).bind fun a => ((fun (_ : St) => some (V.int 1)) σ).bind fun b => countV a b) σ).bind fun b => binV .Mult a b) σ).bind fun b => binV .Add a b) σ).bind fun b => binV .Mult a b) σ).bind fun a => ((fun (σ : St) => ((fun (σ : St) => ((fun (σ : St) => ((fun (σ : St) => σ.get 1) σ).bind fun a => ((fun (_ : St) => some (V.int 1)) σ).bind fun b => binV .Sub a b) σ).bind fun a => ((fun (σ : St) => ((fun (σ : St) => σ.get 2) σ).bind fun a => ((fun (_ : St) => some (V.int 1)) σ).bind fun b => binV .Sub a b) σ).bind fun b => binV .Mult a b) σ).bind fun a => ((fun (σ : St) => ((fun (σ : St) => ((fun (σ : St) => σ.get 1) σ).bind fun a => ((fun (σ : St) => σ.get 2) σ).bind fun b => binV .Add a b) σ).bind fun a => ((fun (_ : St) => some (V.int 1)) σ).bind fun b => binV .Sub a b) σ).bind fun b => binV .Mult a b) σ).bind fun b => cmpB .NotEq a b) σ).bind fun b => if b then (thenS (fun (σ : St) => ((fun (_ : St) => some (V.bool false)) σ).bind fun v => some (Fl.ret v, σ)) (fun (σ : St) => some (Fl.next, σ))) σ else (fun (σ : St) => some (Fl.next, σ)) σ) (thenS (fun (σ : St) => (compL (fun (σ : St) => ((fun (σ : St) => σ.get 3) σ).bind iterV) [none, none, some 2] (asgT [(fun (v : V) (σ : St) => some (σ.put 0 (Slot.val v))), (fun (v : V) (σ : St) => some (σ.put 1 (Slot.val v)))]) (fun (_ : St) => some true) (fun (σ : St) => ((fun (σ : St) => ((fun (σ : St) => ((fun (σ : St) => ((fun (σ : St) => σ.get 1) σ).bind fun a => ((fun (σ : St) => σ.get 2) σ).bind fun b => binV .Mult a b) σ).bind fun a => ((fun (_ : St) => some []) σ).bind fun l => some (a :: l)) σ).bind roundF) σ).bind fun v => σ.push 0 v) σ).bind fun l => some (Fl.next, σ.put 7 (.val (.lst l)))) (thenS (fun (σ : St) => (compL (fun (σ : St) => ((fun (σ : St) => σ.get 4) σ).bind iterV) [none, none, some 1] (asgT [(fun (v : V) (σ : St) => some (σ.put 0 (Slot.val v))), (fun (v : V) (σ : St) => some (σ.put 1 (Slot.val v)))]) (fun (_ : St) => some true) (fun (σ : St) => ((fun (σ : St) => ((fun (σ : St) => σ.get 2) σ).bind fun a => ((fun (σ : St) => σ.get 1) σ).bind fun b => binV .Sub a b) σ).bind fun v => σ.push 0 v) σ).bind fun l => some (Fl.next, σ.put 8 (.val (.lst l)))) (thenS (fun (σ : St) => ((fun (σ : St) => ((fun (σ : St) => ((fun (σ : St) => ((fun (σ : St) => ((fun (σ : St) => ((fun (σ : St) => σ.get 5) σ).bind fun a => ((fun (σ : St) => ((fun (σ : St) => σ.get 7) σ).bind fun a => ((fun (σ : St) => ((fun (σ : St) => σ.get 2) σ).bind fun a => ((fun (σ : St) => ((fun (σ : St) => σ.get 1) σ).bind fun a => ((fun (_ : St) => some []) σ).bind fun l => some (a :: l)) σ).bind fun l => some (a :: l)) σ).bind fun l => some (a :: l)) σ).bind fun l => some (a :: l)) σ).bind fun l => if l.length ≤ sizeLine then some (V.tup l) else none) σ).bind fun a => ((fun (σ : St) => ((fun (σ : St) => ((fun (σ : St) => ((fun (σ : St) => σ.get 6) σ).bind fun a => ((fun (σ : St) => ((fun (σ : St) => σ.get 8) σ).bind fun a => ((fun (σ : St) => ((fun (σ : St) => σ.get 1) σ).bind fun a => ((fun (σ : St) => ((fun (σ : St) => σ.get 2) σ).bind fun a => ((fun (_ : St) => some []) σ).bind fun l => some (a :: l)) σ).bind fun l => some (a :: l)) σ).bind fun l => some (a :: l)) σ).bind fun l => some (a :: l)) σ).bind fun l => if l.length ≤ sizeLine then some (V.tup l) else none) σ).bind fun a => ((fun (_ : St) => some []) σ).bind fun l => some (a :: l)) σ).bind fun l => some (a :: l)) σ).bind fun l => if l.length ≤ sizeLine then some (V.lst l) else none) σ).bind iterV) σ).bind fun vs => loopF (asgT [(fun (v : V) (σ : St) => some (σ.put 9 (Slot.val v))), (fun (v : V) (σ : St) => some (σ.put 10 (Slot.val v))), (fun (v : V) (σ : St) => some (σ.put 11 (Slot.val v))), (fun (v : V) (σ : St) => some (σ.put 12 (Slot.val v)))]) (thenS (fun (σ : St) => ((fun (σ : St) => ((fun (σ : St) => ((fun (σ : St) => σ.get 10) σ).bind fun a => ((fun (σ : St) => ((fun (σ : St) => σ.get 11) σ).bind fun a => ((fun (_ : St) => some []) σ).bind fun l => some (a :: l)) σ).bind fun l => some (a :: l)) σ).bind lawSumsF) σ).bind fun v => some (Fl.next, σ.put 13 (Slot.val v))) (thenS (fun (σ : St) => ((fun (σ : St) => ((fun (σ : St) => ((fun (σ : St) => ((fun (_ : St) => some (V.int 4)) σ).bind fun a => ((fun (σ : St) => σ.get 11) σ).bind fun b => binV .Mult a b) σ).bind fun a => ((fun (σ : St) => ((fun (σ : St) => σ.get 9) σ).bind fun a => ((fun (_ : St) => some (V.int 1)) σ).bind fun b => countV a b) σ).bind fun b => binV .Mult a b) σ).bind fun a => ((fun (σ : St) => ((fun (σ : St) => ((fun (σ : St) => ((fun (σ : St) => σ.get 11) σ).bind fun a => ((fun (σ : St) => ((fun (σ : St) => σ.get 11) σ).bind fun a => ((fun (_ : St) => some (V.int 1)) σ).bind fun b => binV .Sub a b) σ).bind fun b => binV .Mult a b) σ).bind fun a => ((fun (σ : St) => ((fun (σ : St) => σ.get 11) σ).bind fun a => ((fun (_ : St) => some (V.int 2)) σ).bind fun b => binV .Sub a b) σ).bind fun b => binV .Mult a b) σ).bind fun a => ((fun (σ : St) => ((fun (_ : St) => some (V.int 3)) σ).bind fun a => ((fun (σ : St) => ((fun (σ : St) => σ.get 13) σ).bind fun a => ((fun (_ : St) => some (V.int 3)) σ).bind fun b => itemV a b) σ).bind fun b => binV .Mult a b) σ).bind fun b => binV .Sub a b) σ).bind fun b => cmpB .NotEq a b) σ).bind fun b => if b then (thenS (fun (σ : St) => ((fun (_ : St) => some (V.bool false)) σ).bind fun v => some (Fl.ret v, σ)) (fun (σ : St) => some (Fl.next, σ))) σ else (fun (σ : St) => some (Fl.next, σ)) σ) (thenS (fun (σ : St) => ((compV (fun (σ : St) => ((fun (σ : St) => ((fun (σ : St) => σ.get 11) σ).bind fun a => ((fun (_ : St) => some []) σ).bind fun l => some (a :: l)) σ).bind rangeV) [none, some 11, some 12] (fun (v : V) (σ : St) => some (σ.put 0 (Slot.val v))) (fun (_ : St) => some true) (fun (σ : St) => ((fun (σ : St) => ((fun (σ : St) => ((fun (σ : St) => σ.get 0) σ).bind fun a => ((fun (σ : St) => σ.get 2) σ).bind fun b => binV .Mult a b) σ).bind fun a => ((fun (σ : St) => σ.get 1) σ).bind fun b => binV .Mod a b) σ).bind fun v => σ.push 0 v)) σ).bind fun v => some (Fl.next, σ.put 14 (Slot.val v))) (thenS (fun (σ : St) => ((fun (σ : St) => ((fun (σ : St) => σ.get 9) σ).bind fun a => ((compV (fun (σ : St) => ((fun (σ : St) => ((fun (σ : St) => σ.get 11) σ).bind fun a => ((fun (_ : St) => some []) σ).bind fun l => some (a :: l)) σ).bind rangeV) [none, none, some 14] (fun (v : V) (σ : St) => some (σ.put 0 (Slot.val v))) (fun (_ : St) => some true) (fun (σ : St) => ((fun (σ : St) => ((fun (σ : St) => ((fun (σ : St) => σ.get 0) σ).bind fun a => ((fun (_ : St) => some []) σ).bind fun l => some (a :: l)) σ).bind rangeV) σ).bind fun vs => loopC (fun (v : V) (σ : St) => some (σ.put 1 (Slot.val v))) (fun (_ : St) => some true) (fun (σ : St) => ((fun (σ : St) => ((fun (σ : St) => ((fun (σ : St) => ((fun (σ : St) => σ.get 2) σ).bind fun a => ((fun (σ : St) => σ.get 1) σ).bind fun b => itemV a b) σ).bind fun a => ((fun (σ : St) => ((fun (σ : St) => σ.get 2) σ).bind fun a => ((fun (σ : St) => σ.get 0) σ).bind fun b => itemV a b) σ).bind fun b => cmpB .Gt a b) σ).bind fun b => if b then (fun (_ : St) => some (V.int 1)) σ else (fun (σ : St) => ((fun (_ : St) => some (V.int 1)) σ).bind negV) σ) σ).bind fun v => σ.push 0 v) vs σ)) σ).bind fun b => cmpB .NotEq a b) σ).bind fun b => if b then (thenS (fun (σ : St) => ((fun (_ : St) => some (V.bool false)) σ).bind fun v => some (Fl.ret v, σ)) (fun (σ : St) => some (Fl.next, σ))) σ else (fun (σ : St) => some (Fl.next, σ)) σ) (thenS (fun (σ : St) => ((fun (σ : St) => ((fun (σ : St) => ((fun (σ : St) => ((fun (σ : St) => σ.get 13) σ).bind fun a => ((fun (_ : St) => some (V.int 4)) σ).bind fun b => itemV a b) σ).bind fun v => (itemsV v).bind fun l => if l.length ≤ sizeLine then some (V.lst l) else none) σ).bind fun a => ((compV (fun (σ : St) => ((fun (σ : St) => ((fun (σ : St) => σ.get 14) σ).bind fun v => ((fun (σ : St) => ((fun (_ : St) => some (V.int 1)) σ).bind fun v => match v with | .int z => some (some z) | _ => none) σ).bind fun lo => ((fun (_ : St) => some (none : Option Int)) σ).bind fun hi => match v with | .lst l => if l.length ≤ sizeLine then some (V.lst (pickL l lo hi)) else none | _ => none) σ).bind iterV) [none] (fun (v : V) (σ : St) => some (σ.put 0 (Slot.val v))) (fun (_ : St) => some true) (fun (σ : St) => ((fun (σ : St) => ((fun (σ : St) => ((fun (σ : St) => σ.get 0) σ).bind fun a => ((fun (σ : St) => ((fun (_ : St) => some (V.int 1)) σ).bind fun a => ((fun (_ : St) => some []) σ).bind fun l => some (a :: l)) σ).bind fun l => some (a :: l)) σ).bind fun l => if l.length ≤ sizeLine then some (V.tup l) else none) σ).bind fun v => σ.push 0 v)) σ).bind fun b => cmpB .NotEq a b) σ).bind fun b => if b then (thenS (fun (σ : St) => ((fun (_ : St) => some (V.bool false)) σ).bind fun v => some (Fl.ret v, σ)) (fun (σ : St) => some (Fl.next, σ))) σ else (fun (σ : St) => some (Fl.next, σ)) σ) (thenS (fun (σ : St) => ((fun (σ : St) => ((fun (σ : St) => ((fun (σ : St) => σ.get 13) σ).bind fun v => ((fun (_ : St) => some (V.int 3)) σ).bind fun k => match v, k with | .tup l, .int z => if 0 ≤ z ∧ z.toNat < l.length ∧ l.length ≤ sizeLine then some (V.tup (l.take z.toNat)) else none | _, _ => none) σ).bind fun a => ((fun (σ : St) => ((fun (σ : St) => ((fun (σ : St) => ((fun (σ : St) => σ.get 11) σ).bind fun a => ((fun (_ : St) => some (V.int 1)) σ).bind fun b => binV .Sub a b) σ).bind fun a => ((fun (σ : St) => ((fun (σ : St) => ((fun (σ : St) => σ.get 11) σ).bind fun v => match v with | .int z => if small62 z then some (V.int (sumR z.toNat)) else none | _ => none) σ).bind fun a => ((fun (σ : St) => ((fun (σ : St) => ((fun (σ : St) => σ.get 11) σ).bind fun v => match v with | .int z => if small62 z then some (V.int (sumR z.toNat)) else none | _ => none) σ).bind fun a => ((fun (_ : St) => some []) σ).bind fun l => some (a :: l)) σ).bind fun l => some (a :: l)) σ).bind fun l => some (a :: l)) σ).bind fun l => if l.length ≤ sizeLine then some (V.tup l) else none) σ).bind fun b => cmpB .NotEq a b) σ).bind fun b => if b then (thenS (fun (σ : St) => ((fun (_ : St) => some (V.bool false)) σ).bind fun v => some (Fl.ret v, σ)) (fun (σ : St) => some (Fl.next, σ))) σ else (fun (σ : St) => some (Fl.next, σ)) σ) (fun (σ : St) => some (Fl.next, σ)))))))) vs σ) (thenS (fun (σ : St) => ((fun (_ : St) => some (V.bool true)) σ).bind fun v => some (Fl.ret v, σ)) (fun (σ : St) => some (Fl.next, σ))))))))))))
noncomputable def law_body : St → Option (Fl × St) := (thenS (fun (σ : St) => ((fun (σ : St) => ((fun (σ : St) => ((fun (σ : St) => ((fun (σ : St) => ((fun (σ : St) => ((fun (σ : St) => ((fun (σ : St) => σ.get 0) σ).bind fun v => ((fun (_ : St) => some (none : Option Int)) σ).bind fun lo => ((fun (σ : St) => ((fun (_ : St) => some (V.int 3)) σ).bind fun v => match v with | .int z => some (some z) | _ => none) σ).bind fun hi => match v with | .lst l => if l.length ≤ sizeLine then some (V.lst (pickL l lo hi)) else none | _ => none) σ).bind fun a => ((fun (_ : St) => some []) σ).bind fun l => some (a :: l)) σ).bind sumF) σ).bind fun a => ((fun (_ : St) => some (V.int 1)) σ).bind fun b => binV .Add a b) σ).bind fun a => ((fun (_ : St) => some (V.int 6)) σ).bind fun b => binV .Mod a b) σ).bind fun a => ((fun (_ : St) => some (V.int 4)) σ).bind fun b => binV .Add a b) σ).bind fun v => some (Fl.next, σ.put 1 (Slot.val v))) (thenS (fun (σ : St) => ((fun (σ : St) => ((fun (σ : St) => ((fun (σ : St) => ((fun (σ : St) => ((fun (σ : St) => ((fun (σ : St) => ((fun (σ : St) => σ.get 0) σ).bind fun v => ((fun (σ : St) => ((fun (_ : St) => some (V.int 3)) σ).bind fun v => match v with | .int z => some (some z) | _ => none) σ).bind fun lo => ((fun (σ : St) => ((fun (_ : St) => some (V.int 6)) σ).bind fun v => match v with | .int z => some (some z) | _ => none) σ).bind fun hi => match v with | .lst l => if l.length ≤ sizeLine then some (V.lst (pickL l lo hi)) else none | _ => none) σ).bind fun a => ((fun (_ : St) => some []) σ).bind fun l => some (a :: l)) σ).bind sumF) σ).bind fun a => ((fun (_ : St) => some (V.int 3)) σ).bind fun b => binV .Add a b) σ).bind fun a => ((fun (_ : St) => some (V.int 6)) σ).bind fun b => binV .Mod a b) σ).bind fun a => ((fun (_ : St) => some (V.int 4)) σ).bind fun b => binV .Add a b) σ).bind fun v => some (Fl.next, σ.put 2 (Slot.val v))) law_tail))
noncomputable def lawF (args : List V) : Option V := if args.length = 1 then retV (law_body (initSt lay_law args)) else none
theorem law_code : ∀ A s B args xs v, Amb (n + 5) A → Base (Mine.kTop w.params) mg mb s.heap → Under B s.heap → lawF args = some v → Items prog w s.heap B args xs →
    ∀ R : Result → Shared → Prop, (∀ x s', Step s s' → VR prog w s'.heap B v x → R (.ok (.ret x)) s') → codeAny (model prog w) A (.call (.ref 172) ⟨xs, []⟩) R s := by
  refine' fn_codeE (fb := _) (F := lawF) lay_law [Str.ofString "script"] (by k_is) rfl rfl (by k_is) ?ok ?bind ?hb ?he
  case ok => intro L; kernel_rfl
  case bind => intro xs h; obtain ⟨x0, rfl⟩ := len1 h; rfl
  case hb =>
    intro L
    generalize callEnvC _ L 172 = env
    refine' stm_cons ?_ ?_
    refine' stm_assign 1 ?_
    refine' impl_bin ?_ ?_
    refine' impl_bin ?_ ?_
    refine' impl_bin ?_ ?_
    refine' impl_callB 0 spec_sum PyProof.Rows.Boot.sum ?_
    rotate_left 1
    refine' ImplEs.cons ?_ ?_ (by intro _; rfl)
    refine' impl_slice ?_ ?_ ?_
    refine' impl_name 0
    refine' part_none
    refine' part_some ?_
    refine' impl_int
    exact ImplEs.nil
    refine' impl_int
    refine' impl_int
    refine' impl_int
    refine' stm_cons ?_ ?_
    refine' stm_assign 2 ?_
    refine' impl_bin ?_ ?_
    refine' impl_bin ?_ ?_
    refine' impl_bin ?_ ?_
    refine' impl_callB 0 spec_sum PyProof.Rows.Boot.sum ?_
    rotate_left 1
    refine' ImplEs.cons ?_ ?_ (by intro _; rfl)
    refine' impl_slice ?_ ?_ ?_
    refine' impl_name 0
    refine' part_some ?_
    refine' impl_int
    refine' part_some ?_
    refine' impl_int
    exact ImplEs.nil
    refine' impl_int
    refine' impl_int
    refine' impl_int
    refine' stm_cons ?_ ?_
    refine' stm_while 20 ?_ ?_
    refine' test_cmp ?_ ?_
    refine' impl_comp1 laylaw1 [none, some 1, some 2] ?q1a ?q1b ?q1c ?q1d
    case q1a =>
      refine' impli_range 1 ?_
      refine' ImplEs.cons ?_ ?_ (by intro _; rfl)
      refine' impl_int
      refine' ImplEs.cons ?_ ?_ (by intro _; rfl)
      refine' impl_bin ?_ ?_
      refine' impl_name 1
      refine' impl_int
      exact ImplEs.nil
    case q1b =>
      intro cl C
      generalize compEnvX _ cl C _ = cenv
      refine' tgt_name 0
    case q1c =>
      intro cl C
      generalize compEnvX _ cl C _ = cenv
      refine' ifs_one ?_
      refine' test_bool ?_
      refine' test_and_cons ?_ ?_
      refine' test_cmp ?_ ?_
      refine' impl_bin ?_ ?_
      refine' impl_name 1
      refine' impl_name 0
      refine' impl_int
      refine' test_and_cons ?_ ?_
      refine' test_cmp ?_ ?_
      refine' impl_bin ?_ ?_
      refine' impl_name 2
      refine' impl_name 0
      refine' impl_int
      refine' test_and_nil
    case q1d =>
      intro cl C
      generalize compEnvX _ cl C _ = cenv
      refine' impl_name 0
    refine' impl_listE ?_
    exact ImplEs.nil
    refine' stm_cons ?_ ?_
    refine' stm_aug 2 ?_
    refine' impl_int
    refine' stm_nil
    refine' stm_cons ?_ ?_
    refine' stm_assign 3 ?_
    refine' impl_callK 2 lawHues_spec ?_
    rotate_left 1
    refine' ImplEs.cons ?_ ?_ (by intro _; rfl)
    refine' impl_name 1
    refine' ImplEs.cons ?_ ?_ (by intro _; rfl)
    refine' impl_name 2
    exact ImplEs.nil
    refine' stm_cons ?_ ?_
    refine' stm_assign 4 ?_
    refine' impl_callK 3 lawRooms_spec ?_
    rotate_left 1
    refine' ImplEs.cons ?_ ?_ (by intro _; rfl)
    refine' impl_name 1
    refine' ImplEs.cons ?_ ?_ (by intro _; rfl)
    refine' impl_name 2
    exact ImplEs.nil
    refine' stm_cons ?_ ?_
    refine' stm_assign 5 ?_
    refine' impl_callK 4 lawTold_spec ?_
    rotate_left 1
    refine' ImplEs.cons ?_ ?_ (by intro _; rfl)
    refine' impl_name 3
    refine' ImplEs.cons ?_ ?_ (by intro _; rfl)
    refine' impl_int
    exact ImplEs.nil
    refine' stm_cons ?_ ?_
    refine' stm_assign 6 ?_
    refine' impl_callK 4 lawTold_spec ?_
    rotate_left 1
    refine' ImplEs.cons ?_ ?_ (by intro _; rfl)
    refine' impl_name 4
    refine' ImplEs.cons ?_ ?_ (by intro _; rfl)
    refine' impl_neg ?_
    refine' impl_int
    exact ImplEs.nil
    refine' stm_cons ?_ ?_
    refine' stm_if ?_ ?_ ?_
    refine' test_cmp ?_ ?_
    refine' impl_bin ?_ ?_
    refine' impl_int
    refine' impl_bin ?_ ?_
    refine' impl_bin ?_ ?_
    refine' impl_name 1
    refine' impl_count ?_ ?_
    refine' impl_name 5
    refine' impl_int
    refine' impl_bin ?_ ?_
    refine' impl_name 2
    refine' impl_count ?_ ?_
    refine' impl_name 6
    refine' impl_int
    refine' impl_bin ?_ ?_
    refine' impl_bin ?_ ?_
    refine' impl_bin ?_ ?_
    refine' impl_name 1
    refine' impl_int
    refine' impl_bin ?_ ?_
    refine' impl_name 2
    refine' impl_int
    refine' impl_bin ?_ ?_
    refine' impl_bin ?_ ?_
    refine' impl_name 1
    refine' impl_name 2
    refine' impl_int
    refine' stm_cons ?_ ?_
    refine' stm_ret ?_
    refine' impl_bool
    refine' stm_nil
    refine' stm_nil
    refine' stm_cons ?_ ?_
    refine' stm_comp1 7 laylaw2 [none, none, some 2] ?q2a ?q2b ?q2c ?q2d
    case q2a =>
      refine' impli_val ?_
      refine' impl_name 3
    case q2b =>
      intro cl C
      generalize compEnvX _ cl C _ = cenv
      refine' tgt_tuple ?_
      refine' ImplAs.cons ?_ ?_
      refine' tgt_name 0
      refine' ImplAs.cons ?_ ?_
      refine' tgt_name 1
      exact ImplAs.nil
    case q2c =>
      intro cl C
      generalize compEnvX _ cl C _ = cenv
      refine' ifs_nil
    case q2d =>
      intro cl C
      generalize compEnvX _ cl C _ = cenv
      refine' impl_callB 0 spec_round PyProof.Rows.Boot.round ?_
      rotate_left 1
      refine' ImplEs.cons ?_ ?_ (by intro _; rfl)
      refine' impl_bin ?_ ?_
      refine' impl_name 1
      refine' impl_name 2
      exact ImplEs.nil
    refine' stm_cons ?_ ?_
    refine' stm_comp1 8 laylaw3 [none, none, some 1] ?q3a ?q3b ?q3c ?q3d
    case q3a =>
      refine' impli_val ?_
      refine' impl_name 4
    case q3b =>
      intro cl C
      generalize compEnvX _ cl C _ = cenv
      refine' tgt_tuple ?_
      refine' ImplAs.cons ?_ ?_
      refine' tgt_name 0
      refine' ImplAs.cons ?_ ?_
      refine' tgt_name 1
      exact ImplAs.nil
    case q3c =>
      intro cl C
      generalize compEnvX _ cl C _ = cenv
      refine' ifs_nil
    case q3d =>
      intro cl C
      generalize compEnvX _ cl C _ = cenv
      refine' impl_bin ?_ ?_
      refine' impl_name 2
      refine' impl_name 1
    refine' stm_cons ?_ ?_
    refine' stm_for ?_ ?_ ?_
    refine' impli_val ?_
    refine' impl_listE ?_
    refine' ImplEs.cons ?_ ?_ (by intro _; rfl)
    refine' impl_tupleE ?_
    refine' ImplEs.cons ?_ ?_ (by intro _; rfl)
    refine' impl_name 5
    refine' ImplEs.cons ?_ ?_ (by intro _; rfl)
    refine' impl_name 7
    refine' ImplEs.cons ?_ ?_ (by intro _; rfl)
    refine' impl_name 2
    refine' ImplEs.cons ?_ ?_ (by intro _; rfl)
    refine' impl_name 1
    exact ImplEs.nil
    refine' ImplEs.cons ?_ ?_ (by intro _; rfl)
    refine' impl_tupleE ?_
    refine' ImplEs.cons ?_ ?_ (by intro _; rfl)
    refine' impl_name 6
    refine' ImplEs.cons ?_ ?_ (by intro _; rfl)
    refine' impl_name 8
    refine' ImplEs.cons ?_ ?_ (by intro _; rfl)
    refine' impl_name 1
    refine' ImplEs.cons ?_ ?_ (by intro _; rfl)
    refine' impl_name 2
    exact ImplEs.nil
    exact ImplEs.nil
    refine' tgt_tuple ?_
    refine' ImplAs.cons ?_ ?_
    refine' tgt_name 9
    refine' ImplAs.cons ?_ ?_
    refine' tgt_name 10
    refine' ImplAs.cons ?_ ?_
    refine' tgt_name 11
    refine' ImplAs.cons ?_ ?_
    refine' tgt_name 12
    exact ImplAs.nil
    refine' stm_cons ?_ ?_
    refine' stm_assign 13 ?_
    refine' impl_callK 5 lawSums_spec ?_
    rotate_left 1
    refine' ImplEs.cons ?_ ?_ (by intro _; rfl)
    refine' impl_name 10
    refine' ImplEs.cons ?_ ?_ (by intro _; rfl)
    refine' impl_name 11
    exact ImplEs.nil
    refine' stm_cons ?_ ?_
    refine' stm_if ?_ ?_ ?_
    refine' test_cmp ?_ ?_
    refine' impl_bin ?_ ?_
    refine' impl_bin ?_ ?_
    refine' impl_int
    refine' impl_name 11
    refine' impl_count ?_ ?_
    refine' impl_name 9
    refine' impl_int
    refine' impl_bin ?_ ?_
    refine' impl_bin ?_ ?_
    refine' impl_bin ?_ ?_
    refine' impl_name 11
    refine' impl_bin ?_ ?_
    refine' impl_name 11
    refine' impl_int
    refine' impl_bin ?_ ?_
    refine' impl_name 11
    refine' impl_int
    refine' impl_bin ?_ ?_
    refine' impl_int
    refine' impl_sub ?_ ?_
    refine' impl_name 13
    refine' impl_int
    refine' stm_cons ?_ ?_
    refine' stm_ret ?_
    refine' impl_bool
    refine' stm_nil
    refine' stm_nil
    refine' stm_cons ?_ ?_
    refine' stm_assignC 14 ?_
    refine' impl_comp1 laylaw4 [none, some 11, some 12] ?q4a ?q4b ?q4c ?q4d
    case q4a =>
      refine' impli_range 1 ?_
      refine' ImplEs.cons ?_ ?_ (by intro _; rfl)
      refine' impl_name 11
      exact ImplEs.nil
    case q4b =>
      intro cl C
      generalize compEnvX _ cl C _ = cenv
      refine' tgt_name 0
    case q4c =>
      intro cl C
      generalize compEnvX _ cl C _ = cenv
      refine' ifs_nil
    case q4d =>
      intro cl C
      generalize compEnvX _ cl C _ = cenv
      refine' impl_bin ?_ ?_
      refine' impl_bin ?_ ?_
      refine' impl_name 0
      refine' impl_name 2
      refine' impl_name 1
    refine' stm_cons ?_ ?_
    refine' stm_if ?_ ?_ ?_
    refine' test_cmp ?_ ?_
    refine' impl_name 9
    refine' impl_comp2 laylaw5 [none, none, some 14] ?q5a ?q5b ?q5c ?q5e ?q5f ?q5g ?q5d
    case q5a =>
      refine' impli_range 1 ?_
      refine' ImplEs.cons ?_ ?_ (by intro _; rfl)
      refine' impl_name 11
      exact ImplEs.nil
    case q5b =>
      intro cl C
      generalize compEnvX _ cl C _ = cenv
      refine' tgt_name 0
    case q5c =>
      intro cl C
      generalize compEnvX _ cl C _ = cenv
      refine' ifs_nil
    case q5e =>
      intro cl C
      generalize compEnvX _ cl C _ = cenv
      refine' impli_range 0 ?_
      refine' ImplEs.cons ?_ ?_ (by intro _; rfl)
      refine' impl_name 0
      exact ImplEs.nil
    case q5f =>
      intro cl C
      generalize compEnvX _ cl C _ = cenv
      refine' tgt_name 1
    case q5g =>
      intro cl C
      generalize compEnvX _ cl C _ = cenv
      refine' ifs_nil
    case q5d =>
      intro cl C
      generalize compEnvX _ cl C _ = cenv
      refine' impl_ifexp ?_ ?_ ?_
      refine' test_cmp ?_ ?_
      refine' impl_sub ?_ ?_
      refine' impl_name 2
      refine' impl_name 1
      refine' impl_sub ?_ ?_
      refine' impl_name 2
      refine' impl_name 0
      refine' impl_int
      refine' impl_neg ?_
      refine' impl_int
    refine' stm_cons ?_ ?_
    refine' stm_ret ?_
    refine' impl_bool
    refine' stm_nil
    refine' stm_nil
    refine' stm_cons ?_ ?_
    refine' stm_if ?_ ?_ ?_
    refine' test_cmp ?_ ?_
    refine' impl_listItems 6 ?_ PyProof.Rows.Boot.list
    refine' impl_sub ?_ ?_
    refine' impl_name 13
    refine' impl_int
    refine' impl_comp1 laylaw6 [none] ?q6a ?q6b ?q6c ?q6d
    case q6a =>
      refine' impli_val ?_
      refine' impl_slice ?_ ?_ ?_
      refine' impl_name 14
      refine' part_some ?_
      refine' impl_int
      refine' part_none
    case q6b =>
      intro cl C
      generalize compEnvX _ cl C _ = cenv
      refine' tgt_name 0
    case q6c =>
      intro cl C
      generalize compEnvX _ cl C _ = cenv
      refine' ifs_nil
    case q6d =>
      intro cl C
      generalize compEnvX _ cl C _ = cenv
      refine' impl_tupleE ?_
      refine' ImplEs.cons ?_ ?_ (by intro _; rfl)
      refine' impl_name 0
      refine' ImplEs.cons ?_ ?_ (by intro _; rfl)
      refine' impl_int
      exact ImplEs.nil
    refine' stm_cons ?_ ?_
    refine' stm_ret ?_
    refine' impl_bool
    refine' stm_nil
    refine' stm_nil
    refine' stm_cons ?_ ?_
    refine' stm_if ?_ ?_ ?_
    refine' test_cmp ?_ ?_
    refine' impl_sliceT ?_ ?_
    refine' impl_name 13
    refine' impl_int
    refine' impl_tupleE ?_
    refine' ImplEs.cons ?_ ?_ (by intro _; rfl)
    refine' impl_bin ?_ ?_
    refine' impl_name 11
    refine' impl_int
    refine' ImplEs.cons ?_ ?_ (by intro _; rfl)
    refine' impl_sumRange 0 1 ?_
    refine' impl_name 11
    refine' ImplEs.cons ?_ ?_ (by intro _; rfl)
    refine' impl_sumRange 0 1 ?_
    refine' impl_name 11
    exact ImplEs.nil
    refine' stm_cons ?_ ?_
    refine' stm_ret ?_
    refine' impl_bool
    refine' stm_nil
    refine' stm_nil
    refine' stm_nil
    refine' stm_cons ?_ ?_
    refine' stm_ret ?_
    refine' impl_bool
    refine' stm_nil
  case he => exact fun args v e => if_some e
end Mine
end L1i_part
section P10_part
open PySem PySem.W PyProof.Rows PySem.Calls
set_option Elab.async false
set_option maxRecDepth 1000000
set_option maxHeartbeats 4000000
namespace Mine
noncomputable def yesV : Option V → Bool
  | some (.bool true) => true
  | _ => false
noncomputable def lawS (l : List V) (size stops : Int) : St := ((initSt lay_law [.lst l]).put 1 (.val (.int size))).put 2 (.val (.int stops))
end Mine
end P10_part
section P20_part
open PySem PySem.W PyProof.Rows PySem.Calls
set_option Elab.async false
set_option maxRecDepth 100000
set_option maxHeartbeats 1000000
namespace Mine
theorem intsV_map : ∀ zs : List Int, intsV (zs.map V.int) = some zs
  | [] => rfl
  | z :: r => by
    rw [List.map_cons]
    show (intsV (r.map V.int)).map (z :: ·) = _
    rw [intsV_map r]
    rfl
theorem pick_map (zs : List Int) (lo hi : Option Int) : pickL (zs.map V.int) lo hi = (pickL zs lo hi).map V.int := by
  unfold pickL
  rw [List.length_map, List.map_filterMap]
  congr 1
  funext j
  rw [List.getElem?_map]
theorem smallD6 : smallD 6 = true := by decide
theorem law_start (zs : List Int) (h : zs.length ≤ sizeLine) : lawF [.lst (zs.map V.int)] =
    retV (law_tail (lawS (zs.map V.int) ((sumZ (pickL zs none (some 3)) + 1).fmod 6 + 4) ((sumZ (pickL zs (some 3) (some 6)) + 3).fmod 6 + 4))) := by
  have hl : (zs.map V.int).length ≤ sizeLine := by rw [List.length_map]; exact h
  have g0 : (initSt lay_law [.lst (zs.map V.int)]).get 0 = some (.lst (zs.map V.int)) := rfl
  have g1 : ∀ v, ((initSt lay_law [.lst (zs.map V.int)]).put 1 (.val v)).get 0 = some (.lst (zs.map V.int)) := fun v => rfl
  unfold lawF
  rw [if_pos (show [V.lst (List.map V.int zs)].length = 1 from rfl)]
  unfold law_body thenS
  simp only [g0, g1, hl, if_true, Option.bind_some, sumF, pick_map, intsV_map, Option.map_some, binV, addV, modV, smallD6, if_pos]
  rfl
end Mine
end P20_part
section P14_part
open PySem PySem.W PyProof.Rows PySem.Calls
set_option Elab.async false
set_option maxRecDepth 1000000
set_option maxHeartbeats 4000000
namespace Mine
theorem tail_4_4 (l : List V) : yesV (retV (law_tail (lawS l 4 4))) = true := by kernel_rfl
theorem tail_4_5 (l : List V) : yesV (retV (law_tail (lawS l 4 5))) = true := by kernel_rfl
theorem tail_4_6 (l : List V) : yesV (retV (law_tail (lawS l 4 6))) = true := by kernel_rfl
theorem tail_4_7 (l : List V) : yesV (retV (law_tail (lawS l 4 7))) = true := by kernel_rfl
theorem tail_4_8 (l : List V) : yesV (retV (law_tail (lawS l 4 8))) = true := by kernel_rfl
theorem tail_4_9 (l : List V) : yesV (retV (law_tail (lawS l 4 9))) = true := by kernel_rfl
end Mine
end P14_part
section P15_part
open PySem PySem.W PyProof.Rows PySem.Calls
set_option Elab.async false
set_option maxRecDepth 1000000
set_option maxHeartbeats 4000000
namespace Mine
theorem tail_5_4 (l : List V) : yesV (retV (law_tail (lawS l 5 4))) = true := by kernel_rfl
theorem tail_5_5 (l : List V) : yesV (retV (law_tail (lawS l 5 5))) = true := by kernel_rfl
theorem tail_5_6 (l : List V) : yesV (retV (law_tail (lawS l 5 6))) = true := by kernel_rfl
theorem tail_5_7 (l : List V) : yesV (retV (law_tail (lawS l 5 7))) = true := by kernel_rfl
theorem tail_5_8 (l : List V) : yesV (retV (law_tail (lawS l 5 8))) = true := by kernel_rfl
theorem tail_5_9 (l : List V) : yesV (retV (law_tail (lawS l 5 9))) = true := by kernel_rfl
end Mine
end P15_part
section P16_part
open PySem PySem.W PyProof.Rows PySem.Calls
set_option Elab.async false
set_option maxRecDepth 1000000
set_option maxHeartbeats 4000000
namespace Mine
theorem tail_6_4 (l : List V) : yesV (retV (law_tail (lawS l 6 4))) = true := by kernel_rfl
theorem tail_6_5 (l : List V) : yesV (retV (law_tail (lawS l 6 5))) = true := by kernel_rfl
theorem tail_6_6 (l : List V) : yesV (retV (law_tail (lawS l 6 6))) = true := by kernel_rfl
theorem tail_6_7 (l : List V) : yesV (retV (law_tail (lawS l 6 7))) = true := by kernel_rfl
theorem tail_6_8 (l : List V) : yesV (retV (law_tail (lawS l 6 8))) = true := by kernel_rfl
theorem tail_6_9 (l : List V) : yesV (retV (law_tail (lawS l 6 9))) = true := by kernel_rfl
end Mine
end P16_part
section P17_part
open PySem PySem.W PyProof.Rows PySem.Calls
set_option Elab.async false
set_option maxRecDepth 1000000
set_option maxHeartbeats 4000000
namespace Mine
theorem tail_7_4 (l : List V) : yesV (retV (law_tail (lawS l 7 4))) = true := by kernel_rfl
theorem tail_7_5 (l : List V) : yesV (retV (law_tail (lawS l 7 5))) = true := by kernel_rfl
theorem tail_7_6 (l : List V) : yesV (retV (law_tail (lawS l 7 6))) = true := by kernel_rfl
theorem tail_7_7 (l : List V) : yesV (retV (law_tail (lawS l 7 7))) = true := by kernel_rfl
theorem tail_7_8 (l : List V) : yesV (retV (law_tail (lawS l 7 8))) = true := by kernel_rfl
theorem tail_7_9 (l : List V) : yesV (retV (law_tail (lawS l 7 9))) = true := by kernel_rfl
end Mine
end P17_part
section P18_part
open PySem PySem.W PyProof.Rows PySem.Calls
set_option Elab.async false
set_option maxRecDepth 1000000
set_option maxHeartbeats 4000000
namespace Mine
theorem tail_8_4 (l : List V) : yesV (retV (law_tail (lawS l 8 4))) = true := by kernel_rfl
theorem tail_8_5 (l : List V) : yesV (retV (law_tail (lawS l 8 5))) = true := by kernel_rfl
theorem tail_8_6 (l : List V) : yesV (retV (law_tail (lawS l 8 6))) = true := by kernel_rfl
theorem tail_8_7 (l : List V) : yesV (retV (law_tail (lawS l 8 7))) = true := by kernel_rfl
theorem tail_8_8 (l : List V) : yesV (retV (law_tail (lawS l 8 8))) = true := by kernel_rfl
theorem tail_8_9 (l : List V) : yesV (retV (law_tail (lawS l 8 9))) = true := by kernel_rfl
end Mine
end P18_part
section P19_part
open PySem PySem.W PyProof.Rows PySem.Calls
set_option Elab.async false
set_option maxRecDepth 1000000
set_option maxHeartbeats 4000000
namespace Mine
theorem tail_9_4 (l : List V) : yesV (retV (law_tail (lawS l 9 4))) = true := by kernel_rfl
theorem tail_9_5 (l : List V) : yesV (retV (law_tail (lawS l 9 5))) = true := by kernel_rfl
theorem tail_9_6 (l : List V) : yesV (retV (law_tail (lawS l 9 6))) = true := by kernel_rfl
theorem tail_9_7 (l : List V) : yesV (retV (law_tail (lawS l 9 7))) = true := by kernel_rfl
theorem tail_9_8 (l : List V) : yesV (retV (law_tail (lawS l 9 8))) = true := by kernel_rfl
theorem tail_9_9 (l : List V) : yesV (retV (law_tail (lawS l 9 9))) = true := by kernel_rfl
end Mine
end P19_part
section P30_part
open PySem PySem.W PyProof.Rows PySem.Calls
set_option Elab.async false
set_option maxRecDepth 100000
set_option maxHeartbeats 1000000
namespace Mine
theorem six (z : Int) : z.fmod 6 + 4 = 4 ∨ z.fmod 6 + 4 = 5 ∨ z.fmod 6 + 4 = 6 ∨ z.fmod 6 + 4 = 7 ∨ z.fmod 6 + 4 = 8 ∨ z.fmod 6 + 4 = 9 := by
  rw [Int.fmod_eq_emod_of_nonneg _ (by decide)]
  omega
theorem yes_of {o : Option V} (h : yesV o = true) : o = some (.bool true) := by
  unfold yesV at h
  split at h
  · rfl
  · cases h
theorem law_true (zs : List Int) (h : zs.length ≤ sizeLine) : lawF [.lst (zs.map V.int)] = some (.bool true) := by
  rw [law_start zs h]
  apply yes_of
  rcases six (sumZ (pickL zs none (some 3)) + 1) with e | e | e | e | e | e <;> rw [e] <;> rcases six (sumZ (pickL zs (some 3) (some 6)) + 3) with e | e | e | e | e | e <;> rw [e]
  · exact tail_4_4 _
  · exact tail_4_5 _
  · exact tail_4_6 _
  · exact tail_4_7 _
  · exact tail_4_8 _
  · exact tail_4_9 _
  · exact tail_5_4 _
  · exact tail_5_5 _
  · exact tail_5_6 _
  · exact tail_5_7 _
  · exact tail_5_8 _
  · exact tail_5_9 _
  · exact tail_6_4 _
  · exact tail_6_5 _
  · exact tail_6_6 _
  · exact tail_6_7 _
  · exact tail_6_8 _
  · exact tail_6_9 _
  · exact tail_7_4 _
  · exact tail_7_5 _
  · exact tail_7_6 _
  · exact tail_7_7 _
  · exact tail_7_8 _
  · exact tail_7_9 _
  · exact tail_8_4 _
  · exact tail_8_5 _
  · exact tail_8_6 _
  · exact tail_8_7 _
  · exact tail_8_8 _
  · exact tail_8_9 _
  · exact tail_9_4 _
  · exact tail_9_5 _
  · exact tail_9_6 _
  · exact tail_9_7 _
  · exact tail_9_8 _
  · exact tail_9_9 _
end Mine
end P30_part
open PySem PySem.W PyProof.Rows PySem.Calls
set_option Elab.async false
set_option maxRecDepth 100000
set_option maxHeartbeats 8000000
namespace Mine
theorem items_ints {prog : Program} {w : World} {h : Heap} {H : Hid} : ∀ {vs : List Value} {zs : List Int}, IntsAre vs zs → Items prog w h H (zs.map V.int) vs
  | _, _, .nil => Items.nil
  | _, _, .cons n t r => Items.cons (.int n t) (items_ints r)
noncomputable def hook : Hook := kHook kTop asTop (fun _ => by kernel_rfl)
end Mine
theorem PySem.Challenge.cw_pg0229_01_holds : PySem.Challenge.rw_pg0229_01.Holds := by
  w_on
  o_law
  refine PySem.W.holds_open (q := Mine.qTop) (loose := [Str.ofString "Whitespace"]) (Xt := Mine.xTop) (XP := XL Mine.qTop []) (Yf := Hook.obs Mine.hook) (Ya := Hook.val Mine.hook) (YP := Hook.says Mine.hook) (N := 2340) Mine.left_top
    (Hook.of Mine.hook) (Hook.keeps Mine.hook) (fun s e => xl_of s (Bool.and_eq_true_iff.mp e).1) XL.keeps (by rfl) (by rfl) (by rfl) (fun s e => recFacts_of (Bool.and_eq_true_iff.mp e).2) (by rfl) (by first | assumption | decide +kernel) (by decide +kernel) ⟨rfl, rfl, rfl, rfl, rfl, by decide +kernel⟩ ?hw ?hc
  case hw => w_witness2
  k_fill
  intro w s₀ s₁ mg mb G Y fa o pm cd doc dV kV ho hd hcd hD hmg hg args vals as hpre hlay hrd hwl hlo
  have KX : (Mine.kTop w.params).In s₁.heap := kIn_of (K := Mine.kTop) (as := Mine.asTop) (e := fun _ => by kernel_rfl) Y
  refine Ground.open G ?_
  intro T B D TE TW
  clear hcd hd hD ho
  wrow_args hpre hlay hrd hwl hlo
  all_goals (first | refine callC_kw (enter_call ?_) | refine enter_call ?_ | refine callC_kw (enter_callW ?_) | refine enter_callW ?_ | skip)
  all_goals try w_top on
  all_goals refine codeAny_mono ?_ (fun _ _ g => GoodW.toG g)
  rename_i zs hs hlay0 hLay hr1 hl2 as4 as3 a vs as0 hL ra w1 r0 hI hr hc hc2
  have e172 : nsIn (Mine.kTop w.params) mainGlobals (Str.ofString "law") = some (some (.ref 172)) := by kernel_rfl
  have hfa : fa = 172 := by
    have := mg_of KX (Top.g T) e172
    rw [hmg] at this
    exact Value.ref.inj (Option.some.inj this)
  subst hfa
  have hbase : Mine.Base (Mine.kTop w.params) mg mb s₁.heap := ⟨KX, Top.g T, Top.b T, Top.nolimit T, Top.builtins T⟩
  have hlen : zs.length ≤ sizeLine := by
    rw [sizeLine_eq]
    omega
  have hplain : s₁.heap.PlainList a vs.toArray := by
    cases w1 with
    | list hget hall =>
      obtain ⟨o', h1, h2, n', h3⟩ := hL
      rw [hget] at h1
      cases h1
      cases h3
      exact ⟨_, hget⟩
  have hit := Mine.items_ints (prog := PySem.Challenge.rw_pg0229_01.row.prog) (w := w) (h := s₁.heap) (H := fun _ => False) hI
  refine Mine.law_code (n := 0) callerA s₁ (fun _ => False) [.lst (zs.map Mine.V.int)] [.ref a] (.bool true) ⟨rfl, by decide +kernel, by decide +kernel⟩ hbase (fun a h => h.elim) (Mine.law_true zs hlen)
    (Mine.Items.cons (.lst a _ vs hplain (fun h => h) hit.1 hit.2) Mine.Items.nil) _ fun x s' st r => ?_
  cases r
  obtain ⟨h', tk, rfl⟩ := st.toSame
  refine ⟨.inl ⟨.bool true, .bool true, [], rfl, ?_, .bool true, ?_, unshared_nil⟩, st.kept, rfl, hg⟩
  · intro cls
    first
      | rfl
      | (cases cls <;> rfl)
      | (simp [RowW.claim]; done)
  · first
      | rfl
      | kernel_rfl
      | (simp [RowW.claim]; done)
