import PyProof.Rows.All
import Wide.All
import OpenK.AllK
import Wide.FinOn
import Lean
import PySem.Challenge.RW_kl0301_01
open PySem PySem.W PyProof.Rows PySem.Calls PySem.Spec
set_option Elab.async false
set_option maxRecDepth 100000
set_option maxHeartbeats 0
set_option linter.unusedVariables false
namespace Mine
noncomputable abbrev PP : Program := PySem.Challenge.rw_kl0301_01.row.prog
noncomputable abbrev LO : List Str := [Str.ofString "insort_right", Str.ofString "bisect_right", Str.ofString "insort_left", Str.ofString "bisect_left",
      Str.ofString "_tuplegetter", Str.ofString "_ExceptionTableEntryBase"]
noncomputable def nthS : List Stmt → Nat → Stmt
  | [], _ => .Pass ⟨0, 0, 0, 0⟩
  | s :: _, 0 => s
  | _ :: r, n + 1 => nthS r n
noncomputable def topS (i : Nat) : Stmt := nthS PP.main.body i
noncomputable def inS (i j : Nat) : Stmt := match topS i with
  | .ClassDef _ _ _ b _ _ _ _ _ _ _ => nthS b j
  | s => s
/-- a function's record: its def out of the program, the rest as the top leaves it -/
noncomputable def fdat (s : Stmt) (q : Str) (g : Addr) (cl : List (Str × Addr)) (dV kV doc pm : Value) (an : Option Addr) (cdv ct : Value) (bi : Addr) : FuncData := match s with
  | .FunctionDef n ps b _ _ _ sc _ _ _ => { name := n, qualname := q, params := ps, body := .stmts b, scope := sc, globals := g, closure := cl, defaults := dV, kwdefaults := kV, doc := doc, pyModule := pm, annotations := an, code := cdv, closureTuple := ct, builtins := bi }
  | _ => default
noncomputable def K (P : Params) : Frag :=
  (nat_lit 2, ({ cls := Value.none, data := Data.dict #[] } : Obj)) ::
  (nat_lit 3, ({ cls := Value.type "dict", data := Data.dict #[{ hash := PyData.keyHash P (Str.ofString "__name__"), key := Value.str (Str.ofString "__name__") 165, val := Value.str (Str.ofString "law_kl0301_01") 570 }, { hash := PyData.keyHash P (Str.ofString "__doc__"), key := Value.str (Str.ofString "__doc__") 166, val := Value.none }, { hash := PyData.keyHash P (Str.ofString "__package__"), key := Value.str (Str.ofString "__package__") 167, val := Value.none }, { hash := PyData.keyHash P (Str.ofString "__loader__"), key := Value.str (Str.ofString "__loader__") 168, val := Value.builtin "__main__.__loader__#opaque" }, { hash := PyData.keyHash P (Str.ofString "__spec__"), key := Value.str (Str.ofString "__spec__") 169, val := Value.none }, { hash := PyData.keyHash P (Str.ofString "__annotations__"), key := Value.str (Str.ofString "__annotations__") 170, val := Value.ref 6 }, { hash := PyData.keyHash P (Str.ofString "__builtins__"), key := Value.str (Str.ofString "__builtins__") 171, val := Value.ref 4 }, { hash := PyData.keyHash P (Str.ofString "__file__"), key := Value.str (Str.ofString "__file__") 173, val := Value.str (Str.ofString "/claim/cut.py") 172 }, { hash := PyData.keyHash P (Str.ofString "__cached__"), key := Value.str (Str.ofString "__cached__") 174, val := Value.none }, { hash := PyData.keyHash P (Str.ofString "_wall"), key := Value.str (Str.ofString "_wall") 193, val := Value.ref 21 }, { hash := PyData.keyHash P (Str.ofString "insort_right"), key := Value.str (Str.ofString "insort_right") 209, val := Value.ref 30 }, { hash := PyData.keyHash P (Str.ofString "bisect_right"), key := Value.str (Str.ofString "bisect_right") 224, val := Value.ref 39 }, { hash := PyData.keyHash P (Str.ofString "insort_left"), key := Value.str (Str.ofString "insort_left") 238, val := Value.ref 48 }, { hash := PyData.keyHash P (Str.ofString "bisect_left"), key := Value.str (Str.ofString "bisect_left") 253, val := Value.ref 57 }, { hash := PyData.keyHash P (Str.ofString "_tuplegetter"), key := Value.str (Str.ofString "_tuplegetter") 312, val := Value.ref 96 }, { hash := PyData.keyHash P (Str.ofString "_ExceptionTableEntryBase"), key := Value.str (Str.ofString "_ExceptionTableEntryBase") 466, val := Value.ref 177 }, { hash := PyData.keyHash P (Str.ofString "_ExceptionTableEntry"), key := Value.str (Str.ofString "_ExceptionTableEntry") 484, val := Value.ref 190 }, { hash := PyData.keyHash P (Str.ofString "_parse_varint"), key := Value.str (Str.ofString "_parse_varint") 493, val := Value.ref 200 }, { hash := PyData.keyHash P (Str.ofString "_parse_exception_table"), key := Value.str (Str.ofString "_parse_exception_table") 509, val := Value.ref 207 }, { hash := PyData.keyHash P (Str.ofString "_netrclex"), key := Value.str (Str.ofString "_netrclex") 569, val := Value.ref 245 }, { hash := PyData.keyHash P (Str.ofString "_law_lexer"), key := Value.str (Str.ofString "_law_lexer") 581, val := Value.ref 256 }, { hash := PyData.keyHash P (Str.ofString "_law_octets"), key := Value.str (Str.ofString "_law_octets") 589, val := Value.ref 263 }, { hash := PyData.keyHash P (Str.ofString "_law_word"), key := Value.str (Str.ofString "_law_word") 595, val := Value.ref 268 }, { hash := PyData.keyHash P (Str.ofString "_law_entries"), key := Value.str (Str.ofString "_law_entries") 601, val := Value.ref 273 }, { hash := PyData.keyHash P (Str.ofString "_law_apart"), key := Value.str (Str.ofString "_law_apart") 609, val := Value.ref 280 }, { hash := PyData.keyHash P (Str.ofString "_law_begin"), key := Value.str (Str.ofString "_law_begin") 616, val := Value.ref 287 }, { hash := PyData.keyHash P (Str.ofString "_law_ways"), key := Value.str (Str.ofString "_law_ways") 629, val := Value.ref 294 }, { hash := PyData.keyHash P (Str.ofString "_law_new"), key := Value.str (Str.ofString "_law_new") 638, val := Value.ref 301 }, { hash := PyData.keyHash P (Str.ofString "_law_shape"), key := Value.str (Str.ofString "_law_shape") 644, val := Value.ref 306 }, { hash := PyData.keyHash P (Str.ofString "_law_kinds"), key := Value.str (Str.ofString "_law_kinds") 650, val := Value.ref 311 }, { hash := PyData.keyHash P (Str.ofString "law"), key := Value.str (Str.ofString "law") 656, val := Value.ref 316 }] 31 } : Obj)) ::
  (nat_lit 15, ({ cls := Value.type "tuple", data := Data.seq #[] } : Obj)) ::
  (nat_lit 17, ({ cls := Value.type "tuple", data := Data.seq #[Value.str (Str.ofString "k") 190] } : Obj)) ::
  (nat_lit 18, ({ cls := Value.type "tuple", data := Data.seq #[] } : Obj)) ::
  (nat_lit 20, ({ cls := Value.type "code", data := Data.fields #[Value.str (Str.ofString "_wall") 187, Value.str (Str.ofString "_wall") 188, Value.str (Str.ofString "/claim/cut.py") 189, Value.int 1 0, Value.int 1 0, Value.int 0 0, Value.int 0 0, Value.int 3 0, Value.ref 15, Value.bool true, Value.int 181 0, Value.ref 16, Value.none, Value.ref 17, Value.ref 18, Value.ref 19, Value.int 191 0, Value.int 1 0, Value.str (Str.ofString "/claim/cut.py") 192] } : Obj)) ::
  (nat_lit 21, (⟨Value.type "function", none, .func (fdat (topS 0) (Str.ofString "_wall") (3) ([]) (Value.none) (Value.none) (Value.none) (Value.str (Str.ofString "__main__") 164) (none) (Value.ref 20) (Value.none) (0)), #[]⟩ : Obj)) ::
  (nat_lit 22, ({ cls := Value.type "tuple", data := Data.seq #[Value.int 0 196, Value.none] } : Obj)) ::
  (nat_lit 23, ({ cls := Value.type "dict", data := Data.dict #[{ hash := PyData.keyHash P (Str.ofString "key"), key := Value.str (Str.ofString "key") 197, val := Value.none }] 1 } : Obj)) ::
  (nat_lit 24, ({ cls := Value.type "tuple", data := Data.seq #[] } : Obj)) ::
  (nat_lit 26, ({ cls := Value.type "tuple", data := Data.seq #[Value.str (Str.ofString "a") 201, Value.str (Str.ofString "x") 202, Value.str (Str.ofString "lo") 203, Value.str (Str.ofString "hi") 204, Value.str (Str.ofString "key") 205] } : Obj)) ::
  (nat_lit 27, ({ cls := Value.type "tuple", data := Data.seq #[] } : Obj)) ::
  (nat_lit 29, ({ cls := Value.type "code", data := Data.fields #[Value.str (Str.ofString "insort_right") 198, Value.str (Str.ofString "insort_right") 199, Value.str (Str.ofString "/claim/cut.py") 200, Value.int 5 0, Value.int 4 0, Value.int 0 0, Value.int 1 0, Value.int 3 0, Value.ref 24, Value.bool true, Value.int 181 0, Value.ref 25, Value.none, Value.ref 26, Value.ref 27, Value.ref 28, Value.int 206 0, Value.int 5 0, Value.str (Str.ofString "/claim/cut.py") 207] } : Obj)) ::
  (nat_lit 30, (⟨Value.type "function", none, .func (fdat (topS 2) (Str.ofString "insort_right") (3) ([]) (Value.ref 22) (Value.ref 23) (Value.str (Str.ofString "Insert item x in list a, and keep it sorted assuming a is sorted.\n\nIf x is already in a, insert it to the right of the rightmost x.\n\nOptional args lo (default 0) and hi (default len(a)) bound the\nslice of a to be searched.\n\nA custom key function can be supplied to customize the sort order.\n") 208) (Value.str (Str.ofString "cpy313.bisect") 194) (none) (Value.ref 29) (Value.none) (0)), #[]⟩ : Obj)) ::
  (nat_lit 31, ({ cls := Value.type "tuple", data := Data.seq #[Value.int 0 210, Value.none] } : Obj)) ::
  (nat_lit 32, ({ cls := Value.type "dict", data := Data.dict #[{ hash := PyData.keyHash P (Str.ofString "key"), key := Value.str (Str.ofString "key") 211, val := Value.none }] 1 } : Obj)) ::
  (nat_lit 33, ({ cls := Value.type "tuple", data := Data.seq #[] } : Obj)) ::
  (nat_lit 35, ({ cls := Value.type "tuple", data := Data.seq #[Value.str (Str.ofString "a") 215, Value.str (Str.ofString "x") 216, Value.str (Str.ofString "lo") 217, Value.str (Str.ofString "hi") 218, Value.str (Str.ofString "key") 219, Value.str (Str.ofString "mid") 220] } : Obj)) ::
  (nat_lit 36, ({ cls := Value.type "tuple", data := Data.seq #[] } : Obj)) ::
  (nat_lit 38, ({ cls := Value.type "code", data := Data.fields #[Value.str (Str.ofString "bisect_right") 212, Value.str (Str.ofString "bisect_right") 213, Value.str (Str.ofString "/claim/cut.py") 214, Value.int 20 0, Value.int 4 0, Value.int 0 0, Value.int 1 0, Value.int 3 0, Value.ref 33, Value.bool true, Value.int 181 0, Value.ref 34, Value.none, Value.ref 35, Value.ref 36, Value.ref 37, Value.int 221 0, Value.int 20 0, Value.str (Str.ofString "/claim/cut.py") 222] } : Obj)) ::
  (nat_lit 39, (⟨Value.type "function", none, .func (fdat (topS 3) (Str.ofString "bisect_right") (3) ([]) (Value.ref 31) (Value.ref 32) (Value.str (Str.ofString "Return the index where to insert item x in list a, assuming a is sorted.\n\nThe return value i is such that all e in a[:i] have e <= x, and all e in\na[i:] have e > x.  So if x already appears in the list, a.insert(i, x) will\ninsert just after the rightmost x already there.\n\nOptional args lo (default 0) and hi (default len(a)) bound the\nslice of a to be searched.\n\nA custom key function can be supplied to customize the sort order.\n") 223) (Value.str (Str.ofString "cpy313.bisect") 194) (none) (Value.ref 38) (Value.none) (0)), #[]⟩ : Obj)) ::
  (nat_lit 40, ({ cls := Value.type "tuple", data := Data.seq #[Value.int 0 225, Value.none] } : Obj)) ::
  (nat_lit 41, ({ cls := Value.type "dict", data := Data.dict #[{ hash := PyData.keyHash P (Str.ofString "key"), key := Value.str (Str.ofString "key") 226, val := Value.none }] 1 } : Obj)) ::
  (nat_lit 42, ({ cls := Value.type "tuple", data := Data.seq #[] } : Obj)) ::
  (nat_lit 44, ({ cls := Value.type "tuple", data := Data.seq #[Value.str (Str.ofString "a") 230, Value.str (Str.ofString "x") 231, Value.str (Str.ofString "lo") 232, Value.str (Str.ofString "hi") 233, Value.str (Str.ofString "key") 234] } : Obj)) ::
  (nat_lit 45, ({ cls := Value.type "tuple", data := Data.seq #[] } : Obj)) ::
  (nat_lit 47, ({ cls := Value.type "code", data := Data.fields #[Value.str (Str.ofString "insort_left") 227, Value.str (Str.ofString "insort_left") 228, Value.str (Str.ofString "/claim/cut.py") 229, Value.int 51 0, Value.int 4 0, Value.int 0 0, Value.int 1 0, Value.int 3 0, Value.ref 42, Value.bool true, Value.int 181 0, Value.ref 43, Value.none, Value.ref 44, Value.ref 45, Value.ref 46, Value.int 235 0, Value.int 51 0, Value.str (Str.ofString "/claim/cut.py") 236] } : Obj)) ::
  (nat_lit 48, (⟨Value.type "function", none, .func (fdat (topS 4) (Str.ofString "insort_left") (3) ([]) (Value.ref 40) (Value.ref 41) (Value.str (Str.ofString "Insert item x in list a, and keep it sorted assuming a is sorted.\n\nIf x is already in a, insert it to the left of the leftmost x.\n\nOptional args lo (default 0) and hi (default len(a)) bound the\nslice of a to be searched.\n\nA custom key function can be supplied to customize the sort order.\n") 237) (Value.str (Str.ofString "cpy313.bisect") 194) (none) (Value.ref 47) (Value.none) (0)), #[]⟩ : Obj)) ::
  (nat_lit 49, ({ cls := Value.type "tuple", data := Data.seq #[Value.int 0 239, Value.none] } : Obj)) ::
  (nat_lit 50, ({ cls := Value.type "dict", data := Data.dict #[{ hash := PyData.keyHash P (Str.ofString "key"), key := Value.str (Str.ofString "key") 240, val := Value.none }] 1 } : Obj)) ::
  (nat_lit 51, ({ cls := Value.type "tuple", data := Data.seq #[] } : Obj)) ::
  (nat_lit 53, ({ cls := Value.type "tuple", data := Data.seq #[Value.str (Str.ofString "a") 244, Value.str (Str.ofString "x") 245, Value.str (Str.ofString "lo") 246, Value.str (Str.ofString "hi") 247, Value.str (Str.ofString "key") 248, Value.str (Str.ofString "mid") 249] } : Obj)) ::
  (nat_lit 54, ({ cls := Value.type "tuple", data := Data.seq #[] } : Obj)) ::
  (nat_lit 56, ({ cls := Value.type "code", data := Data.fields #[Value.str (Str.ofString "bisect_left") 241, Value.str (Str.ofString "bisect_left") 242, Value.str (Str.ofString "/claim/cut.py") 243, Value.int 66 0, Value.int 4 0, Value.int 0 0, Value.int 1 0, Value.int 3 0, Value.ref 51, Value.bool true, Value.int 181 0, Value.ref 52, Value.none, Value.ref 53, Value.ref 54, Value.ref 55, Value.int 250 0, Value.int 66 0, Value.str (Str.ofString "/claim/cut.py") 251] } : Obj)) ::
  (nat_lit 57, (⟨Value.type "function", none, .func (fdat (topS 5) (Str.ofString "bisect_left") (3) ([]) (Value.ref 49) (Value.ref 50) (Value.str (Str.ofString "Return the index where to insert item x in list a, assuming a is sorted.\n\nThe return value i is such that all e in a[:i] have e < x, and all e in\na[i:] have e >= x.  So if x already appears in the list, a.insert(i, x) will\ninsert just before the leftmost x already there.\n\nOptional args lo (default 0) and hi (default len(a)) bound the\nslice of a to be searched.\n\nA custom key function can be supplied to customize the sort order.\n") 252) (Value.str (Str.ofString "cpy313.bisect") 194) (none) (Value.ref 56) (Value.none) (0)), #[]⟩ : Obj)) ::
  (nat_lit 65, ({ cls := Value.type "tuple", data := Data.seq #[] } : Obj)) ::
  (nat_lit 67, ({ cls := Value.type "tuple", data := Data.seq #[Value.str (Str.ofString "self") 271, Value.str (Str.ofString "index") 272, Value.str (Str.ofString "doc") 273] } : Obj)) ::
  (nat_lit 68, ({ cls := Value.type "tuple", data := Data.seq #[] } : Obj)) ::
  (nat_lit 70, ({ cls := Value.type "code", data := Data.fields #[Value.str (Str.ofString "__init__") 268, Value.str (Str.ofString "_tuplegetter.__init__") 269, Value.str (Str.ofString "/claim/cut.py") 270, Value.int 100 0, Value.int 3 0, Value.int 0 0, Value.int 0 0, Value.int 3 0, Value.ref 65, Value.bool true, Value.int 181 0, Value.ref 66, Value.none, Value.ref 67, Value.ref 68, Value.ref 69, Value.int 274 0, Value.int 100 0, Value.str (Str.ofString "/claim/cut.py") 275] } : Obj)) ::
  (nat_lit 71, (⟨Value.type "function", none, .func (fdat (inS 7 0) (Str.ofString "_tuplegetter.__init__") (3) ([]) (Value.none) (Value.none) (Value.none) (Value.str (Str.ofString "cpy313.dis") 254) (none) (Value.ref 70) (Value.none) (0)), #[]⟩ : Obj)) ::
  (nat_lit 72, ({ cls := Value.type "tuple", data := Data.seq #[Value.none] } : Obj)) ::
  (nat_lit 73, ({ cls := Value.type "tuple", data := Data.seq #[] } : Obj)) ::
  (nat_lit 75, ({ cls := Value.type "tuple", data := Data.seq #[Value.str (Str.ofString "self") 280, Value.str (Str.ofString "obj") 281, Value.str (Str.ofString "objtype") 282] } : Obj)) ::
  (nat_lit 76, ({ cls := Value.type "tuple", data := Data.seq #[] } : Obj)) ::
  (nat_lit 78, ({ cls := Value.type "code", data := Data.fields #[Value.str (Str.ofString "__get__") 277, Value.str (Str.ofString "_tuplegetter.__get__") 278, Value.str (Str.ofString "/claim/cut.py") 279, Value.int 104 0, Value.int 3 0, Value.int 0 0, Value.int 0 0, Value.int 3 0, Value.ref 73, Value.bool true, Value.int 181 0, Value.ref 74, Value.none, Value.ref 75, Value.ref 76, Value.ref 77, Value.int 283 0, Value.int 104 0, Value.str (Str.ofString "/claim/cut.py") 284] } : Obj)) ::
  (nat_lit 79, (⟨Value.type "function", none, .func (fdat (inS 7 1) (Str.ofString "_tuplegetter.__get__") (3) ([]) (Value.ref 72) (Value.none) (Value.none) (Value.str (Str.ofString "cpy313.dis") 254) (none) (Value.ref 78) (Value.none) (0)), #[]⟩ : Obj)) ::
  (nat_lit 80, ({ cls := Value.type "tuple", data := Data.seq #[] } : Obj)) ::
  (nat_lit 82, ({ cls := Value.type "tuple", data := Data.seq #[Value.str (Str.ofString "self") 289, Value.str (Str.ofString "obj") 290, Value.str (Str.ofString "value") 291] } : Obj)) ::
  (nat_lit 83, ({ cls := Value.type "tuple", data := Data.seq #[] } : Obj)) ::
  (nat_lit 85, ({ cls := Value.type "code", data := Data.fields #[Value.str (Str.ofString "__set__") 286, Value.str (Str.ofString "_tuplegetter.__set__") 287, Value.str (Str.ofString "/claim/cut.py") 288, Value.int 111 0, Value.int 3 0, Value.int 0 0, Value.int 0 0, Value.int 3 0, Value.ref 80, Value.bool true, Value.int 181 0, Value.ref 81, Value.none, Value.ref 82, Value.ref 83, Value.ref 84, Value.int 292 0, Value.int 111 0, Value.str (Str.ofString "/claim/cut.py") 293] } : Obj)) ::
  (nat_lit 86, (⟨Value.type "function", none, .func (fdat (inS 7 2) (Str.ofString "_tuplegetter.__set__") (3) ([]) (Value.none) (Value.none) (Value.none) (Value.str (Str.ofString "cpy313.dis") 254) (none) (Value.ref 85) (Value.none) (0)), #[]⟩ : Obj)) ::
  (nat_lit 87, ({ cls := Value.type "tuple", data := Data.seq #[] } : Obj)) ::
  (nat_lit 89, ({ cls := Value.type "tuple", data := Data.seq #[Value.str (Str.ofString "self") 298, Value.str (Str.ofString "obj") 299] } : Obj)) ::
  (nat_lit 90, ({ cls := Value.type "tuple", data := Data.seq #[] } : Obj)) ::
  (nat_lit 92, ({ cls := Value.type "code", data := Data.fields #[Value.str (Str.ofString "__delete__") 295, Value.str (Str.ofString "_tuplegetter.__delete__") 296, Value.str (Str.ofString "/claim/cut.py") 297, Value.int 114 0, Value.int 2 0, Value.int 0 0, Value.int 0 0, Value.int 3 0, Value.ref 87, Value.bool true, Value.int 181 0, Value.ref 88, Value.none, Value.ref 89, Value.ref 90, Value.ref 91, Value.int 300 0, Value.int 114 0, Value.str (Str.ofString "/claim/cut.py") 301] } : Obj)) ::
  (nat_lit 93, (⟨Value.type "function", none, .func (fdat (inS 7 3) (Str.ofString "_tuplegetter.__delete__") (3) ([]) (Value.none) (Value.none) (Value.none) (Value.str (Str.ofString "cpy313.dis") 254) (none) (Value.ref 92) (Value.none) (0)), #[]⟩ : Obj)) ::
  (nat_lit 94, ({ cls := Value.type "tuple", data := Data.seq #[Value.str (Str.ofString "__doc__") 303, Value.str (Str.ofString "index") 304] } : Obj)) ::
  (nat_lit 95, ({ cls := Value.type "dict", data := Data.dict #[{ hash := PyData.keyHash P (Str.ofString "__module__"), key := Value.str (Str.ofString "__module__") 263, val := Value.str (Str.ofString "cpy313.dis") 254 }, { hash := PyData.keyHash P (Str.ofString "__firstlineno__"), key := Value.str (Str.ofString "__firstlineno__") 267, val := Value.int 98 266 }, { hash := PyData.keyHash P (Str.ofString "__init__"), key := Value.str (Str.ofString "__init__") 276, val := Value.ref 71 }, { hash := PyData.keyHash P (Str.ofString "__get__"), key := Value.str (Str.ofString "__get__") 285, val := Value.ref 79 }, { hash := PyData.keyHash P (Str.ofString "__set__"), key := Value.str (Str.ofString "__set__") 294, val := Value.ref 86 }, { hash := PyData.keyHash P (Str.ofString "__delete__"), key := Value.str (Str.ofString "__delete__") 302, val := Value.ref 93 }, { hash := PyData.keyHash P (Str.ofString "__static_attributes__"), key := Value.str (Str.ofString "__static_attributes__") 305, val := Value.ref 94 }, { hash := PyData.keyHash P (Str.ofString "__dict__"), key := Value.str (Str.ofString "__dict__") 307, val := Value.ref 97 }, { hash := PyData.keyHash P (Str.ofString "__weakref__"), key := Value.str (Str.ofString "__weakref__") 309, val := Value.ref 98 }, { hash := PyData.keyHash P (Str.ofString "__doc__"), key := Value.str (Str.ofString "__doc__") 310, val := Value.none }] 4 } : Obj)) ::
  (nat_lit 96, ({ cls := Value.type "type", data := Data.cls { name := Str.ofString "_tuplegetter", bases := [Value.type "object"], mro := [Value.ref 96, Value.type "object"], ns := 95, qualname := Str.ofString "_tuplegetter" }, slots := #[none, none, some (Value.str (Str.ofString "_tuplegetter") 256), some (Value.str (Str.ofString "_tuplegetter") 264), some (Value.builtin "object.__new__"), some (Value.bool true)] } : Obj)) ::
  (nat_lit 97, ({ cls := Value.type "getset_descriptor", data := Data.fields #[Value.str (Str.ofString "__dict__") 306, Value.ref 96, Value.builtin "function.__dict__", Value.builtin "function.__dict__#set"] } : Obj)) ::
  (nat_lit 98, ({ cls := Value.type "getset_descriptor", data := Data.fields #[Value.str (Str.ofString "__weakref__") 308, Value.ref 96, Value.builtin "ExceptionGroup.__weakref__", Value.none] } : Obj)) ::
  (nat_lit 101, ({ cls := Value.type "tuple", data := Data.seq #[Value.type "tuple"] } : Obj)) ::
  (nat_lit 104, ({ cls := Value.type "cell", data := Data.cell (some (Value.ref 177)) } : Obj)) ::
  (nat_lit 109, ({ cls := Value.type "tuple", data := Data.seq #[] } : Obj)) ::
  (nat_lit 110, ({ cls := Value.type "tuple", data := Data.seq #[Value.str (Str.ofString "start") 329, Value.str (Str.ofString "end") 330, Value.str (Str.ofString "target") 331, Value.str (Str.ofString "depth") 332, Value.str (Str.ofString "lasti") 333] } : Obj)) ::
  (nat_lit 111, ({ cls := Value.type "dict", data := Data.dict #[] } : Obj)) ::
  (nat_lit 112, ({ cls := Value.type "tuple", data := Data.seq #[] } : Obj)) ::
  (nat_lit 114, ({ cls := Value.type "tuple", data := Data.seq #[Value.str (Str.ofString "_cls") 339, Value.str (Str.ofString "start") 340, Value.str (Str.ofString "end") 341, Value.str (Str.ofString "target") 342, Value.str (Str.ofString "depth") 343, Value.str (Str.ofString "lasti") 344] } : Obj)) ::
  (nat_lit 115, ({ cls := Value.type "tuple", data := Data.seq #[] } : Obj)) ::
  (nat_lit 117, ({ cls := Value.type "code", data := Data.fields #[Value.str (Str.ofString "__new__") 336, Value.str (Str.ofString "_ExceptionTableEntryBase.__new__") 337, Value.str (Str.ofString "/claim/cut.py") 338, Value.int 122 0, Value.int 6 0, Value.int 0 0, Value.int 0 0, Value.int 3 0, Value.ref 112, Value.bool true, Value.int 181 0, Value.ref 113, Value.none, Value.ref 114, Value.ref 115, Value.ref 116, Value.int 345 0, Value.int 122 0, Value.str (Str.ofString "/claim/cut.py") 346] } : Obj)) ::
  (nat_lit 118, (⟨Value.type "function", none, .func (fdat (inS 8 4) (Str.ofString "_ExceptionTableEntryBase.__new__") (3) ([]) (Value.none) (Value.none) (Value.str (Str.ofString "Create new instance of _ExceptionTableEntryBase(start, end, target, depth, lasti)") 347) (Value.str (Str.ofString "cpy313.dis") 254) (none) (Value.ref 117) (Value.none) (0)), #[]⟩ : Obj)) ::
  (nat_lit 119, ({ cls := Value.type "tuple", data := Data.seq #[] } : Obj)) ::
  (nat_lit 121, ({ cls := Value.type "tuple", data := Data.seq #[Value.str (Str.ofString "cls") 352, Value.str (Str.ofString "iterable") 353, Value.str (Str.ofString "result") 354] } : Obj)) ::
  (nat_lit 122, ({ cls := Value.type "tuple", data := Data.seq #[] } : Obj)) ::
  (nat_lit 124, ({ cls := Value.type "code", data := Data.fields #[Value.str (Str.ofString "_make") 349, Value.str (Str.ofString "_ExceptionTableEntryBase._make") 350, Value.str (Str.ofString "/claim/cut.py") 351, Value.int 126 0, Value.int 2 0, Value.int 0 0, Value.int 0 0, Value.int 3 0, Value.ref 119, Value.bool true, Value.int 181 0, Value.ref 120, Value.none, Value.ref 121, Value.ref 122, Value.ref 123, Value.int 355 0, Value.int 126 0, Value.str (Str.ofString "/claim/cut.py") 356] } : Obj)) ::
  (nat_lit 125, (⟨Value.type "function", none, .func (fdat (inS 8 5) (Str.ofString "_ExceptionTableEntryBase._make") (3) ([]) (Value.none) (Value.none) (Value.str (Str.ofString "Make a new _ExceptionTableEntryBase object from a sequence or iterable") 357) (Value.str (Str.ofString "cpy313.dis") 254) (some 128) (Value.ref 124) (Value.none) (0)), #[]⟩ : Obj)) ::
  (nat_lit 126, ({ cls := Value.type "dict", data := Data.dict #[{ hash := PyData.keyHash P (Str.ofString "__module__"), key := Value.str (Str.ofString "__module__") 359, val := Value.str (Str.ofString "cpy313.dis") 254 }, { hash := PyData.keyHash P (Str.ofString "__name__"), key := Value.str (Str.ofString "__name__") 362, val := Value.str (Str.ofString "_make") 361 }, { hash := PyData.keyHash P (Str.ofString "__qualname__"), key := Value.str (Str.ofString "__qualname__") 365, val := Value.str (Str.ofString "_ExceptionTableEntryBase._make") 364 }, { hash := PyData.keyHash P (Str.ofString "__doc__"), key := Value.str (Str.ofString "__doc__") 367, val := Value.str (Str.ofString "Make a new _ExceptionTableEntryBase object from a sequence or iterable") 357 }, { hash := PyData.keyHash P (Str.ofString "__annotations__"), key := Value.str (Str.ofString "__annotations__") 369, val := Value.ref 128 }] 5 } : Obj)) ::
  (nat_lit 127, ({ cls := Value.type "classmethod", dict := some 126, data := Data.fields #[Value.ref 125, Value.bool false] } : Obj)) ::
  (nat_lit 128, ({ cls := Value.type "dict", data := Data.dict #[] } : Obj)) ::
  (nat_lit 129, ({ cls := Value.type "tuple", data := Data.seq #[Value.ref 104] } : Obj)) ::
  (nat_lit 130, ({ cls := Value.type "tuple", data := Data.seq #[Value.str (Str.ofString "__class__") 374] } : Obj)) ::
  (nat_lit 132, ({ cls := Value.type "tuple", data := Data.seq #[Value.str (Str.ofString "self") 375, Value.str (Str.ofString "kwds") 376, Value.str (Str.ofString "result") 377] } : Obj)) ::
  (nat_lit 133, ({ cls := Value.type "tuple", data := Data.seq #[] } : Obj)) ::
  (nat_lit 135, ({ cls := Value.type "code", data := Data.fields #[Value.str (Str.ofString "_replace") 371, Value.str (Str.ofString "_ExceptionTableEntryBase._replace") 372, Value.str (Str.ofString "/claim/cut.py") 373, Value.int 134 0, Value.int 1 0, Value.int 1 0, Value.int 0 0, Value.int 11 0, Value.ref 130, Value.bool true, Value.int 181 0, Value.ref 131, Value.none, Value.ref 132, Value.ref 133, Value.ref 134, Value.int 378 0, Value.int 134 0, Value.str (Str.ofString "/claim/cut.py") 379] } : Obj)) ::
  (nat_lit 136, (⟨Value.type "function", none, .func (fdat (inS 8 6) (Str.ofString "_ExceptionTableEntryBase._replace") (3) ([(Str.ofString "__class__", 104)]) (Value.none) (Value.none) (Value.str (Str.ofString "Return a new _ExceptionTableEntryBase object replacing specified fields with new values") 380) (Value.str (Str.ofString "cpy313.dis") 254) (none) (Value.ref 135) (Value.ref 129) (0)), #[]⟩ : Obj)) ::
  (nat_lit 137, ({ cls := Value.type "tuple", data := Data.seq #[] } : Obj)) ::
  (nat_lit 139, ({ cls := Value.type "tuple", data := Data.seq #[Value.str (Str.ofString "self") 386] } : Obj)) ::
  (nat_lit 140, ({ cls := Value.type "tuple", data := Data.seq #[] } : Obj)) ::
  (nat_lit 142, ({ cls := Value.type "code", data := Data.fields #[Value.str (Str.ofString "__repr__") 383, Value.str (Str.ofString "_ExceptionTableEntryBase.__repr__") 384, Value.str (Str.ofString "/claim/cut.py") 385, Value.int 145 0, Value.int 1 0, Value.int 0 0, Value.int 0 0, Value.int 3 0, Value.ref 137, Value.bool true, Value.int 181 0, Value.ref 138, Value.none, Value.ref 139, Value.ref 140, Value.ref 141, Value.int 387 0, Value.int 145 0, Value.str (Str.ofString "/claim/cut.py") 388] } : Obj)) ::
  (nat_lit 143, (⟨Value.type "function", none, .func (fdat (inS 8 8) (Str.ofString "_ExceptionTableEntryBase.__repr__") (3) ([]) (Value.none) (Value.none) (Value.str (Str.ofString "Return a nicely formatted representation string") 389) (Value.str (Str.ofString "cpy313.dis") 254) (none) (Value.ref 142) (Value.none) (0)), #[]⟩ : Obj)) ::
  (nat_lit 144, ({ cls := Value.type "tuple", data := Data.seq #[] } : Obj)) ::
  (nat_lit 146, ({ cls := Value.type "tuple", data := Data.seq #[Value.str (Str.ofString "self") 394] } : Obj)) ::
  (nat_lit 147, ({ cls := Value.type "tuple", data := Data.seq #[] } : Obj)) ::
  (nat_lit 149, ({ cls := Value.type "code", data := Data.fields #[Value.str (Str.ofString "_asdict") 391, Value.str (Str.ofString "_ExceptionTableEntryBase._asdict") 392, Value.str (Str.ofString "/claim/cut.py") 393, Value.int 149 0, Value.int 1 0, Value.int 0 0, Value.int 0 0, Value.int 3 0, Value.ref 144, Value.bool true, Value.int 181 0, Value.ref 145, Value.none, Value.ref 146, Value.ref 147, Value.ref 148, Value.int 395 0, Value.int 149 0, Value.str (Str.ofString "/claim/cut.py") 396] } : Obj)) ::
  (nat_lit 150, (⟨Value.type "function", none, .func (fdat (inS 8 9) (Str.ofString "_ExceptionTableEntryBase._asdict") (3) ([]) (Value.none) (Value.none) (Value.none) (Value.str (Str.ofString "cpy313.dis") 254) (none) (Value.ref 149) (Value.none) (0)), #[]⟩ : Obj)) ::
  (nat_lit 151, ({ cls := Value.type "tuple", data := Data.seq #[] } : Obj)) ::
  (nat_lit 153, ({ cls := Value.type "tuple", data := Data.seq #[Value.str (Str.ofString "self") 401] } : Obj)) ::
  (nat_lit 154, ({ cls := Value.type "tuple", data := Data.seq #[] } : Obj)) ::
  (nat_lit 156, ({ cls := Value.type "code", data := Data.fields #[Value.str (Str.ofString "__getnewargs__") 398, Value.str (Str.ofString "_ExceptionTableEntryBase.__getnewargs__") 399, Value.str (Str.ofString "/claim/cut.py") 400, Value.int 152 0, Value.int 1 0, Value.int 0 0, Value.int 0 0, Value.int 3 0, Value.ref 151, Value.bool true, Value.int 181 0, Value.ref 152, Value.none, Value.ref 153, Value.ref 154, Value.ref 155, Value.int 402 0, Value.int 152 0, Value.str (Str.ofString "/claim/cut.py") 403] } : Obj)) ::
  (nat_lit 157, (⟨Value.type "function", none, .func (fdat (inS 8 10) (Str.ofString "_ExceptionTableEntryBase.__getnewargs__") (3) ([]) (Value.none) (Value.none) (Value.str (Str.ofString "Return self as a plain tuple.  Used by copy and pickle.") 404) (Value.str (Str.ofString "cpy313.dis") 254) (none) (Value.ref 156) (Value.none) (0)), #[]⟩ : Obj)) ::
  (nat_lit 158, ({ cls := Value.type "tuple", data := Data.seq #[Value.str (Str.ofString "start") 406, Value.str (Str.ofString "end") 407, Value.str (Str.ofString "target") 408, Value.str (Str.ofString "depth") 409, Value.str (Str.ofString "lasti") 410] } : Obj)) ::
  (nat_lit 159, ({ cls := Value.type "dict", data := Data.dict #[{ hash := PyData.keyHash P (Str.ofString "index"), key := Value.str (Str.ofString "index") 418, val := Value.int 0 412 }, { hash := PyData.keyHash P (Str.ofString "__doc__"), key := Value.str (Str.ofString "__doc__") 420, val := Value.str (Str.ofString "Alias for field number 0") 413 }] 2 } : Obj)) ::
  (nat_lit 160, ({ cls := Value.ref 96, dict := some 159 } : Obj)) ::
  (nat_lit 162, ({ cls := Value.type "dict", data := Data.dict #[{ hash := PyData.keyHash P (Str.ofString "index"), key := Value.str (Str.ofString "index") 428, val := Value.int 1 422 }, { hash := PyData.keyHash P (Str.ofString "__doc__"), key := Value.str (Str.ofString "__doc__") 430, val := Value.str (Str.ofString "Alias for field number 1") 423 }] 2 } : Obj)) ::
  (nat_lit 163, ({ cls := Value.ref 96, dict := some 162 } : Obj)) ::
  (nat_lit 165, ({ cls := Value.type "dict", data := Data.dict #[{ hash := PyData.keyHash P (Str.ofString "index"), key := Value.str (Str.ofString "index") 438, val := Value.int 2 432 }, { hash := PyData.keyHash P (Str.ofString "__doc__"), key := Value.str (Str.ofString "__doc__") 440, val := Value.str (Str.ofString "Alias for field number 2") 433 }] 2 } : Obj)) ::
  (nat_lit 166, ({ cls := Value.ref 96, dict := some 165 } : Obj)) ::
  (nat_lit 168, ({ cls := Value.type "dict", data := Data.dict #[{ hash := PyData.keyHash P (Str.ofString "index"), key := Value.str (Str.ofString "index") 448, val := Value.int 3 442 }, { hash := PyData.keyHash P (Str.ofString "__doc__"), key := Value.str (Str.ofString "__doc__") 450, val := Value.str (Str.ofString "Alias for field number 3") 443 }] 2 } : Obj)) ::
  (nat_lit 169, ({ cls := Value.ref 96, dict := some 168 } : Obj)) ::
  (nat_lit 171, ({ cls := Value.type "dict", data := Data.dict #[{ hash := PyData.keyHash P (Str.ofString "index"), key := Value.str (Str.ofString "index") 458, val := Value.int 4 452 }, { hash := PyData.keyHash P (Str.ofString "__doc__"), key := Value.str (Str.ofString "__doc__") 460, val := Value.str (Str.ofString "Alias for field number 4") 453 }] 2 } : Obj)) ::
  (nat_lit 172, ({ cls := Value.ref 96, dict := some 171 } : Obj)) ::
  (nat_lit 174, ({ cls := Value.type "tuple", data := Data.seq #[] } : Obj)) ::
  (nat_lit 176, ({ cls := Value.type "dict", data := Data.dict #[{ hash := PyData.keyHash P (Str.ofString "__module__"), key := Value.str (Str.ofString "__module__") 320, val := Value.str (Str.ofString "cpy313.dis") 254 }, { hash := PyData.keyHash P (Str.ofString "__firstlineno__"), key := Value.str (Str.ofString "__firstlineno__") 324, val := Value.int 116 323 }, { hash := PyData.keyHash P (Str.ofString "__doc__"), key := Value.str (Str.ofString "__doc__") 326, val := Value.str (Str.ofString "_ExceptionTableEntryBase(start, end, target, depth, lasti)") 325 }, { hash := PyData.keyHash P (Str.ofString "__slots__"), key := Value.str (Str.ofString "__slots__") 328, val := Value.ref 109 }, { hash := PyData.keyHash P (Str.ofString "_fields"), key := Value.str (Str.ofString "_fields") 334, val := Value.ref 110 }, { hash := PyData.keyHash P (Str.ofString "_field_defaults"), key := Value.str (Str.ofString "_field_defaults") 335, val := Value.ref 111 }, { hash := PyData.keyHash P (Str.ofString "__new__"), key := Value.str (Str.ofString "__new__") 348, val := Value.ref 178 }, { hash := PyData.keyHash P (Str.ofString "_make"), key := Value.str (Str.ofString "_make") 370, val := Value.ref 127 }, { hash := PyData.keyHash P (Str.ofString "_replace"), key := Value.str (Str.ofString "_replace") 381, val := Value.ref 136 }, { hash := PyData.keyHash P (Str.ofString "__replace__"), key := Value.str (Str.ofString "__replace__") 382, val := Value.ref 136 }, { hash := PyData.keyHash P (Str.ofString "__repr__"), key := Value.str (Str.ofString "__repr__") 390, val := Value.ref 143 }, { hash := PyData.keyHash P (Str.ofString "_asdict"), key := Value.str (Str.ofString "_asdict") 397, val := Value.ref 150 }, { hash := PyData.keyHash P (Str.ofString "__getnewargs__"), key := Value.str (Str.ofString "__getnewargs__") 405, val := Value.ref 157 }, { hash := PyData.keyHash P (Str.ofString "__match_args__"), key := Value.str (Str.ofString "__match_args__") 411, val := Value.ref 158 }, { hash := PyData.keyHash P (Str.ofString "start"), key := Value.str (Str.ofString "start") 421, val := Value.ref 160 }, { hash := PyData.keyHash P (Str.ofString "end"), key := Value.str (Str.ofString "end") 431, val := Value.ref 163 }, { hash := PyData.keyHash P (Str.ofString "target"), key := Value.str (Str.ofString "target") 441, val := Value.ref 166 }, { hash := PyData.keyHash P (Str.ofString "depth"), key := Value.str (Str.ofString "depth") 451, val := Value.ref 169 }, { hash := PyData.keyHash P (Str.ofString "lasti"), key := Value.str (Str.ofString "lasti") 461, val := Value.ref 172 }, { hash := PyData.keyHash P (Str.ofString "__static_attributes__"), key := Value.str (Str.ofString "__static_attributes__") 462, val := Value.ref 174 }] 2 } : Obj)) ::
  (nat_lit 177, ({ cls := Value.type "type", data := Data.cls { name := Str.ofString "_ExceptionTableEntryBase", bases := [Value.type "tuple"], mro := [Value.ref 177, Value.type "tuple", Value.type "object"], ns := 176, qualname := Str.ofString "_ExceptionTableEntryBase", hasDict := false, subclasses := [Value.ref 190] }, slots := #[some (Value.ref 101), none, some (Value.str (Str.ofString "_ExceptionTableEntryBase") 313), some (Value.str (Str.ofString "_ExceptionTableEntryBase") 321), some Value.none, some (Value.bool false)] } : Obj)) ::
  (nat_lit 178, ({ cls := Value.type "staticmethod", data := Data.fields #[Value.ref 118] } : Obj)) ::
  (nat_lit 181, ({ cls := Value.type "tuple", data := Data.seq #[Value.ref 177] } : Obj)) ::
  (nat_lit 188, ({ cls := Value.type "tuple", data := Data.seq #[] } : Obj)) ::
  (nat_lit 189, ({ cls := Value.type "dict", data := Data.dict #[{ hash := PyData.keyHash P (Str.ofString "__module__"), key := Value.str (Str.ofString "__module__") 474, val := Value.str (Str.ofString "cpy313.dis") 254 }, { hash := PyData.keyHash P (Str.ofString "__firstlineno__"), key := Value.str (Str.ofString "__firstlineno__") 478, val := Value.int 161 477 }, { hash := PyData.keyHash P (Str.ofString "__static_attributes__"), key := Value.str (Str.ofString "__static_attributes__") 479, val := Value.ref 188 }, { hash := PyData.keyHash P (Str.ofString "__dict__"), key := Value.str (Str.ofString "__dict__") 481, val := Value.ref 191 }, { hash := PyData.keyHash P (Str.ofString "__doc__"), key := Value.str (Str.ofString "__doc__") 482, val := Value.none }] 3 } : Obj)) ::
  (nat_lit 190, ({ cls := Value.type "type", data := Data.cls { name := Str.ofString "_ExceptionTableEntry", bases := [Value.ref 177], mro := [Value.ref 190, Value.ref 177, Value.type "tuple", Value.type "object"], ns := 189, qualname := Str.ofString "_ExceptionTableEntry" }, slots := #[some (Value.ref 181), none, some (Value.str (Str.ofString "_ExceptionTableEntry") 467), some (Value.str (Str.ofString "_ExceptionTableEntry") 475), some Value.none, some (Value.bool false)] } : Obj)) ::
  (nat_lit 191, ({ cls := Value.type "getset_descriptor", data := Data.fields #[Value.str (Str.ofString "__dict__") 480, Value.ref 190, Value.builtin "function.__dict__", Value.builtin "function.__dict__#set"] } : Obj)) ::
  (nat_lit 194, ({ cls := Value.type "tuple", data := Data.seq #[] } : Obj)) ::
  (nat_lit 196, ({ cls := Value.type "tuple", data := Data.seq #[Value.str (Str.ofString "iterator") 488, Value.str (Str.ofString "b") 489, Value.str (Str.ofString "val") 490] } : Obj)) ::
  (nat_lit 197, ({ cls := Value.type "tuple", data := Data.seq #[] } : Obj)) ::
  (nat_lit 199, ({ cls := Value.type "code", data := Data.fields #[Value.str (Str.ofString "_parse_varint") 485, Value.str (Str.ofString "_parse_varint") 486, Value.str (Str.ofString "/claim/cut.py") 487, Value.int 163 0, Value.int 1 0, Value.int 0 0, Value.int 0 0, Value.int 3 0, Value.ref 194, Value.bool true, Value.int 181 0, Value.ref 195, Value.none, Value.ref 196, Value.ref 197, Value.ref 198, Value.int 491 0, Value.int 163 0, Value.str (Str.ofString "/claim/cut.py") 492] } : Obj)) ::
  (nat_lit 200, (⟨Value.type "function", none, .func (fdat (topS 10) (Str.ofString "_parse_varint") (3) ([]) (Value.none) (Value.none) (Value.none) (Value.str (Str.ofString "cpy313.dis") 254) (none) (Value.ref 199) (Value.none) (0)), #[]⟩ : Obj)) ::
  (nat_lit 201, ({ cls := Value.type "tuple", data := Data.seq #[] } : Obj)) ::
  (nat_lit 203, ({ cls := Value.type "tuple", data := Data.seq #[Value.str (Str.ofString "code") 497, Value.str (Str.ofString "iterator") 498, Value.str (Str.ofString "entries") 499, Value.str (Str.ofString "start") 500, Value.str (Str.ofString "length") 501, Value.str (Str.ofString "end") 502, Value.str (Str.ofString "target") 503, Value.str (Str.ofString "dl") 504, Value.str (Str.ofString "depth") 505, Value.str (Str.ofString "lasti") 506] } : Obj)) ::
  (nat_lit 204, ({ cls := Value.type "tuple", data := Data.seq #[] } : Obj)) ::
  (nat_lit 206, ({ cls := Value.type "code", data := Data.fields #[Value.str (Str.ofString "_parse_exception_table") 494, Value.str (Str.ofString "_parse_exception_table") 495, Value.str (Str.ofString "/claim/cut.py") 496, Value.int 171 0, Value.int 1 0, Value.int 0 0, Value.int 0 0, Value.int 3 0, Value.ref 201, Value.bool true, Value.int 181 0, Value.ref 202, Value.none, Value.ref 203, Value.ref 204, Value.ref 205, Value.int 507 0, Value.int 171 0, Value.str (Str.ofString "/claim/cut.py") 508] } : Obj)) ::
  (nat_lit 207, (⟨Value.type "function", none, .func (fdat (topS 11) (Str.ofString "_parse_exception_table") (3) ([]) (Value.none) (Value.none) (Value.none) (Value.str (Str.ofString "cpy313.dis") 254) (none) (Value.ref 206) (Value.none) (0)), #[]⟩ : Obj)) ::
  (nat_lit 215, ({ cls := Value.type "tuple", data := Data.seq #[] } : Obj)) ::
  (nat_lit 217, ({ cls := Value.type "tuple", data := Data.seq #[Value.str (Str.ofString "self") 527, Value.str (Str.ofString "fp") 528] } : Obj)) ::
  (nat_lit 218, ({ cls := Value.type "tuple", data := Data.seq #[] } : Obj)) ::
  (nat_lit 220, ({ cls := Value.type "code", data := Data.fields #[Value.str (Str.ofString "__init__") 524, Value.str (Str.ofString "_netrclex.__init__") 525, Value.str (Str.ofString "/claim/cut.py") 526, Value.int 189 0, Value.int 2 0, Value.int 0 0, Value.int 0 0, Value.int 3 0, Value.ref 215, Value.bool true, Value.int 181 0, Value.ref 216, Value.none, Value.ref 217, Value.ref 218, Value.ref 219, Value.int 529 0, Value.int 189 0, Value.str (Str.ofString "/claim/cut.py") 530] } : Obj)) ::
  (nat_lit 221, (⟨Value.type "function", none, .func (fdat (inS 13 0) (Str.ofString "_netrclex.__init__") (3) ([]) (Value.none) (Value.none) (Value.none) (Value.str (Str.ofString "cpy313.netrc") 510) (none) (Value.ref 220) (Value.none) (0)), #[]⟩ : Obj)) ::
  (nat_lit 222, ({ cls := Value.type "tuple", data := Data.seq #[] } : Obj)) ::
  (nat_lit 224, ({ cls := Value.type "tuple", data := Data.seq #[Value.str (Str.ofString "self") 535, Value.str (Str.ofString "ch") 536] } : Obj)) ::
  (nat_lit 225, ({ cls := Value.type "tuple", data := Data.seq #[] } : Obj)) ::
  (nat_lit 227, ({ cls := Value.type "code", data := Data.fields #[Value.str (Str.ofString "_read_char") 532, Value.str (Str.ofString "_netrclex._read_char") 533, Value.str (Str.ofString "/claim/cut.py") 534, Value.int 195 0, Value.int 1 0, Value.int 0 0, Value.int 0 0, Value.int 3 0, Value.ref 222, Value.bool true, Value.int 181 0, Value.ref 223, Value.none, Value.ref 224, Value.ref 225, Value.ref 226, Value.int 537 0, Value.int 195 0, Value.str (Str.ofString "/claim/cut.py") 538] } : Obj)) ::
  (nat_lit 228, (⟨Value.type "function", none, .func (fdat (inS 13 1) (Str.ofString "_netrclex._read_char") (3) ([]) (Value.none) (Value.none) (Value.none) (Value.str (Str.ofString "cpy313.netrc") 510) (none) (Value.ref 227) (Value.none) (0)), #[]⟩ : Obj)) ::
  (nat_lit 229, ({ cls := Value.type "tuple", data := Data.seq #[] } : Obj)) ::
  (nat_lit 231, ({ cls := Value.type "tuple", data := Data.seq #[Value.str (Str.ofString "self") 543, Value.str (Str.ofString "token") 544, Value.str (Str.ofString "fiter") 545, Value.str (Str.ofString "ch") 546] } : Obj)) ::
  (nat_lit 232, ({ cls := Value.type "tuple", data := Data.seq #[] } : Obj)) ::
  (nat_lit 234, ({ cls := Value.type "code", data := Data.fields #[Value.str (Str.ofString "get_token") 540, Value.str (Str.ofString "_netrclex.get_token") 541, Value.str (Str.ofString "/claim/cut.py") 542, Value.int 201 0, Value.int 1 0, Value.int 0 0, Value.int 0 0, Value.int 3 0, Value.ref 229, Value.bool true, Value.int 181 0, Value.ref 230, Value.none, Value.ref 231, Value.ref 232, Value.ref 233, Value.int 547 0, Value.int 201 0, Value.str (Str.ofString "/claim/cut.py") 548] } : Obj)) ::
  (nat_lit 235, (⟨Value.type "function", none, .func (fdat (inS 13 2) (Str.ofString "_netrclex.get_token") (3) ([]) (Value.none) (Value.none) (Value.none) (Value.str (Str.ofString "cpy313.netrc") 510) (none) (Value.ref 234) (Value.none) (0)), #[]⟩ : Obj)) ::
  (nat_lit 236, ({ cls := Value.type "tuple", data := Data.seq #[] } : Obj)) ::
  (nat_lit 238, ({ cls := Value.type "tuple", data := Data.seq #[Value.str (Str.ofString "self") 553, Value.str (Str.ofString "token") 554] } : Obj)) ::
  (nat_lit 239, ({ cls := Value.type "tuple", data := Data.seq #[] } : Obj)) ::
  (nat_lit 241, ({ cls := Value.type "code", data := Data.fields #[Value.str (Str.ofString "push_token") 550, Value.str (Str.ofString "_netrclex.push_token") 551, Value.str (Str.ofString "/claim/cut.py") 552, Value.int 228 0, Value.int 2 0, Value.int 0 0, Value.int 0 0, Value.int 3 0, Value.ref 236, Value.bool true, Value.int 181 0, Value.ref 237, Value.none, Value.ref 238, Value.ref 239, Value.ref 240, Value.int 555 0, Value.int 228 0, Value.str (Str.ofString "/claim/cut.py") 556] } : Obj)) ::
  (nat_lit 242, (⟨Value.type "function", none, .func (fdat (inS 13 3) (Str.ofString "_netrclex.push_token") (3) ([]) (Value.none) (Value.none) (Value.none) (Value.str (Str.ofString "cpy313.netrc") 510) (none) (Value.ref 241) (Value.none) (0)), #[]⟩ : Obj)) ::
  (nat_lit 243, ({ cls := Value.type "tuple", data := Data.seq #[Value.str (Str.ofString "instream") 558, Value.str (Str.ofString "lineno") 559, Value.str (Str.ofString "pushback") 560, Value.str (Str.ofString "whitespace") 561] } : Obj)) ::
  (nat_lit 244, ({ cls := Value.type "dict", data := Data.dict #[{ hash := PyData.keyHash P (Str.ofString "__module__"), key := Value.str (Str.ofString "__module__") 519, val := Value.str (Str.ofString "cpy313.netrc") 510 }, { hash := PyData.keyHash P (Str.ofString "__firstlineno__"), key := Value.str (Str.ofString "__firstlineno__") 523, val := Value.int 187 522 }, { hash := PyData.keyHash P (Str.ofString "__init__"), key := Value.str (Str.ofString "__init__") 531, val := Value.ref 221 }, { hash := PyData.keyHash P (Str.ofString "_read_char"), key := Value.str (Str.ofString "_read_char") 539, val := Value.ref 228 }, { hash := PyData.keyHash P (Str.ofString "get_token"), key := Value.str (Str.ofString "get_token") 549, val := Value.ref 235 }, { hash := PyData.keyHash P (Str.ofString "push_token"), key := Value.str (Str.ofString "push_token") 557, val := Value.ref 242 }, { hash := PyData.keyHash P (Str.ofString "__static_attributes__"), key := Value.str (Str.ofString "__static_attributes__") 562, val := Value.ref 243 }, { hash := PyData.keyHash P (Str.ofString "__dict__"), key := Value.str (Str.ofString "__dict__") 564, val := Value.ref 246 }, { hash := PyData.keyHash P (Str.ofString "__weakref__"), key := Value.str (Str.ofString "__weakref__") 566, val := Value.ref 247 }, { hash := PyData.keyHash P (Str.ofString "__doc__"), key := Value.str (Str.ofString "__doc__") 567, val := Value.none }] 4 } : Obj)) ::
  (nat_lit 245, ({ cls := Value.type "type", data := Data.cls { name := Str.ofString "_netrclex", bases := [Value.type "object"], mro := [Value.ref 245, Value.type "object"], ns := 244, qualname := Str.ofString "_netrclex" }, slots := #[none, none, some (Value.str (Str.ofString "_netrclex") 512), some (Value.str (Str.ofString "_netrclex") 520), some (Value.builtin "object.__new__"), some (Value.bool true)] } : Obj)) ::
  (nat_lit 246, ({ cls := Value.type "getset_descriptor", data := Data.fields #[Value.str (Str.ofString "__dict__") 563, Value.ref 245, Value.builtin "function.__dict__", Value.builtin "function.__dict__#set"] } : Obj)) ::
  (nat_lit 247, ({ cls := Value.type "getset_descriptor", data := Data.fields #[Value.str (Str.ofString "__weakref__") 565, Value.ref 245, Value.builtin "ExceptionGroup.__weakref__", Value.none] } : Obj)) ::
  (nat_lit 250, ({ cls := Value.type "tuple", data := Data.seq #[] } : Obj)) ::
  (nat_lit 252, ({ cls := Value.type "tuple", data := Data.seq #[Value.str (Str.ofString "text") 575, Value.str (Str.ofString "stream") 576, Value.str (Str.ofString "_law_piece") 577] } : Obj)) ::
  (nat_lit 253, ({ cls := Value.type "tuple", data := Data.seq #[Value.str (Str.ofString "signs") 578] } : Obj)) ::
  (nat_lit 255, ({ cls := Value.type "code", data := Data.fields #[Value.str (Str.ofString "_law_lexer") 572, Value.str (Str.ofString "_law_lexer") 573, Value.str (Str.ofString "/claim/cut.py") 574, Value.int 231 0, Value.int 1 0, Value.int 0 0, Value.int 0 0, Value.int 3 0, Value.ref 250, Value.bool true, Value.int 181 0, Value.ref 251, Value.none, Value.ref 252, Value.ref 253, Value.ref 254, Value.int 579 0, Value.int 231 0, Value.str (Str.ofString "/claim/cut.py") 580] } : Obj)) ::
  (nat_lit 256, (⟨Value.type "function", none, .func (fdat (topS 15) (Str.ofString "_law_lexer") (3) ([]) (Value.none) (Value.none) (Value.none) (Value.str (Str.ofString "law_kl0301_01") 570) (none) (Value.ref 255) (Value.none) (0)), #[]⟩ : Obj)) ::
  (nat_lit 257, ({ cls := Value.type "tuple", data := Data.seq #[] } : Obj)) ::
  (nat_lit 259, ({ cls := Value.type "tuple", data := Data.seq #[Value.str (Str.ofString "number") 585, Value.str (Str.ofString "octets") 586] } : Obj)) ::
  (nat_lit 260, ({ cls := Value.type "tuple", data := Data.seq #[] } : Obj)) ::
  (nat_lit 262, ({ cls := Value.type "code", data := Data.fields #[Value.str (Str.ofString "_law_octets") 582, Value.str (Str.ofString "_law_octets") 583, Value.str (Str.ofString "/claim/cut.py") 584, Value.int 239 0, Value.int 1 0, Value.int 0 0, Value.int 0 0, Value.int 3 0, Value.ref 257, Value.bool true, Value.int 181 0, Value.ref 258, Value.none, Value.ref 259, Value.ref 260, Value.ref 261, Value.int 587 0, Value.int 239 0, Value.str (Str.ofString "/claim/cut.py") 588] } : Obj)) ::
  (nat_lit 263, (⟨Value.type "function", none, .func (fdat (topS 16) (Str.ofString "_law_octets") (3) ([]) (Value.none) (Value.none) (Value.none) (Value.str (Str.ofString "law_kl0301_01") 570) (none) (Value.ref 262) (Value.none) (0)), #[]⟩ : Obj)) ::
  (nat_lit 264, ({ cls := Value.type "tuple", data := Data.seq #[] } : Obj)) ::
  (nat_lit 267, ({ cls := Value.type "code", data := Data.fields #[Value.str (Str.ofString "_law_word") 590, Value.str (Str.ofString "_law_word") 591, Value.str (Str.ofString "/claim/cut.py") 592, Value.int 245 0, Value.int 2 0, Value.int 0 0, Value.int 0 0, Value.int 3 0, Value.ref 264, Value.bool true, Value.int 181 0, Value.ref 265, Value.none, Value.none, Value.none, Value.ref 266, Value.int 593 0, Value.int 245 0, Value.str (Str.ofString "/claim/cut.py") 594] } : Obj)) ::
  (nat_lit 268, (⟨Value.type "function", none, .func (fdat (topS 17) (Str.ofString "_law_word") (3) ([]) (Value.none) (Value.none) (Value.none) (Value.str (Str.ofString "law_kl0301_01") 570) (none) (Value.ref 267) (Value.none) (0)), #[]⟩ : Obj)) ::
  (nat_lit 269, ({ cls := Value.type "tuple", data := Data.seq #[] } : Obj)) ::
  (nat_lit 272, ({ cls := Value.type "code", data := Data.fields #[Value.str (Str.ofString "_law_entries") 596, Value.str (Str.ofString "_law_entries") 597, Value.str (Str.ofString "/claim/cut.py") 598, Value.int 250 0, Value.int 1 0, Value.int 0 0, Value.int 0 0, Value.int 3 0, Value.ref 269, Value.bool true, Value.int 181 0, Value.ref 270, Value.none, Value.none, Value.none, Value.ref 271, Value.int 599 0, Value.int 250 0, Value.str (Str.ofString "/claim/cut.py") 600] } : Obj)) ::
  (nat_lit 273, (⟨Value.type "function", none, .func (fdat (topS 18) (Str.ofString "_law_entries") (3) ([]) (Value.none) (Value.none) (Value.none) (Value.str (Str.ofString "law_kl0301_01") 570) (none) (Value.ref 272) (Value.none) (0)), #[]⟩ : Obj)) ::
  (nat_lit 274, ({ cls := Value.type "tuple", data := Data.seq #[] } : Obj)) ::
  (nat_lit 276, ({ cls := Value.type "tuple", data := Data.seq #[Value.str (Str.ofString "one") 605, Value.str (Str.ofString "two") 606] } : Obj)) ::
  (nat_lit 277, ({ cls := Value.type "tuple", data := Data.seq #[] } : Obj)) ::
  (nat_lit 279, ({ cls := Value.type "code", data := Data.fields #[Value.str (Str.ofString "_law_apart") 602, Value.str (Str.ofString "_law_apart") 603, Value.str (Str.ofString "/claim/cut.py") 604, Value.int 254 0, Value.int 2 0, Value.int 0 0, Value.int 0 0, Value.int 3 0, Value.ref 274, Value.bool true, Value.int 181 0, Value.ref 275, Value.none, Value.ref 276, Value.ref 277, Value.ref 278, Value.int 607 0, Value.int 254 0, Value.str (Str.ofString "/claim/cut.py") 608] } : Obj)) ::
  (nat_lit 280, (⟨Value.type "function", none, .func (fdat (topS 19) (Str.ofString "_law_apart") (3) ([]) (Value.none) (Value.none) (Value.none) (Value.str (Str.ofString "law_kl0301_01") 570) (none) (Value.ref 279) (Value.none) (0)), #[]⟩ : Obj)) ::
  (nat_lit 281, ({ cls := Value.type "tuple", data := Data.seq #[] } : Obj)) ::
  (nat_lit 283, ({ cls := Value.type "tuple", data := Data.seq #[Value.str (Str.ofString "block") 613] } : Obj)) ::
  (nat_lit 284, ({ cls := Value.type "tuple", data := Data.seq #[] } : Obj)) ::
  (nat_lit 286, ({ cls := Value.type "code", data := Data.fields #[Value.str (Str.ofString "_law_begin") 610, Value.str (Str.ofString "_law_begin") 611, Value.str (Str.ofString "/claim/cut.py") 612, Value.int 256 0, Value.int 1 0, Value.int 0 0, Value.int 0 0, Value.int 3 0, Value.ref 281, Value.bool true, Value.int 181 0, Value.ref 282, Value.none, Value.ref 283, Value.ref 284, Value.ref 285, Value.int 614 0, Value.int 256 0, Value.str (Str.ofString "/claim/cut.py") 615] } : Obj)) ::
  (nat_lit 287, (⟨Value.type "function", none, .func (fdat (topS 20) (Str.ofString "_law_begin") (3) ([]) (Value.none) (Value.none) (Value.none) (Value.str (Str.ofString "law_kl0301_01") 570) (none) (Value.ref 286) (Value.none) (0)), #[]⟩ : Obj)) ::
  (nat_lit 288, ({ cls := Value.type "tuple", data := Data.seq #[] } : Obj)) ::
  (nat_lit 290, ({ cls := Value.type "tuple", data := Data.seq #[Value.str (Str.ofString "blocks") 620, Value.str (Str.ofString "order") 621, Value.str (Str.ofString "ends") 622, Value.str (Str.ofString "ways") 623, Value.str (Str.ofString "block") 624, Value.str (Str.ofString "begin") 625, Value.str (Str.ofString "end") 626] } : Obj)) ::
  (nat_lit 291, ({ cls := Value.type "tuple", data := Data.seq #[] } : Obj)) ::
  (nat_lit 293, ({ cls := Value.type "code", data := Data.fields #[Value.str (Str.ofString "_law_ways") 617, Value.str (Str.ofString "_law_ways") 618, Value.str (Str.ofString "/claim/cut.py") 619, Value.int 258 0, Value.int 1 0, Value.int 0 0, Value.int 0 0, Value.int 3 0, Value.ref 288, Value.bool true, Value.int 181 0, Value.ref 289, Value.none, Value.ref 290, Value.ref 291, Value.ref 292, Value.int 627 0, Value.int 258 0, Value.str (Str.ofString "/claim/cut.py") 628] } : Obj)) ::
  (nat_lit 294, (⟨Value.type "function", none, .func (fdat (topS 21) (Str.ofString "_law_ways") (3) ([]) (Value.none) (Value.none) (Value.none) (Value.str (Str.ofString "law_kl0301_01") 570) (none) (Value.ref 293) (Value.none) (0)), #[]⟩ : Obj)) ::
  (nat_lit 295, ({ cls := Value.type "tuple", data := Data.seq #[] } : Obj)) ::
  (nat_lit 297, ({ cls := Value.type "tuple", data := Data.seq #[Value.str (Str.ofString "kept") 633, Value.str (Str.ofString "thing") 634, Value.str (Str.ofString "spot") 635] } : Obj)) ::
  (nat_lit 298, ({ cls := Value.type "tuple", data := Data.seq #[] } : Obj)) ::
  (nat_lit 300, ({ cls := Value.type "code", data := Data.fields #[Value.str (Str.ofString "_law_new") 630, Value.str (Str.ofString "_law_new") 631, Value.str (Str.ofString "/claim/cut.py") 632, Value.int 266 0, Value.int 2 0, Value.int 0 0, Value.int 0 0, Value.int 3 0, Value.ref 295, Value.bool true, Value.int 181 0, Value.ref 296, Value.none, Value.ref 297, Value.ref 298, Value.ref 299, Value.int 636 0, Value.int 266 0, Value.str (Str.ofString "/claim/cut.py") 637] } : Obj)) ::
  (nat_lit 301, (⟨Value.type "function", none, .func (fdat (topS 22) (Str.ofString "_law_new") (3) ([]) (Value.none) (Value.none) (Value.none) (Value.str (Str.ofString "law_kl0301_01") 570) (none) (Value.ref 300) (Value.none) (0)), #[]⟩ : Obj)) ::
  (nat_lit 302, ({ cls := Value.type "tuple", data := Data.seq #[] } : Obj)) ::
  (nat_lit 305, ({ cls := Value.type "code", data := Data.fields #[Value.str (Str.ofString "_law_shape") 639, Value.str (Str.ofString "_law_shape") 640, Value.str (Str.ofString "/claim/cut.py") 641, Value.int 272 0, Value.int 2 0, Value.int 0 0, Value.int 0 0, Value.int 3 0, Value.ref 302, Value.bool true, Value.int 181 0, Value.ref 303, Value.none, Value.none, Value.none, Value.ref 304, Value.int 642 0, Value.int 272 0, Value.str (Str.ofString "/claim/cut.py") 643] } : Obj)) ::
  (nat_lit 306, (⟨Value.type "function", none, .func (fdat (topS 23) (Str.ofString "_law_shape") (3) ([]) (Value.none) (Value.none) (Value.none) (Value.str (Str.ofString "law_kl0301_01") 570) (none) (Value.ref 305) (Value.none) (0)), #[]⟩ : Obj)) ::
  (nat_lit 307, ({ cls := Value.type "tuple", data := Data.seq #[] } : Obj)) ::
  (nat_lit 310, ({ cls := Value.type "code", data := Data.fields #[Value.str (Str.ofString "_law_kinds") 645, Value.str (Str.ofString "_law_kinds") 646, Value.str (Str.ofString "/claim/cut.py") 647, Value.int 274 0, Value.int 2 0, Value.int 0 0, Value.int 0 0, Value.int 3 0, Value.ref 307, Value.bool true, Value.int 181 0, Value.ref 308, Value.none, Value.none, Value.none, Value.ref 309, Value.int 648 0, Value.int 274 0, Value.str (Str.ofString "/claim/cut.py") 649] } : Obj)) ::
  (nat_lit 311, (⟨Value.type "function", none, .func (fdat (topS 24) (Str.ofString "_law_kinds") (3) ([]) (Value.none) (Value.none) (Value.none) (Value.str (Str.ofString "law_kl0301_01") 570) (none) (Value.ref 310) (Value.none) (0)), #[]⟩ : Obj)) ::
  (nat_lit 312, ({ cls := Value.type "tuple", data := Data.seq #[] } : Obj)) ::
  (nat_lit 315, ({ cls := Value.type "code", data := Data.fields #[Value.str (Str.ofString "law") 651, Value.str (Str.ofString "law") 652, Value.str (Str.ofString "/claim/cut.py") 653, Value.int 296 0, Value.int 1 0, Value.int 0 0, Value.int 0 0, Value.int 3 0, Value.ref 312, Value.bool true, Value.int 181 0, Value.ref 313, Value.none, Value.none, Value.none, Value.ref 314, Value.int 654 0, Value.int 296 0, Value.str (Str.ofString "/claim/cut.py") 655] } : Obj)) ::
  (nat_lit 316, (⟨Value.type "function", none, .func (fdat (topS 25) (Str.ofString "law") (3) ([]) (Value.none) (Value.none) (Value.none) (Value.str (Str.ofString "law_kl0301_01") 570) (none) (Value.ref 315) (Value.none) (0)), #[]⟩ : Obj)) :: []

noncomputable def V : Program := { PP with main := { PP.main with body := [0, 7, 8, 9, 10, 11, 13, 15, 16, 17, 18, 19, 20, 21, 22, 23, 24, 25].map topS } }
noncomputable def AS : List Addr := [2, 3, 15, 17, 18, 20, 21, 22, 23, 24, 26, 27, 29, 30, 31, 32, 33, 35, 36, 38, 39, 40, 41, 42, 44, 45, 47, 48, 49, 50, 51, 53, 54, 56, 57, 65, 67, 68, 70, 71, 72, 73, 75, 76, 78, 79, 80, 82, 83, 85, 86, 87, 89, 90, 92, 93, 94, 95, 96, 97, 98, 101, 104, 109, 110, 111, 112, 114, 115, 117, 118, 119, 121, 122, 124, 125, 126, 127, 128, 129, 130, 132, 133, 135, 136, 137, 139, 140, 142, 143, 144, 146, 147, 149, 150, 151, 153, 154, 156, 157, 158, 159, 160, 162, 163, 165, 166, 168, 169, 171, 172, 174, 176, 177, 178, 181, 188, 189, 190, 191, 194, 196, 197, 199, 200, 201, 203, 204, 206, 207, 215, 217, 218, 220, 221, 222, 224, 225, 227, 228, 229, 231, 232, 234, 235, 236, 238, 239, 241, 242, 243, 244, 245, 246, 247, 250, 252, 253, 255, 256, 257, 259, 260, 262, 263, 264, 267, 268, 269, 272, 273, 274, 276, 277, 279, 280, 281, 283, 284, 286, 287, 288, 290, 291, 293, 294, 295, 297, 298, 300, 301, 302, 305, 306, 307, 310, 311, 312, 315, 316]
theorem as_K : ∀ P, AS = (K P).map (·.1) := fun P => by kernel_rfl
noncomputable abbrev HK : Hook := kmHook K AS as_K [251]
/-- the top's run over a tree of objects -/
noncomputable def topT (tb : String → Option Builtin) (p : Program) (w : World) (n₀ : Nat) (ann : Option Value) : Nat → SharedT → Thread → Option SharedT
  | 0, _, _ => none
  | n + 1, s, t => match through t with
    | true => some s
    | false => match stepOk n₀ ann t with
      | false => none
      | true => match stepT (denote tb) p w s t with
        | some (s', t') => topT tb p w n₀ ann n s' t'
        | none => none
theorem topT_of {tb : String → Option Builtin} {p : Program} {w : World} {n₀ : Nat} {ann : Option Value} : ∀ {n : Nat} {s s' : SharedT} {t : Thread}, topT tb p w n₀ ann n s t = some s' → topRun tb p w n₀ ann n s.abs t = some s'.abs
  | 0, _, _, _, h => by cases h
  | n + 1, s, s', t, h => by
    unfold topT at h
    unfold topRun
    cases he : through t with
    | true => rw [he] at h; cases h; rfl
    | false =>
      rw [he] at h
      cases hk : stepOk n₀ ann t with
      | false => rw [hk] at h; cases h
      | true =>
        rw [hk] at h
        cases hs : stepT (denote tb) p w s t with
        | none => rw [hs] at h; cases h
        | some r => obtain ⟨s₂, t₂⟩ := r; rw [hs] at h; rw [stepT_spec hs]; exact topT_of h
noncomputable def btOf : List Obj → Nat → BT → BT
  | [], _, t => t
  | o :: l, n, t => btOf l (n + 1) (t.ins n o)
noncomputable def T0 (P : Params) : BT := btOf (boot_heap P).objs.toList 0 .nil
/-- the same, so many steps far -/
noncomputable def topGT (tb : String → Option Builtin) (p : Program) (w : World) (n₀ : Nat) (ann : Option Value) : Nat → SharedT → Thread → Option (SharedT × Thread)
  | 0, s, t => some (s, t)
  | n + 1, s, t => match through t with
    | true => none
    | false => match stepOk n₀ ann t with
      | false => none
      | true => match stepT (denote tb) p w s t with
        | some (s', t') => topGT tb p w n₀ ann n s' t'
        | none => none
theorem topGT_of {tb : String → Option Builtin} {p : Program} {w : World} {n₀ : Nat} {ann : Option Value} : ∀ {n : Nat} {s s' : SharedT} {t t' : Thread}, topGT tb p w n₀ ann n s t = some (s', t') → topGo tb p w n₀ ann n s.abs t = some (s'.abs, t')
  | 0, _, _, _, _, h => by cases h; rfl
  | n + 1, s, s', t, t', h => by
    unfold topGT at h
    unfold topGo
    cases he : through t with
    | true => rw [he] at h; cases h
    | false =>
      rw [he] at h
      cases hk : stepOk n₀ ann t with
      | false => rw [hk] at h; cases h
      | true =>
        rw [hk] at h
        cases hs : stepT (denote tb) p w s t with
        | none => rw [hs] at h; cases h
        | some r => obtain ⟨s₂, t₂⟩ := r; rw [hs] at h; rw [stepT_spec hs]; exact topGT_of h
/-- what stands at the cuts and is not of K -/
noncomputable def D (P : Params) : Frag :=
  (nat_lit 0, (boot_o_0 P : Obj)) ::
  (nat_lit 1, (boot_o_1 P : Obj)) ::
  (nat_lit 4, (boot_o_4 P : Obj)) ::
  (nat_lit 5, (boot_o_5 P : Obj)) ::
  (nat_lit 6, (boot_o_6 P : Obj)) ::
  (nat_lit 7, (boot_o_7 P : Obj)) ::
  (nat_lit 8, (boot_o_8 P : Obj)) ::
  (nat_lit 9, (boot_o_9 P : Obj)) ::
  (nat_lit 10, (boot_o_10 P : Obj)) ::
  (nat_lit 11, ({ cls := Value.type "tuple", data := Data.seq #[] } : Obj)) ::
  (nat_lit 12, ({ cls := Value.none, data := Data.fields #[Value.int 1 0, Value.int 0 0, Value.ref 20, Value.int 5 0, Value.int 0 0, Value.ref 29, Value.int 20 0, Value.int 0 0, Value.ref 38, Value.int 51 0, Value.int 0 0, Value.ref 47, Value.int 66 0, Value.int 0 0, Value.ref 56, Value.int 98 0, Value.int 0 0, Value.ref 63, Value.int 116 0, Value.int 0 0, Value.ref 107, Value.int 161 0, Value.int 0 0, Value.ref 186, Value.int 163 0, Value.int 0 0, Value.ref 199, Value.int 171 0, Value.int 0 0, Value.ref 206, Value.int 187 0, Value.int 0 0, Value.ref 213, Value.int 231 0, Value.int 0 0, Value.ref 255, Value.int 239 0, Value.int 0 0, Value.ref 262, Value.int 245 0, Value.int 0 0, Value.ref 267, Value.int 250 0, Value.int 0 0, Value.ref 272, Value.int 254 0, Value.int 0 0, Value.ref 279, Value.int 256 0, Value.int 0 0, Value.ref 286, Value.int 258 0, Value.int 0 0, Value.ref 293, Value.int 266 0, Value.int 0 0, Value.ref 300, Value.int 272 0, Value.int 0 0, Value.ref 305, Value.int 274 0, Value.int 0 0, Value.ref 310, Value.int 296 0, Value.int 0 0, Value.ref 315] } : Obj)) ::
  (nat_lit 13, ({ cls := Value.type "code", data := Data.fields #[Value.str (Str.ofString "<module>") 182, Value.str (Str.ofString "<module>") 183, Value.str (Str.ofString "/claim/cut.py") 184, Value.int 1 0, Value.int 0 0, Value.int 0 0, Value.int 0 0, Value.int 0 0, Value.ref 11, Value.bool false, Value.int 181 0, Value.ref 12, Value.none, Value.none, Value.none, Value.none, Value.int 185 0, Value.int 1 0, Value.str (Str.ofString "/claim/cut.py") 186] } : Obj)) ::
  (nat_lit 14, ({ cls := Value.type "frame", slots := #[some (Value.ref 13), some (Value.ref 3), some (Value.ref 3), none, some (Value.str (Str.ofString "__main__") 164), none, some (Value.ref 0)] } : Obj)) ::
  (nat_lit 16, ({ cls := Value.none, data := Data.fields #[] } : Obj)) ::
  (nat_lit 19, (⟨Value.none, none, .func (fdat (topS 0) (Str.ofString "_wall") (0) ([]) (Value.none) (Value.none) (Value.none) (Value.none) (none) (Value.none) (Value.none) (0)), #[]⟩ : Obj)) ::
  (nat_lit 25, ({ cls := Value.none, data := Data.fields #[] } : Obj)) ::
  (nat_lit 28, (⟨Value.none, none, .func (fdat (topS 2) (Str.ofString "insort_right") (0) ([]) (Value.none) (Value.none) (Value.none) (Value.none) (none) (Value.none) (Value.none) (0)), #[]⟩ : Obj)) ::
  (nat_lit 34, ({ cls := Value.none, data := Data.fields #[] } : Obj)) ::
  (nat_lit 37, (⟨Value.none, none, .func (fdat (topS 3) (Str.ofString "bisect_right") (0) ([]) (Value.none) (Value.none) (Value.none) (Value.none) (none) (Value.none) (Value.none) (0)), #[]⟩ : Obj)) ::
  (nat_lit 43, ({ cls := Value.none, data := Data.fields #[] } : Obj)) ::
  (nat_lit 46, (⟨Value.none, none, .func (fdat (topS 4) (Str.ofString "insort_left") (0) ([]) (Value.none) (Value.none) (Value.none) (Value.none) (none) (Value.none) (Value.none) (0)), #[]⟩ : Obj)) ::
  (nat_lit 52, ({ cls := Value.none, data := Data.fields #[] } : Obj)) ::
  (nat_lit 55, (⟨Value.none, none, .func (fdat (topS 5) (Str.ofString "bisect_left") (0) ([]) (Value.none) (Value.none) (Value.none) (Value.none) (none) (Value.none) (Value.none) (0)), #[]⟩ : Obj)) ::
  (nat_lit 58, ({ cls := Value.type "tuple", data := Data.seq #[] } : Obj)) ::
  (nat_lit 59, ({ cls := Value.type "builtin_function_or_method", data := Data.fields #[Value.builtin "type.__prepare__", Value.type "type"] } : Obj)) ::
  (nat_lit 60, ({ cls := Value.type "dict", data := Data.dict #[{ hash := PyData.keyHash P (Str.ofString "__module__"), key := Value.str (Str.ofString "__module__") 263, val := Value.str (Str.ofString "cpy313.dis") 254 }, { hash := PyData.keyHash P (Str.ofString "__qualname__"), key := Value.str (Str.ofString "__qualname__") 265, val := Value.str (Str.ofString "_tuplegetter") 264 }, { hash := PyData.keyHash P (Str.ofString "__firstlineno__"), key := Value.str (Str.ofString "__firstlineno__") 267, val := Value.int 98 266 }, { hash := PyData.keyHash P (Str.ofString "__init__"), key := Value.str (Str.ofString "__init__") 276, val := Value.ref 71 }, { hash := PyData.keyHash P (Str.ofString "__get__"), key := Value.str (Str.ofString "__get__") 285, val := Value.ref 79 }, { hash := PyData.keyHash P (Str.ofString "__set__"), key := Value.str (Str.ofString "__set__") 294, val := Value.ref 86 }, { hash := PyData.keyHash P (Str.ofString "__delete__"), key := Value.str (Str.ofString "__delete__") 302, val := Value.ref 93 }, { hash := PyData.keyHash P (Str.ofString "__static_attributes__"), key := Value.str (Str.ofString "__static_attributes__") 305, val := Value.ref 94 }] 8 } : Obj)) ::
  (nat_lit 61, ({ cls := Value.type "tuple", data := Data.seq #[] } : Obj)) ::
  (nat_lit 62, ({ cls := Value.none, data := Data.fields #[Value.int 100 0, Value.int 4 0, Value.ref 70, Value.int 104 0, Value.int 4 0, Value.ref 78, Value.int 111 0, Value.int 4 0, Value.ref 85, Value.int 114 0, Value.int 4 0, Value.ref 92] } : Obj)) ::
  (nat_lit 63, ({ cls := Value.type "code", data := Data.fields #[Value.str (Str.ofString "_tuplegetter") 258, Value.str (Str.ofString "_tuplegetter") 259, Value.str (Str.ofString "/claim/cut.py") 260, Value.int 98 0, Value.int 0 0, Value.int 0 0, Value.int 0 0, Value.int 0 0, Value.ref 61, Value.bool false, Value.int 181 0, Value.ref 62, Value.none, Value.none, Value.none, Value.none, Value.int 261 0, Value.int 98 0, Value.str (Str.ofString "/claim/cut.py") 262] } : Obj)) ::
  (nat_lit 64, ({ cls := Value.type "frame", slots := #[some (Value.ref 63), some (Value.ref 3), some (Value.ref 60), none, some (Value.str (Str.ofString "cpy313.dis") 254), none, some (Value.ref 0)] } : Obj)) ::
  (nat_lit 66, ({ cls := Value.none, data := Data.fields #[] } : Obj)) ::
  (nat_lit 69, (⟨Value.none, none, .func (fdat (inS 7 0) (Str.ofString "_tuplegetter.__init__") (0) ([]) (Value.none) (Value.none) (Value.none) (Value.none) (none) (Value.none) (Value.none) (0)), #[]⟩ : Obj)) ::
  (nat_lit 74, ({ cls := Value.none, data := Data.fields #[] } : Obj)) ::
  (nat_lit 77, (⟨Value.none, none, .func (fdat (inS 7 1) (Str.ofString "_tuplegetter.__get__") (0) ([]) (Value.none) (Value.none) (Value.none) (Value.none) (none) (Value.none) (Value.none) (0)), #[]⟩ : Obj)) ::
  (nat_lit 81, ({ cls := Value.none, data := Data.fields #[] } : Obj)) ::
  (nat_lit 84, (⟨Value.none, none, .func (fdat (inS 7 2) (Str.ofString "_tuplegetter.__set__") (0) ([]) (Value.none) (Value.none) (Value.none) (Value.none) (none) (Value.none) (Value.none) (0)), #[]⟩ : Obj)) ::
  (nat_lit 88, ({ cls := Value.none, data := Data.fields #[] } : Obj)) ::
  (nat_lit 91, (⟨Value.none, none, .func (fdat (inS 7 3) (Str.ofString "_tuplegetter.__delete__") (0) ([]) (Value.none) (Value.none) (Value.none) (Value.none) (none) (Value.none) (Value.none) (0)), #[]⟩ : Obj)) ::
  (nat_lit 99, ({ cls := Value.type "super", data := Data.fields #[Value.ref 96, Value.ref 96, Value.ref 96] } : Obj)) ::
  (nat_lit 100, ({ cls := Value.type "builtin_function_or_method", data := Data.fields #[Value.builtin "object.__init_subclass__", Value.ref 96] } : Obj)) ::
  (nat_lit 102, ({ cls := Value.type "builtin_function_or_method", data := Data.fields #[Value.builtin "type.__prepare__", Value.type "type"] } : Obj)) ::
  (nat_lit 103, ({ cls := Value.type "dict", data := Data.dict #[{ hash := PyData.keyHash P (Str.ofString "__module__"), key := Value.str (Str.ofString "__module__") 320, val := Value.str (Str.ofString "cpy313.dis") 254 }, { hash := PyData.keyHash P (Str.ofString "__qualname__"), key := Value.str (Str.ofString "__qualname__") 322, val := Value.str (Str.ofString "_ExceptionTableEntryBase") 321 }, { hash := PyData.keyHash P (Str.ofString "__firstlineno__"), key := Value.str (Str.ofString "__firstlineno__") 324, val := Value.int 116 323 }, { hash := PyData.keyHash P (Str.ofString "__doc__"), key := Value.str (Str.ofString "__doc__") 326, val := Value.str (Str.ofString "_ExceptionTableEntryBase(start, end, target, depth, lasti)") 325 }, { hash := PyData.keyHash P (Str.ofString "__slots__"), key := Value.str (Str.ofString "__slots__") 328, val := Value.ref 109 }, { hash := PyData.keyHash P (Str.ofString "_fields"), key := Value.str (Str.ofString "_fields") 334, val := Value.ref 110 }, { hash := PyData.keyHash P (Str.ofString "_field_defaults"), key := Value.str (Str.ofString "_field_defaults") 335, val := Value.ref 111 }, { hash := PyData.keyHash P (Str.ofString "__new__"), key := Value.str (Str.ofString "__new__") 348, val := Value.ref 118 }, { hash := PyData.keyHash P (Str.ofString "_make"), key := Value.str (Str.ofString "_make") 370, val := Value.ref 127 }, { hash := PyData.keyHash P (Str.ofString "_replace"), key := Value.str (Str.ofString "_replace") 381, val := Value.ref 136 }, { hash := PyData.keyHash P (Str.ofString "__replace__"), key := Value.str (Str.ofString "__replace__") 382, val := Value.ref 136 }, { hash := PyData.keyHash P (Str.ofString "__repr__"), key := Value.str (Str.ofString "__repr__") 390, val := Value.ref 143 }, { hash := PyData.keyHash P (Str.ofString "_asdict"), key := Value.str (Str.ofString "_asdict") 397, val := Value.ref 150 }, { hash := PyData.keyHash P (Str.ofString "__getnewargs__"), key := Value.str (Str.ofString "__getnewargs__") 405, val := Value.ref 157 }, { hash := PyData.keyHash P (Str.ofString "__match_args__"), key := Value.str (Str.ofString "__match_args__") 411, val := Value.ref 158 }, { hash := PyData.keyHash P (Str.ofString "start"), key := Value.str (Str.ofString "start") 421, val := Value.ref 160 }, { hash := PyData.keyHash P (Str.ofString "end"), key := Value.str (Str.ofString "end") 431, val := Value.ref 163 }, { hash := PyData.keyHash P (Str.ofString "target"), key := Value.str (Str.ofString "target") 441, val := Value.ref 166 }, { hash := PyData.keyHash P (Str.ofString "depth"), key := Value.str (Str.ofString "depth") 451, val := Value.ref 169 }, { hash := PyData.keyHash P (Str.ofString "lasti"), key := Value.str (Str.ofString "lasti") 461, val := Value.ref 172 }, { hash := PyData.keyHash P (Str.ofString "__static_attributes__"), key := Value.str (Str.ofString "__static_attributes__") 462, val := Value.ref 174 }, { hash := PyData.keyHash P (Str.ofString "__classcell__"), key := Value.str (Str.ofString "__classcell__") 463, val := Value.ref 104 }] 22 } : Obj)) ::
  (nat_lit 105, ({ cls := Value.type "tuple", data := Data.seq #[] } : Obj)) ::
  (nat_lit 106, ({ cls := Value.none, data := Data.fields #[Value.int 122 0, Value.int 4 0, Value.ref 117, Value.int 127 0, Value.int 4 0, Value.ref 124, Value.int 134 0, Value.int 4 0, Value.ref 135, Value.int 145 0, Value.int 4 0, Value.ref 142, Value.int 149 0, Value.int 4 0, Value.ref 149, Value.int 152 0, Value.int 4 0, Value.ref 156] } : Obj)) ::
  (nat_lit 107, ({ cls := Value.type "code", data := Data.fields #[Value.str (Str.ofString "_ExceptionTableEntryBase") 315, Value.str (Str.ofString "_ExceptionTableEntryBase") 316, Value.str (Str.ofString "/claim/cut.py") 317, Value.int 116 0, Value.int 0 0, Value.int 0 0, Value.int 0 0, Value.int 0 0, Value.ref 105, Value.bool false, Value.int 181 0, Value.ref 106, Value.none, Value.none, Value.none, Value.none, Value.int 318 0, Value.int 116 0, Value.str (Str.ofString "/claim/cut.py") 319] } : Obj)) ::
  (nat_lit 108, ({ cls := Value.type "frame", slots := #[some (Value.ref 107), some (Value.ref 3), some (Value.ref 103), none, some (Value.str (Str.ofString "cpy313.dis") 254), none, some (Value.ref 0)] } : Obj)) ::
  (nat_lit 113, ({ cls := Value.none, data := Data.fields #[] } : Obj)) ::
  (nat_lit 116, (⟨Value.none, none, .func (fdat (inS 8 4) (Str.ofString "_ExceptionTableEntryBase.__new__") (0) ([]) (Value.none) (Value.none) (Value.none) (Value.none) (none) (Value.none) (Value.none) (0)), #[]⟩ : Obj)) ::
  (nat_lit 120, ({ cls := Value.none, data := Data.fields #[] } : Obj)) ::
  (nat_lit 123, (⟨Value.none, none, .func (fdat (inS 8 5) (Str.ofString "_ExceptionTableEntryBase._make") (0) ([]) (Value.none) (Value.none) (Value.none) (Value.none) (none) (Value.none) (Value.none) (0)), #[]⟩ : Obj)) ::
  (nat_lit 131, ({ cls := Value.none, data := Data.fields #[] } : Obj)) ::
  (nat_lit 134, (⟨Value.none, none, .func (fdat (inS 8 6) (Str.ofString "_ExceptionTableEntryBase._replace") (0) ([]) (Value.none) (Value.none) (Value.none) (Value.none) (none) (Value.none) (Value.none) (0)), #[]⟩ : Obj)) ::
  (nat_lit 138, ({ cls := Value.none, data := Data.fields #[] } : Obj)) ::
  (nat_lit 141, (⟨Value.none, none, .func (fdat (inS 8 8) (Str.ofString "_ExceptionTableEntryBase.__repr__") (0) ([]) (Value.none) (Value.none) (Value.none) (Value.none) (none) (Value.none) (Value.none) (0)), #[]⟩ : Obj)) ::
  (nat_lit 145, ({ cls := Value.none, data := Data.fields #[] } : Obj)) ::
  (nat_lit 148, (⟨Value.none, none, .func (fdat (inS 8 9) (Str.ofString "_ExceptionTableEntryBase._asdict") (0) ([]) (Value.none) (Value.none) (Value.none) (Value.none) (none) (Value.none) (Value.none) (0)), #[]⟩ : Obj)) ::
  (nat_lit 152, ({ cls := Value.none, data := Data.fields #[] } : Obj)) ::
  (nat_lit 155, (⟨Value.none, none, .func (fdat (inS 8 10) (Str.ofString "_ExceptionTableEntryBase.__getnewargs__") (0) ([]) (Value.none) (Value.none) (Value.none) (Value.none) (none) (Value.none) (Value.none) (0)), #[]⟩ : Obj)) ::
  (nat_lit 161, ({ cls := Value.type "frame", data := Data.dict #[{ hash := PyData.keyHash P (Str.ofString "self"), key := Value.str (Str.ofString "self") 414, val := Value.ref 160 }, { hash := PyData.keyHash P (Str.ofString "index"), key := Value.str (Str.ofString "index") 415, val := Value.int 0 412 }, { hash := PyData.keyHash P (Str.ofString "doc"), key := Value.str (Str.ofString "doc") 416, val := Value.str (Str.ofString "Alias for field number 0") 413 }] 3 } : Obj)) ::
  (nat_lit 164, ({ cls := Value.type "frame", data := Data.dict #[{ hash := PyData.keyHash P (Str.ofString "self"), key := Value.str (Str.ofString "self") 424, val := Value.ref 163 }, { hash := PyData.keyHash P (Str.ofString "index"), key := Value.str (Str.ofString "index") 425, val := Value.int 1 422 }, { hash := PyData.keyHash P (Str.ofString "doc"), key := Value.str (Str.ofString "doc") 426, val := Value.str (Str.ofString "Alias for field number 1") 423 }] 3 } : Obj)) ::
  (nat_lit 167, ({ cls := Value.type "frame", data := Data.dict #[{ hash := PyData.keyHash P (Str.ofString "self"), key := Value.str (Str.ofString "self") 434, val := Value.ref 166 }, { hash := PyData.keyHash P (Str.ofString "index"), key := Value.str (Str.ofString "index") 435, val := Value.int 2 432 }, { hash := PyData.keyHash P (Str.ofString "doc"), key := Value.str (Str.ofString "doc") 436, val := Value.str (Str.ofString "Alias for field number 2") 433 }] 3 } : Obj)) ::
  (nat_lit 170, ({ cls := Value.type "frame", data := Data.dict #[{ hash := PyData.keyHash P (Str.ofString "self"), key := Value.str (Str.ofString "self") 444, val := Value.ref 169 }, { hash := PyData.keyHash P (Str.ofString "index"), key := Value.str (Str.ofString "index") 445, val := Value.int 3 442 }, { hash := PyData.keyHash P (Str.ofString "doc"), key := Value.str (Str.ofString "doc") 446, val := Value.str (Str.ofString "Alias for field number 3") 443 }] 3 } : Obj)) ::
  (nat_lit 173, ({ cls := Value.type "frame", data := Data.dict #[{ hash := PyData.keyHash P (Str.ofString "self"), key := Value.str (Str.ofString "self") 454, val := Value.ref 172 }, { hash := PyData.keyHash P (Str.ofString "index"), key := Value.str (Str.ofString "index") 455, val := Value.int 4 452 }, { hash := PyData.keyHash P (Str.ofString "doc"), key := Value.str (Str.ofString "doc") 456, val := Value.str (Str.ofString "Alias for field number 4") 453 }] 3 } : Obj)) ::
  (nat_lit 175, ({ cls := Value.type "list", data := Data.seq #[] } : Obj)) ::
  (nat_lit 179, ({ cls := Value.type "super", data := Data.fields #[Value.ref 177, Value.ref 177, Value.ref 177] } : Obj)) ::
  (nat_lit 180, ({ cls := Value.type "builtin_function_or_method", data := Data.fields #[Value.builtin "object.__init_subclass__", Value.ref 177] } : Obj)) ::
  []
noncomputable def pickF : Frag → Nat → Option Obj
  | [], _ => none
  | (a, o) :: r, i => match Nat.beq a i with
    | true => some o
    | false => pickF r i
noncomputable def objAt (P : Params) (ov : Frag) (i : Nat) : Obj := match pickF ov i with
  | some o => o
  | none => match pickF (D P) i with
    | some o => o
    | none => match pickF (K P) i with
      | some o => o
      | none => default
noncomputable def mkT (f : Nat → Obj) (n : Nat) : Nat → Nat → Nat → BT
  | 0, _, _ => .nil
  | k + 1, a, b => match Nat.blt b n with
    | true => .node (f b) (mkT f n k (2 * a) (a + b)) (mkT f n k (2 * a) (2 * a + b))
    | false => .nil
noncomputable def ov_a (P : Params) : Frag :=
  (nat_lit 3, ({ cls := Value.type "dict", data := Data.dict #[{ hash := PyData.keyHash P (Str.ofString "__name__"), key := Value.str (Str.ofString "__name__") 165, val := Value.str (Str.ofString "__main__") 164 }, { hash := PyData.keyHash P (Str.ofString "__doc__"), key := Value.str (Str.ofString "__doc__") 166, val := Value.none }, { hash := PyData.keyHash P (Str.ofString "__package__"), key := Value.str (Str.ofString "__package__") 167, val := Value.none }, { hash := PyData.keyHash P (Str.ofString "__loader__"), key := Value.str (Str.ofString "__loader__") 168, val := Value.builtin "__main__.__loader__#opaque" }, { hash := PyData.keyHash P (Str.ofString "__spec__"), key := Value.str (Str.ofString "__spec__") 169, val := Value.none }, { hash := PyData.keyHash P (Str.ofString "__annotations__"), key := Value.str (Str.ofString "__annotations__") 170, val := Value.ref 6 }, { hash := PyData.keyHash P (Str.ofString "__builtins__"), key := Value.str (Str.ofString "__builtins__") 171, val := Value.ref 4 }, { hash := PyData.keyHash P (Str.ofString "__file__"), key := Value.str (Str.ofString "__file__") 173, val := Value.str (Str.ofString "/claim/cut.py") 172 }, { hash := PyData.keyHash P (Str.ofString "__cached__"), key := Value.str (Str.ofString "__cached__") 174, val := Value.none }] 9 } : Obj)) ::
  (nat_lit 12, ({ cls := Value.none, data := Data.fields #[] } : Obj)) ::
  []
noncomputable def S_a (w : World) (os : OsState) : SharedT := ⟨mkT (objAt w.params (ov_a w.params)) 15 20 1 0, 15, {}, #[], {}, 187, os⟩
noncomputable def ov_b (P : Params) : Frag :=
  (nat_lit 3, ({ cls := Value.type "dict", data := Data.dict #[{ hash := PyData.keyHash P (Str.ofString "__name__"), key := Value.str (Str.ofString "__name__") 165, val := Value.str (Str.ofString "cpy313.dis") 254 }, { hash := PyData.keyHash P (Str.ofString "__doc__"), key := Value.str (Str.ofString "__doc__") 166, val := Value.none }, { hash := PyData.keyHash P (Str.ofString "__package__"), key := Value.str (Str.ofString "__package__") 167, val := Value.none }, { hash := PyData.keyHash P (Str.ofString "__loader__"), key := Value.str (Str.ofString "__loader__") 168, val := Value.builtin "__main__.__loader__#opaque" }, { hash := PyData.keyHash P (Str.ofString "__spec__"), key := Value.str (Str.ofString "__spec__") 169, val := Value.none }, { hash := PyData.keyHash P (Str.ofString "__annotations__"), key := Value.str (Str.ofString "__annotations__") 170, val := Value.ref 6 }, { hash := PyData.keyHash P (Str.ofString "__builtins__"), key := Value.str (Str.ofString "__builtins__") 171, val := Value.ref 4 }, { hash := PyData.keyHash P (Str.ofString "__file__"), key := Value.str (Str.ofString "__file__") 173, val := Value.str (Str.ofString "/claim/cut.py") 172 }, { hash := PyData.keyHash P (Str.ofString "__cached__"), key := Value.str (Str.ofString "__cached__") 174, val := Value.none }, { hash := PyData.keyHash P (Str.ofString "_wall"), key := Value.str (Str.ofString "_wall") 193, val := Value.ref 21 }, { hash := PyData.keyHash P (Str.ofString "insort_right"), key := Value.str (Str.ofString "insort_right") 209, val := Value.ref 30 }, { hash := PyData.keyHash P (Str.ofString "bisect_right"), key := Value.str (Str.ofString "bisect_right") 224, val := Value.ref 39 }, { hash := PyData.keyHash P (Str.ofString "insort_left"), key := Value.str (Str.ofString "insort_left") 238, val := Value.ref 48 }, { hash := PyData.keyHash P (Str.ofString "bisect_left"), key := Value.str (Str.ofString "bisect_left") 253, val := Value.ref 57 }, { hash := PyData.keyHash P (Str.ofString "_tuplegetter"), key := Value.str (Str.ofString "_tuplegetter") 312, val := Value.ref 96 }] 15 } : Obj)) ::
  (nat_lit 12, ({ cls := Value.none, data := Data.fields #[Value.int 1 0, Value.int 0 0, Value.ref 20, Value.int 5 0, Value.int 0 0, Value.ref 29, Value.int 20 0, Value.int 0 0, Value.ref 38, Value.int 51 0, Value.int 0 0, Value.ref 47, Value.int 66 0, Value.int 0 0, Value.ref 56, Value.int 98 0, Value.int 0 0, Value.ref 63] } : Obj)) ::
  []
noncomputable def S_b (w : World) (os : OsState) : SharedT := ⟨mkT (objAt w.params (ov_b w.params)) 101 20 1 0, 101, {}, #[], {}, 313, os⟩
noncomputable def ov_c (P : Params) : Frag :=
  (nat_lit 3, ({ cls := Value.type "dict", data := Data.dict #[{ hash := PyData.keyHash P (Str.ofString "__name__"), key := Value.str (Str.ofString "__name__") 165, val := Value.str (Str.ofString "cpy313.dis") 254 }, { hash := PyData.keyHash P (Str.ofString "__doc__"), key := Value.str (Str.ofString "__doc__") 166, val := Value.none }, { hash := PyData.keyHash P (Str.ofString "__package__"), key := Value.str (Str.ofString "__package__") 167, val := Value.none }, { hash := PyData.keyHash P (Str.ofString "__loader__"), key := Value.str (Str.ofString "__loader__") 168, val := Value.builtin "__main__.__loader__#opaque" }, { hash := PyData.keyHash P (Str.ofString "__spec__"), key := Value.str (Str.ofString "__spec__") 169, val := Value.none }, { hash := PyData.keyHash P (Str.ofString "__annotations__"), key := Value.str (Str.ofString "__annotations__") 170, val := Value.ref 6 }, { hash := PyData.keyHash P (Str.ofString "__builtins__"), key := Value.str (Str.ofString "__builtins__") 171, val := Value.ref 4 }, { hash := PyData.keyHash P (Str.ofString "__file__"), key := Value.str (Str.ofString "__file__") 173, val := Value.str (Str.ofString "/claim/cut.py") 172 }, { hash := PyData.keyHash P (Str.ofString "__cached__"), key := Value.str (Str.ofString "__cached__") 174, val := Value.none }, { hash := PyData.keyHash P (Str.ofString "_wall"), key := Value.str (Str.ofString "_wall") 193, val := Value.ref 21 }, { hash := PyData.keyHash P (Str.ofString "insort_right"), key := Value.str (Str.ofString "insort_right") 209, val := Value.ref 30 }, { hash := PyData.keyHash P (Str.ofString "bisect_right"), key := Value.str (Str.ofString "bisect_right") 224, val := Value.ref 39 }, { hash := PyData.keyHash P (Str.ofString "insort_left"), key := Value.str (Str.ofString "insort_left") 238, val := Value.ref 48 }, { hash := PyData.keyHash P (Str.ofString "bisect_left"), key := Value.str (Str.ofString "bisect_left") 253, val := Value.ref 57 }, { hash := PyData.keyHash P (Str.ofString "_tuplegetter"), key := Value.str (Str.ofString "_tuplegetter") 312, val := Value.ref 96 }, { hash := PyData.keyHash P (Str.ofString "_ExceptionTableEntryBase"), key := Value.str (Str.ofString "_ExceptionTableEntryBase") 466, val := Value.ref 177 }] 16 } : Obj)) ::
  (nat_lit 12, ({ cls := Value.none, data := Data.fields #[Value.int 1 0, Value.int 0 0, Value.ref 20, Value.int 5 0, Value.int 0 0, Value.ref 29, Value.int 20 0, Value.int 0 0, Value.ref 38, Value.int 51 0, Value.int 0 0, Value.ref 47, Value.int 66 0, Value.int 0 0, Value.ref 56, Value.int 98 0, Value.int 0 0, Value.ref 63, Value.int 116 0, Value.int 0 0, Value.ref 107] } : Obj)) ::
  (nat_lit 177, ({ cls := Value.type "type", data := Data.cls { name := Str.ofString "_ExceptionTableEntryBase", bases := [Value.type "tuple"], mro := [Value.ref 177, Value.type "tuple", Value.type "object"], ns := 176, qualname := Str.ofString "_ExceptionTableEntryBase", hasDict := false }, slots := #[some (Value.ref 101), none, some (Value.str (Str.ofString "_ExceptionTableEntryBase") 313), some (Value.str (Str.ofString "_ExceptionTableEntryBase") 321), some Value.none, some (Value.bool false)] } : Obj)) ::
  []
noncomputable def S_c (w : World) (os : OsState) : SharedT := ⟨mkT (objAt w.params (ov_c w.params)) 181 20 1 0, 181, {}, #[], {}, 467, os⟩
noncomputable abbrev ENV : Env := { scope := PP.main.scope, locals := mainNs, globals := mainNs, cells := [], code := .ref 13, frame := some 14 }
noncomputable abbrev B0 : List Stmt := behindTheImports PP
noncomputable abbrev cE : Code := .body B0 ENV
noncomputable abbrev z0 : Pos := ⟨0, 0, 0, 0⟩
noncomputable abbrev z7 : Pos := ⟨98, 0, 115, 54⟩
noncomputable abbrev z8 : Pos := ⟨116, 0, 160, 55⟩
noncomputable abbrev an6 : Option Value := some (.ref 6)
noncomputable def S_0 (w : World) (os : OsState) : SharedT := ⟨T0 w.params, 11, {}, #[], {}, 181, os⟩
theorem r_pre (w : World) (os : OsState) : topGT treeTable PP w 11 an6 12 (S_0 w os) (topStub PP) = some (S_a w os, ⟨denote treeTable cE, cE, z0, [topFrame z0]⟩) := by kernel_rfl
theorem r_block (w : World) (os : OsState) : segRunT treeTable PP w 11 an6 1 1 (S_a w os) (blockOf B0 ENV cE z0 [topFrame z0]) = some (.next, S_a w os, cE, z0) := by kernel_rfl
theorem r_one (w : World) (os : OsState) : segRunT treeTable PP w 11 an6 1 537 (S_a w os) (piecesOf (B0.take 8) ENV cE z0 [topFrame z0]) = some (.next, S_b w os, cE, z7) := by kernel_rfl
theorem r_two (w : World) (os : OsState) : segRunT treeTable PP w 11 an6 1 1341 (S_b w os) (piecesOf ((B0.drop 8).take 1) ENV cE z7 [topFrame z0]) = some (.next, S_c w os, cE, z8) := by kernel_rfl
theorem r_end (w : World) (os : OsState) : (topT treeTable PP w 11 an6 3885 (S_c w os) (restOf (B0.drop 9) ENV cE z8 [topFrame z0])).map (fun s =>
      (((staticsOk (importedModules PP.main.body) (absHeap (T0 w.params) 11 {}) s.abs.heap && namesBound PP s.abs.heap && gensDone s.abs && laidKept (absHeap (T0 w.params) 11 {}) s.abs.heap),
        openSeen V LO (importedModules PP.main.body) (fun s => xlAt V [] s && recOk (RowW.records PySem.Challenge.rw_kl0301_01.row.toRowW) s) true s.abs, HK.obs s.abs))) = some (true, openGood V LO, HK.val w) := by kernel_rfl
theorem cut_ {α : Type} (l : List α) : l.take 8 ++ ((l.drop 8).take 1 ++ l.drop 9) = l := by
  rw [show l.drop 9 = (l.drop 8).drop 1 from by rw [List.drop_drop], List.take_append_drop, List.take_append_drop]
theorem open_ : ∀ w : World, (fencedOpening treeTable PP w 5776).map (fun s => (s.heap, s.gens, s.drawn, s.toks)) = some (absHeap (T0 w.params) 11 {}, #[], {}, 181) := fun w => by kernel_rfl
theorem size_ : ∀ w : World, ((absHeap (T0 w.params) 11 {}).isNs mainGlobals, (absHeap (T0 w.params) 11 {}).nsMap mainGlobals "__annotations__") = (true, an6) := fun w => by kernel_rfl
theorem run_ (w : World) (os : OsState) : ∃ s : SharedT, topRun treeTable PP w 11 an6 5776 (S_0 w os).abs (topStub PP) = some s.abs ∧
    (((staticsOk (importedModules PP.main.body) (absHeap (T0 w.params) 11 {}) s.abs.heap && namesBound PP s.abs.heap && gensDone s.abs && laidKept (absHeap (T0 w.params) 11 {}) s.abs.heap),
        openSeen V LO (importedModules PP.main.body) (fun s => xlAt V [] s && recOk (RowW.records PySem.Challenge.rw_kl0301_01.row.toRowW) s) true s.abs, HK.obs s.abs)) = (true, openGood V LO, HK.val w) := by
  obtain ⟨s, r, l⟩ := Option.map_eq_some_iff.mp (r_end w os)
  refine ⟨s, ?_, l⟩
  have h4 := piece_app (segRun_of (r_two w os)) (topT_of r)
  have h3 := piece_app (segRun_of (r_one w os)) h4
  rw [cut_] at h3
  exact go_top (topGT_of (r_pre w os)) (piece_block (segRun_of (r_block w os)) h3)
theorem left_of {p q : Program} {loose : List Str} {Xt : Shared → Bool} {α : Type} {Yf : Shared → α} {Ya : World → α} {N : Nat} {T0 : Params → BT} {m₀ : Nat} {life : Life} {d₀ : Drawn} {k₀ : Nat} {ann : Option Value}
    (open_ : ∀ w : World, (fencedOpening treeTable p w N).map (fun s => (s.heap, s.gens, s.drawn, s.toks)) = some (absHeap (T0 w.params) m₀ life, #[], d₀, k₀))
    (size : ∀ w : World, ((absHeap (T0 w.params) m₀ life).isNs mainGlobals, (absHeap (T0 w.params) m₀ life).nsMap mainGlobals "__annotations__") = (true, ann))
    (run : ∀ (w : World) (os : OsState), ∃ s : SharedT, topRun treeTable p w m₀ ann N (SharedT.abs ⟨T0 w.params, m₀, life, #[], d₀, k₀, os⟩) (topStub p) = some s.abs ∧
      ((staticsOk (importedModules p.main.body) (absHeap (T0 w.params) m₀ life) s.abs.heap && namesBound p s.abs.heap && gensDone s.abs && laidKept (absHeap (T0 w.params) m₀ life) s.abs.heap),
        openSeen q loose (importedModules p.main.body) Xt true s.abs, Yf s.abs) = (true, openGood q loose, Ya w)) : LeftO p q loose Xt Yf Ya N := fun w => by
  obtain ⟨⟨h, gs, d, k, os⟩, e, e'⟩ := Option.map_eq_some_iff.mp (open_ w)
  obtain ⟨rfl, rfl, rfl, rfl⟩ : h = absHeap (T0 w.params) m₀ life ∧ gs = #[] ∧ d = d₀ ∧ k = k₀ := by simpa using e'
  obtain ⟨z1, z3⟩ : _ ∧ _ := by simpa only [Prod.mk.injEq] using size w
  obtain ⟨s, r2, r'⟩ := run w os
  obtain ⟨l1, l2, l3⟩ : _ ∧ _ ∧ _ := by simpa only [Prod.mk.injEq] using r'
  have t : topFrom treeTable p w N ⟨absHeap (T0 w.params) m₀ life, #[], d, k, os⟩ = some s.abs := by
    change topRun treeTable p w m₀ ann N ⟨absHeap (T0 w.params) m₀ life, #[], d, k, os⟩ (topStub p) = some s.abs at r2
    unfold topFrom
    dsimp only
    rw [show ((absHeap (T0 w.params) m₀ life).isNs mainGlobals && (#[] : Array GenState).size == 0) = true from by rw [z1]; rfl]
    dsimp only
    rw [z3, absHeap_size, r2]
    dsimp only [Option.bind_some]
    rw [l1]
  unfold openEnds
  rw [e]
  show (topFrom treeTable p w N _).map _ = _
  rw [t]
  exact congrArg some (Prod.ext l2 l3)
theorem left : LeftO PP V LO (fun s => xlAt V [] s && recOk (RowW.records PySem.Challenge.rw_kl0301_01.row.toRowW) s) HK.obs HK.val 5776 := left_of open_ size_ run_
theorem said : PySem.Challenge.rw_kl0301_01.wellSaid = true := by kernel_rfl
theorem fill (w : World) (h' : Heap) (h : (K w.params).In h') (e : PySem.Challenge.rw_kl0301_01 = PySem.Challenge.rw_kl0301_01) : True ∧ (PySem.Challenge.rw_kl0301_01 = PySem.Challenge.rw_kl0301_01 → (K w.params).In h' → True) := by
  k_fill
  exact ⟨trivial, fun _ _ => trivial⟩
theorem G0.on_0 : True := trivial
theorem G1.on_1 : True := trivial
theorem G2.on_2 : True := trivial
theorem G3.on_3 : True := trivial
theorem G4.on_4 : True := trivial
theorem G5.on_5 : True := trivial
theorem G6.on_6 : True := trivial
theorem G7.on_7 : True := trivial
theorem G8.on_8 : True := trivial
theorem G9.on_9 : True := trivial
theorem G10.on_10 : True := trivial
theorem G11.on_11 : True := trivial
theorem G12.on_12 : True := trivial
theorem G13.on_13 : True := trivial
theorem G14.on_14 : True := trivial
theorem G15.on_15 : True := trivial
theorem G16.on_16 : True := trivial
theorem G17.on_17 : True := trivial
theorem G18.on_18 : True := trivial
theorem G19.on_19 : True := trivial
theorem G20.on_20 : True := trivial
theorem G21.on_21 : True := trivial
theorem G22.on_22 : True := trivial
theorem G23.on_23 : True := trivial
theorem G24.on_24 : True := trivial
theorem G25.on_25 : True := trivial
theorem G26.on_26 : True := trivial
theorem G27.on_27 : True := trivial
theorem G28.on_28 : True := trivial
theorem G29.on_29 : True := trivial
theorem G30.on_30 : True := trivial
theorem G31.on_31 : True := trivial
theorem G32.on_32 : True := trivial
theorem G33.on_33 : True := trivial
theorem G34.on_34 : True := trivial
theorem G35.on_35 : True := trivial
theorem G36.on_36 : True := trivial
theorem G37.on_37 : True := trivial
theorem G38.on_38 : True := trivial
theorem G39.on_39 : True := trivial
theorem G40.on_40 : True := trivial
theorem G41.on_41 : True := trivial
theorem G42.on_42 : True := trivial
theorem G43.on_43 : True := trivial
theorem G44.on_44 : True := trivial
theorem G45.on_45 : True := trivial
theorem G46.on_46 : True := trivial
theorem G47.on_47 : True := trivial
theorem G48.on_48 : True := trivial
theorem G49.on_49 : True := trivial
theorem G50.on_50 : True := trivial
theorem G51.on_51 : True := trivial
theorem G52.on_52 : True := trivial
theorem G53.on_53 : True := trivial
theorem G54.on_54 : True := trivial
theorem Gaug.on_aug : True := trivial
theorem lay_all : True := by
  k_with_none
  k_with "om" => first | (with_reducible assumption) | (with_reducible exact Nat.zero_le _) | (with_reducible exact Int.natCast_nonneg _) | exact room_of (by assumption) (by first | assumption | exact rfl) rfl | ((repeat (rename And _ _ => h7; clear h7)); (try clear hdp); (try clear hu); (try clear dA1); (try clear uA1); (try clear hln); (try clear hlu); omega) | omega
  k_with "t k_room" => (fail_if_success (fail_if_success have := on_0)); ((try simp only [depth_under_make, depth_under_kw, depth_in1, depth_deeper, depth_caller, Nat.add_assoc, Nat.reduceAdd]); (try dsimp only [ktrTop]); first | exact room_of (by assumption) (by first | assumption | exact rfl) rfl | exact room_of0 (by assumption) (by first | assumption | exact rfl) | k_extra "om")
  k_with "t k_units" => (fail_if_success (fail_if_success have := on_0)); ((try simp only [units_in1, units_deeper, Around.mark_units, units_caller, Nat.add_assoc, Nat.reduceAdd]); (try dsimp only [ktrTop]); first | exact room_of (by assumption) (by first | assumption | exact rfl) rfl | exact room_of0 (by assumption) (by first | assumption | exact rfl) | (have hcL9 := cLine_is; k_extra "om"))
  k_with "t ktr_room" => (fail_if_success (fail_if_success have := on_0)); k_room
  k_with "t ktr_units" => (fail_if_success (fail_if_success have := on_0)); k_units
  k_with "t is_list" => (fail_if_success (fail_if_success have := on_0)); exact News.isList (by assumption) (by k_mem)
  k_with "m call builtin:len" => (fail_if_success (fail_if_success have := on_0)); (k_here; (with_reducible show wpAny _ _ (call (Value.builtin "len") [Value.ref _]) _ _ _); k_dflt (refine len_strsA (by is_list) (by with_reducible assumption) (by k_extra "om") ?_))
  k_with "m call builtin:len" => (fail_if_success (fail_if_success have := on_1)); (k_here; (with_reducible show wpAny _ _ (call (Value.builtin "len") [Value.ref _]) _ _ _); k_dflt (refine len_mem (by is_list) (by k_extra "om") ?_))
  k_with "m call builtin:len" => (fail_if_success (fail_if_success have := on_2)); (k_here; (with_reducible show wpAny _ _ (call (Value.builtin "len") [Value.ref _]) _ _ _); k_dflt (refine len_ints_fit (by is_list) (by with_reducible assumption) (by first | k_extra "om" | (simp only [insI_length, List.length_nil] <;> k_extra "om")) ?_))
  k_with "mine off" => (fail_if_success (fail_if_success have := on_0)); repeat (first | exact Off.refl | exact Off.kst rfl | (refine Off.set rfl ?_))
  k_with "mine has" => (fail_if_success (fail_if_success have := on_0)); first | exact Has.nil | (refine Has.cons ?_ ?_; rfl; k_extra "mine has")
  k_with "mine im" => (fail_if_success (fail_if_success have := on_3)); with_reducible first | exact And.left | exact id | (refine im_next ?_; k_extra "mine im")
  k_with "t k_ne" => (fail_if_success (fail_if_success have := on_3)); (refine neN ?_; (try dsimp only); first | with_reducible assumption | exact Nat.ne_of_gt (by with_reducible assumption) | exact Nat.ne_of_lt (by with_reducible assumption) | exact Ne.symm (by with_reducible assumption) | ( refine pick_gt (by with_reducible assumption) (by k_extra "mine im")) | ( refine pick_lt (by with_reducible assumption) (by k_extra "mine im")) | ( refine tr_gt (by with_reducible assumption) (by with_reducible assumption) (by k_extra "mine im")) | ( refine tr_lt (by with_reducible assumption) (by with_reducible assumption) (by k_extra "mine im")) | fail "pick: none")
  k_with "t k_ne" => (fail_if_success (fail_if_success have := on_4)); (refine neN ?_; (try dsimp only); first | exact Apart.ne (by with_reducible assumption) | exact Apart.en (by with_reducible assumption) | fail "apart: none")
  k_with "mine lt0" => (fail_if_success (fail_if_success have := on_3)); assumption
  k_with "mine lt1" => (fail_if_success (fail_if_success have := on_3)); first | assumption | (apply And.right; k_extra "mine lt0")
  k_with "mine lt2" => (fail_if_success (fail_if_success have := on_3)); first | assumption | (apply And.right; k_extra "mine lt1")
  k_with "mine lt3" => (fail_if_success (fail_if_success have := on_3)); first | assumption | (apply And.right; k_extra "mine lt2")
  k_with "mine lt4" => (fail_if_success (fail_if_success have := on_3)); first | assumption | (apply And.right; k_extra "mine lt3")
  k_with "mine lt5" => (fail_if_success (fail_if_success have := on_3)); first | assumption | (apply And.right; k_extra "mine lt4")
  k_with "mine lt6" => (fail_if_success (fail_if_success have := on_3)); first | assumption | (apply And.right; k_extra "mine lt5")
  k_with "mine lt7" => (fail_if_success (fail_if_success have := on_3)); first | assumption | (apply And.right; k_extra "mine lt6")
  k_with "mine lt8" => (fail_if_success (fail_if_success have := on_3)); first | assumption | (apply And.right; k_extra "mine lt7")
  k_with "mine lt9" => (fail_if_success (fail_if_success have := on_3)); first | assumption | (apply And.right; k_extra "mine lt8")
  k_with "mine lt10" => (fail_if_success (fail_if_success have := on_3)); first | assumption | (apply And.right; k_extra "mine lt9")
  k_with "mine lt11" => (fail_if_success (fail_if_success have := on_3)); first | assumption | (apply And.right; k_extra "mine lt10")
  k_with "mine lt12" => (fail_if_success (fail_if_success have := on_3)); first | assumption | (apply And.right; k_extra "mine lt11")
  k_with "mine lt13" => (fail_if_success (fail_if_success have := on_3)); first | assumption | (apply And.right; k_extra "mine lt12")
  k_with "mine lt14" => (fail_if_success (fail_if_success have := on_3)); first | assumption | (apply And.right; k_extra "mine lt13")
  k_with "mine lt15" => (fail_if_success (fail_if_success have := on_3)); first | assumption | (apply And.right; k_extra "mine lt14")
  k_with "mine lt16" => (fail_if_success (fail_if_success have := on_3)); first | assumption | (apply And.right; k_extra "mine lt15")
  k_with "mine lt17" => (fail_if_success (fail_if_success have := on_3)); first | assumption | (apply And.right; k_extra "mine lt16")
  k_with "mine lt18" => (fail_if_success (fail_if_success have := on_3)); first | assumption | (apply And.right; k_extra "mine lt17")
  k_with "mine lt19" => (fail_if_success (fail_if_success have := on_3)); first | assumption | (apply And.right; k_extra "mine lt18")
  k_with "mine lt20" => (fail_if_success (fail_if_success have := on_3)); first | assumption | (apply And.right; k_extra "mine lt19")
  k_with "mine lt21" => (fail_if_success (fail_if_success have := on_3)); first | assumption | (apply And.right; k_extra "mine lt20")
  k_with "mine lt22" => (fail_if_success (fail_if_success have := on_3)); first | assumption | (apply And.right; k_extra "mine lt21")
  k_with "mine lt23" => (fail_if_success (fail_if_success have := on_3)); first | assumption | (apply And.right; k_extra "mine lt22")
  k_with "mine lt24" => (fail_if_success (fail_if_success have := on_3)); first | assumption | (apply And.right; k_extra "mine lt23")
  k_with "m exec For Name Name cons nil" => (fail_if_success (fail_if_success have := on_3)); (refine Hold.mk ?_)
  k_with "m exec For Tuple Name cons nil" => (fail_if_success (fail_if_success have := on_3)); (refine Hold.mk ?_)
  k_with "m exec For Name Call cons nil" => (fail_if_success (fail_if_success have := on_3)); (refine Hold.mk ?_)
  k_with "m pyIter ref" => (fail_if_success (fail_if_success have := on_3)); (refine Hold.mk ?_)
  k_with "t k_all" => (fail_if_success (fail_if_success have := on_3)); (refine lt_all ?ka ?kb; (case ka => assumption); (case kb => k_extra "om"))
  k_with "t k_all" => (fail_if_success (fail_if_success have := on_3)); assumption
  k_with "t k_all" => (fail_if_success (fail_if_success have := on_3)); (refine allLt_ne (allLt_s ?_); k_extra "mine lt24")
  k_with "t k_all" => (fail_if_success (fail_if_success have := on_3)); (refine allLt_ne ?_; k_extra "mine lt24")
  k_with "t k_all" => (fail_if_success (fail_if_success have := on_3)); first | (with_reducible assumption) | exact List.forall_mem_nil _ | (refine allC ?_ ?_; k_ne; k_all)
  k_with "mine sub" => (fail_if_success (fail_if_success have := on_3)); first | exact List.forall_mem_nil _ | (refine allC ?_ ?_; k_mem; k_extra "mine sub") | (intro p hp; repeat (first | exact hp | apply List.mem_cons_of_mem))
  k_with "mine mem" => (fail_if_success (fail_if_success have := on_3)); first | k_mem | exact sub_mem (by assumption) (by k_extra "mine sub")
  k_with "m assign Tuple" => (fail_if_success (fail_if_success have := on_3)); (k_here; k_dflt ( refine unpackN_ (by k_asm) (by k_asm) (by exact News.isTup (by k_asm) (by k_extra "mine mem")) (by rfl) (by rfl) (by rfl) ?_; intro h9 F9 N9); (try dsimp only))
  k_with "m assign Tuple" => (fail_if_success (fail_if_success have := on_5)); (k_here; k_dflt ( refine unpackN_ (by k_asm) (by k_asm) (by with_reducible assumption) (by rfl) (by rfl) (by rfl) ?_; intro h9 F9 N9); (try dsimp only))
  k_with "m assign Tuple" => (fail_if_success (fail_if_success have := on_6)); (k_here; k_dflt ( refine ent_unpack (by rfl) (by k_asm) (by k_asm) (by k_asm) (by k_mem) (by rfl) (by rfl) ?_; intro h9 F9 N9); (try dsimp only))
  k_with "mine news" => (fail_if_success (fail_if_success have := on_3)); first | k_asm | ( refine cb_drop (by k_asm) (by k_extra "mine sub"))
  k_with "mine below" => (fail_if_success (fail_if_success have := on_3)); first | assumption | (refine allLt_lt ?_; k_extra "mine lt24")
  k_with "mine rem" => (fail_if_success (fail_if_success have := on_3)); first | (refine RemF.head ?_; k_all) | (apply RemF.tail; k_ne; k_extra "mine rem")
  k_with "mine iter" => (fail_if_success (fail_if_success have := on_3)); (refine li_iter (by k_asm) (by k_asm) (by k_mem) ?_; intro I9 h9 io9 hi9 F9 N9 l9; (try k_lt l9); (try dsimp only))
  k_with "mine turn" => (fail_if_success (fail_if_success have := on_3)); (refine for_turn ?_; k_dflt (refine li_next (by k_asm) (by k_asm) (by k_updF) (by assumption) (by k_mem) rfl ?_); intro io9 h9 hi9 F9 N9; (try dsimp only); refine li_own (by k_asm) (by k_mem) hi9 ?_)
  k_with "mine end" => (fail_if_success (fail_if_success have := on_3)); (refine for_turn ?_; k_dflt (refine li_end rfl (by k_asm) (by k_asm) (by k_extra "mine rem") (by assumption) (by k_mem) (by exact Nat.le_refl _) ?_); intro h9 F9 N9; (try dsimp only))
  k_with "m execs cons" => (fail_if_success (fail_if_success have := on_3)); (first | (k_here; k_gentoks) | ((with_reducible refine wpAny_execs_cons ?_); (try dsimp only); (try k_fold); (try (refine reF (by k_asm) ?_; intro m9 F9))))
  k_with "m exec While Compare cons nil" => (fail_if_success (fail_if_success have := on_7)); (refine Hold.mk ?_)
  k_with "m call builtin:list.append" => (fail_if_success (fail_if_success have := on_8)); (k_here; (with_reducible show wpAny _ _ (call (Value.builtin _) [Value.ref _, _]) _ _ _); k_dflt ( refine append_r (by k_asm) (by k_asm) (by k_updF) (by first | k_extra "om" | (simp only [List.length_append, List.length_cons, List.length_nil] <;> k_extra "om")) ?_; intro h9 F9 N9); (try dsimp only))
  k_with "m call builtin:list.append" => (fail_if_success (fail_if_success have := on_9)); (k_here; (with_reducible show wpAny _ _ (call (Value.builtin _) [Value.ref _, _]) _ _ _); k_dflt ( refine append_r (by k_asm) (by k_asm) (by k_updF) (by k_extra "om") ?_; intro h9 F9 N9); (try dsimp only))
  k_with "mine ylist" => (fail_if_success (fail_if_success have := on_10)); (k_dflt (refine mk_iter_list (by k_asm) (by k_asm) (by k_extra "mine mem") ?_; intro I9 h9 io9 Y9 F9 N9 l9; (try k_lt l9)); (try dsimp only))
  k_with "mine ytup" => (fail_if_success (fail_if_success have := on_8)); (k_dflt (refine mk_iter_tup (by k_asm) (by k_asm) (by k_extra "mine mem") ?_; intro I9 h9 io9 Y9 F9 N9 l9; (try k_lt l9)); (try dsimp only))
  k_with "mine ystr" => (fail_if_success (fail_if_success have := on_8)); (k_dflt (refine mk_iter_str (by k_asm) (by k_asm) ?_; intro I9 h9 io9 Y9 F9 N9 l9; (try k_lt l9)); (try dsimp only))
  k_with "mine ynext" => (fail_if_success (fail_if_success have := on_10)); (k_dflt ( refine yi_next (by k_asm) (by rfl) (by k_asm) (by k_asm) (by k_updF) (by k_extra "mine sub") ?_; intro io9 h9 tk9 t9 Y9 F9 N9; (try dsimp only); refine yi_own (by k_asm) (by k_asm) (by k_mem) ?_); (try dsimp only))
  k_with "mine yend" => (fail_if_success (fail_if_success have := on_10)); (k_dflt ( refine yi_end (by k_asm) (by rfl) (by k_asm) (by k_asm) (by k_extra "mine rem") (by k_extra "mine sub") ?_; intro h9 F9 N9); (try dsimp only))
  k_with "mine cstore" => (fail_if_success (fail_if_success have := on_8)); (k_dflt ( refine comp_store (by k_asm) (by k_asm) (by k_updF) (by k_asm) (by exact rfl) (by exact rfl) ?_; intro oC9 h9 C9 F9 N9); (try dsimp only))
  k_with "mine ne1" => (fail_if_success (fail_if_success have := on_8)); first | exact List.forall_mem_nil _ | (refine allLt_ne ?_; k_extra "mine lt24") | (refine allC ?_ ?_; k_ne; k_extra "mine ne1")
  k_with "mine held" => (fail_if_success (fail_if_success have := on_8)); (refine Hold.out ?_; (try k_unmd); (try k_unfold); (try dsimp only))
  k_with "mine cassign" => (fail_if_success (fail_if_success have := on_8)); (k_dflt ( refine comp_assign (by exact rfl) (by exact rfl) (by exact rfl) (by decide +kernel) ?_); (try dsimp only))
  k_with "mine cexpr" => (fail_if_success (fail_if_success have := on_8)); (k_dflt ( refine comp_expr (by exact rfl) (by exact rfl) (by decide +kernel) ?_); (try dsimp only))
  k_with "mine cbegin" => (fail_if_success (fail_if_success have := on_8)); (k_dflt ( refine comp_begin (by k_asm) (by k_asm) (by decide +kernel) (by exact rfl) (by exact yi_self (by k_asm) (by k_mem)) ?_; intro D9 C9 oC9 h9 tk9 hC9 F9 N9 l9 l8; (try k_lt l9); (try k_lt l8)); (try dsimp only))
  k_with "mine cturn" => (fail_if_success (fail_if_success have := on_10)); (refine comp_turn ?_; k_extra "mine ynext"; k_extra "mine cstore")
  k_with "mine couter" => (fail_if_success (fail_if_success have := on_10)); (refine comp_outer ?_; k_extra "mine ynext"; k_extra "mine cstore")
  k_with "mine cinner" => (fail_if_success (fail_if_success have := on_10)); (refine comp_inner ?_; k_extra "mine ynext"; k_extra "mine cstore")
  k_with "mine cstart" => (fail_if_success (fail_if_success have := on_8)); (k_dflt ( refine comp_start_y (by k_asm) (by k_asm) (by k_mem) ?_))
  k_with "mine cmap" => (fail_if_success (fail_if_success have := on_8)); (k_dflt ( refine comp_map_r ?_ ?_ (by exact rfl) (by exact rfl) (by exact rfl) (by k_asm) (by k_asm) (by k_extra "mine rem") (by k_extra "mine rem") (by k_extra "mine rem") (by k_asm) (by k_asm) (by k_extra "mine sub") ?_ ?_ ?_))
  k_with "mine cfin" => (fail_if_success (fail_if_success have := on_8)); (k_dflt ( refine comp_fin (by k_asm) (by k_asm) (by k_extra "mine rem") (by k_asm) ?_; intro h9 F9 N9); (try dsimp only))
  k_with "mine cend" => (fail_if_success (fail_if_success have := on_8)); (k_dflt ( refine comp_end0 (use := ()) (by k_asm) (by k_asm) (by k_extra "mine rem") (by k_asm) ?_; intro h9 F9 N9); (try dsimp only))
  k_with "mine cname" => (fail_if_success (fail_if_success have := on_8)); (k_here; (with_reducible show wpAny _ _ (eval (Expr.Name _ _) (compEnvC _ _ _ _)) _ _ _); k_dflt (first | ( refine LCgL.ld_own (by k_asm) (by k_mem) (by k_asm) (by first | exact rfl | assumption | exact (off_of (by assumption) (by decide)).trans rfl) ?_) | ( refine LCgL.ld_global (by k_asm) (by k_asm) (by k_asm) (by k_is) ?_) | ( refine LCgL.ld_built (by k_asm) (by k_asm) (by k_asm) (by k_is) (by boot_by_name) (by decide) ?_)); (try dsimp only))
  k_with "m eval Name" => (fail_if_success (fail_if_success have := on_8)); k_extra "mine cname"
  k_with "m storeName" => (fail_if_success (fail_if_success have := on_11)); (k_here; (with_reducible show wpAny _ _ (storeName (compEnvC _ _ _ _) _ _) _ _ _); k_dflt ( refine comp_storeN (by k_asm) (by k_asm) (by k_updF) (by k_asm) (by exact rfl) (by exact rfl) ?_; intro oC9 h9 C9 F9 N9); (try dsimp only))
  k_with "m call ref" => (fail_if_success (fail_if_success have := on_12)); (k_here; (with_reducible show wpAny _ _ (call (Value.ref 263) [Value.int _ _]) _ _ _); k_dflt ( refine octets_c (by k_asm) (by k_asm) (by k_asm) (by k_asm) (by k_asm) (by first | exact rfl | assumption) (by k_room) (by k_units) (by assumption) (by assumption) ?_; intro D9 vs9 k9 h9 tk9 hi9 hl9 F9 N9); (try dsimp only); (try k_lt hl9))
  k_with "m call ref" => (fail_if_success (fail_if_success have := on_13)); (k_here; (with_reducible show wpAny _ _ (call (Value.ref 39) [Value.ref _, Value.int _ _, Value.int _ _, Value.none] []) _ _ _); k_dflt ( refine bisr4 (by k_asm) (by k_asm) (by k_asm) (by k_asm) (by k_asm) (by first | exact rfl | assumption) (by k_room) (by k_units) (by k_mem) (by assumption) (by assumption) (by assumption) ?_; intro r9 t9 h9 tk9 hc9 F9 N9); (try dsimp only))
  k_with "m call ref" => (fail_if_success (fail_if_success have := on_13)); (k_here; (with_reducible show wpAny _ _ (call (Value.ref 57) [Value.ref _, Value.str _ _, Value.int _ _, Value.none] []) _ _ _); k_dflt ( refine bisl4 (by k_asm) (by k_asm) (by k_asm) (by k_asm) (by k_asm) (by first | exact rfl | assumption) (by k_room) (by k_units) (by k_mem) (by assumption) (by assumption) (by assumption) ?_; intro r9 t9 h9 tk9 hc9 F9 N9); (try dsimp only))
  k_with "m call ref" => (fail_if_success (fail_if_success have := on_13)); (k_here; (with_reducible show wpAny _ _ (call (Value.ref 39) [Value.ref _, Value.int _ _, Value.int _ _, Value.none] _) _ _ _); k_dflt ( refine bisrk (by k_asm) (by k_asm) (by k_asm) (by k_asm) (by k_asm) (by first | exact rfl | assumption) (by k_room) (by k_units) (by k_mem) (by assumption) (by assumption) (by assumption) ?_; intro r9 t9 h9 tk9 hc9 F9 N9); (try dsimp only))
  k_with "m call ref" => (fail_if_success (fail_if_success have := on_14)); (k_here; (with_reducible show wpAny _ _ (call (Value.ref 287) [Value.ref _]) _ _ _); k_dflt ( refine begin_c (by k_asm) (by k_asm) (by k_asm) (by k_asm) (by k_asm) (by first | exact rfl | assumption) (by k_room) (by k_units) (by first | assumption | k_mem) ?_; intro h9 tk9 F9 N9); (try dsimp only))
  k_with "m call ref" => (fail_if_success (fail_if_success have := on_15)); (k_here; (with_reducible show wpAny _ _ (call (Value.ref 30) [Value.ref _, Value.ref _] _) _ _ _); k_dflt ( refine insK_c (by k_asm) (by k_asm) (by k_asm) (by k_asm) (by k_asm) (by first | exact rfl | assumption) (by k_room) (by k_units) (by k_updF) (by assumption) (by k_extra "mine sub") (by k_mem) (by first | assumption | (simp only [insK_length, List.length_nil] <;> k_extra "om")) (by assumption) ?_; intro vs9 h9 tk9 hp9 hs9 F9 N9); (try dsimp only))
  k_with "m call ref" => (fail_if_success (fail_if_success have := on_15)); (k_here; (with_reducible show wpAny _ _ (call (Value.ref 30) [Value.ref _, Value.int _ _] _) _ _ _); k_dflt ( refine insI_c (by k_asm) (by k_asm) (by k_asm) (by k_asm) (by k_asm) (by first | exact rfl | assumption) (by k_room) (by k_units) (by k_updF) (by first | assumption | exact IntsAre.nil) (by first | assumption | (simp only [insI_length, List.length_nil] <;> k_extra "om")) (by assumption) ?_; intro vs9 h9 tk9 hp9 hs9 F9 N9); (try dsimp only))
  k_with "m call ref" => (fail_if_success (fail_if_success have := on_15)); (k_here; (with_reducible show wpAny _ _ (call (Value.ref 39) [Value.ref _, Value.int _ _] _) _ _ _); k_dflt ( refine bisI_c (by k_asm) (by k_asm) (by k_asm) (by k_asm) (by k_asm) (by first | exact rfl | assumption) (by k_room) (by k_units) (by k_mem) (by first | assumption | exact IntsAre.nil) (by first | assumption | (simp only [insI_length, List.length_nil] <;> k_extra "om")) (by assumption) ?_; intro t9 h9 tk9 F9 N9); (try dsimp only))
  k_with "m call ref" => (fail_if_success (fail_if_success have := on_16)); (k_here; (with_reducible show wpAny _ _ (call (Value.ref 228) _) _ _ _); k_dflt (refine any_call ?_; refine rc_consC (by k_asm) (by k_asm) (by k_asm) (by k_asm) (by k_asm) (by first | exact rfl | assumption) (by k_room) (by k_units) (by assumption) (by k_extra "mine rem") (by k_extra "mine rem") (by k_extra "mine sub") (by k_extra "om") (by k_extra "om") (by k_asm) (by assumption) (by (simp only [List.length_append, List.length_cons]; k_extra "om")) ?_; intro t9 tl9 us9 n9 h9 tk9 hu9 F9 N9); (try dsimp only))
  k_with "m call ref" => (fail_if_success (fail_if_success have := on_17)); (k_here; (with_reducible show wpAny _ _ (call (Value.ref 200) [Value.ref _]) _ _ _); k_dflt ( refine varint_c (by k_asm) (by k_asm) (by k_asm) (by k_asm) (by k_asm) (by first | exact rfl | assumption) (by k_room) (by k_units) (by k_extra "mine rem") (by assumption) (by assumption) (by assumption) ?_; intro io9 t9 h9 tk9 hi9 F9 N9); (try dsimp only))
  k_with "m call ref" => (fail_if_success (fail_if_success have := on_18)); (k_here; (with_reducible show wpAny _ _ (call (Value.ref 190) _) _ _ _); k_dflt ( refine ent_c (by k_asm) (by k_asm) (by k_asm) (by k_asm) (by k_asm) (by first | exact rfl | assumption) (by k_room) (by k_units)  ?_; intro x9 d9 h9 tk9 F9 N9 l9); (try dsimp only); (try k_lt l9))
  k_with "m call ref" => (fail_if_success (fail_if_success have := on_19)); (k_here; (with_reducible show wpAny _ _ (call (Value.ref 207) [Value.ref _]) _ _ _); k_dflt ( refine ptab_c (by k_asm) (by k_asm) (by k_asm) (by k_asm) (by k_asm) (by first | exact rfl | assumption) (by k_room) (by k_units) (by k_mem) (by k_mem) (by first | assumption | (rename (∀ b : Array UInt8, _ → _) => eB9; exact eB9 _ (by assumption))) (by assumption) (by assumption) (by assumption) (by assumption) (by assumption) ?_; intro D9 vs9 n9 es9 g9 h9 tk9 hE9 hS9 hlt9 T9 F9 N9 K9 X9 P9 DD9); (try dsimp only))
  k_with "m call ref" => (fail_if_success (fail_if_success have := on_20)); (k_here; (with_reducible show wpAny _ _ (call (Value.ref 57) [Value.ref _, Value.str _ _]) _ _ _); k_dflt ( refine bisW_c (by k_asm) (by k_asm) (by k_asm) (by k_asm) (by k_asm) (by first | exact rfl | assumption) (by k_room) (by k_units) (by k_mem) (by assumption) (by assumption) (by assumption) ?_; intro r9 t9 h9 tk9 hr9 ht9 hd9 F9 N9); (try dsimp only))
  k_with "m call ref" => (fail_if_success (fail_if_success have := on_20)); (k_here; (with_reducible show wpAny _ _ (call (Value.ref 48) [Value.ref _, Value.str _ _]) _ _ _); k_dflt ( refine insW_c (by k_asm) (by k_asm) (by k_asm) (by k_asm) (by k_asm) (by first | exact rfl | assumption) (by k_room) (by k_units) (by k_updF) (by assumption) (by assumption) (by assumption) ?_; intro vs9 n9 h9 tk9 hv9 F9 N9); (try dsimp only))
  k_with "m call ref" => (fail_if_success (fail_if_success have := on_21)); (k_here; (with_reducible show wpAny _ _ (call (Value.ref 280) [Value.ref _, Value.ref _]) _ _ _); k_dflt ( refine apart_c (by k_asm) (by k_asm) (by k_asm) (by k_asm) (by k_asm) (by first | exact rfl | assumption) (by k_room) (by k_units) (by repeat (first | with_reducible assumption | apply List.mem_cons_of_mem)) (by repeat (first | with_reducible assumption | apply List.mem_cons_of_mem)) ?_; intro h9 tk9 F9 N9); (try dsimp only))
  k_with "m call ref" => (fail_if_success (fail_if_success have := on_22)); (k_here; (with_reducible show wpAny _ _ (call (Value.ref 306) [Value.str _ _, Value.ref _]) _ _ _); k_dflt ( refine shape_c (by k_asm) (by k_asm) (by k_asm) (by k_asm) (by k_asm) (by first | exact rfl | assumption) (by k_room) (by k_units) (by k_extra "mine mem") (by exact TiesAt.mono (by with_reducible assumption) (by k_extra "mine sub")) (by with_reducible assumption) ?_; intro t9 h9 tk9 F9 N9); (try dsimp only))
  k_with "m call ref" => (fail_if_success (fail_if_success have := on_23)); (k_here; (with_reducible show wpAny _ _ (call (Value.ref 301) [Value.ref _, Value.str _ _]) _ _ _); k_dflt ( refine new_c (by k_asm) (by k_asm) (by k_asm) (by k_asm) (by k_asm) (by first | exact rfl | assumption) (by k_room) (by k_units) (by k_extra "mine rem") (by with_reducible assumption) (by with_reducible assumption) ?_; intro vs9 n9 h9 tk9 hX9 F9 N9); (try dsimp only))
  k_with "m call ref" => (fail_if_success (fail_if_success have := on_21)); (k_here; (with_reducible show wpAny _ _ (call (Value.ref 242) [Value.ref _, Value.str _ _]) _ _ _); k_dflt ( refine pt_c (by k_asm) (by k_asm) (by k_asm) (by k_asm) (by k_asm) (by first | exact rfl | assumption) (by k_room) (by k_units) (by with_reducible assumption) (by k_extra "mine rem") (by k_extra "mine rem") (by k_extra "mine rem") (by k_extra "mine sub") (by with_reducible assumption) (by with_reducible assumption) (by k_extra "om") ?_; intro n9 k9 h9 tk9 F9 N9); (try dsimp only))
  k_with "m call ref" => (fail_if_success (fail_if_success have := on_24)); (k_here; (with_reducible show wpAny _ _ (call (Value.ref 235) _) _ _ _); refine Hold.mk ?_)
  k_with "m call ref" => (fail_if_success (fail_if_success have := on_25)); (k_here; (with_reducible show wpAny _ _ (call (Value.ref 242) [Value.ref _, Value.str _ _]) _ _ _); k_dflt ( refine pt_c (by k_asm) (by k_asm) (by k_asm) (by k_asm) (by k_asm) (by first | exact rfl | assumption) (by k_room) (by k_units) (by with_reducible assumption) (by k_extra "mine rem") (by k_extra "mine rem") (by k_extra "mine rem") (by k_extra "mine sub") (by with_reducible assumption) (by with_reducible assumption) (by first | k_extra "om" | decide) ?_; intro n9 k9 h9 tk9 F9 N9); (try dsimp only))
  k_with "m call ref" => (fail_if_success (fail_if_success have := on_25)); (k_here; (with_reducible show wpAny _ _ (call (Value.ref 235) _) _ _ _); k_dflt ( refine gt_push (by k_asm) (by k_asm) (by k_asm) (by k_asm) (by k_asm) (by first | exact rfl | assumption) (by k_room) (by k_units) (by with_reducible assumption) (by k_extra "mine rem") (by k_extra "mine rem") (by k_extra "mine rem") (by k_extra "mine sub") (by with_reducible assumption) (by with_reducible assumption) (by exact rfl) (by first | k_extra "om" | decide) ?_; intro n9 k9 h9 tk9 F9 N9); (try dsimp only))
  k_with "m call ref" => (fail_if_success (fail_if_success have := on_26)); ((with_reducible show wpAny _ _ (call (Value.ref 280) [Value.ref _, Value.ref _]) _ _ _); refine Hold.mk ?_)
  k_with "m call ref" => (fail_if_success (fail_if_success have := on_27)); (k_here; (with_reducible show wpAny _ _ (call (Value.ref 268) _) _ _ _); k_dflt ( refine word_m (by k_asm) (by k_asm) (by k_asm) (by k_asm) (by k_asm) (by first | exact rfl | assumption) (by k_room) (by k_units) (by k_extra "mine mem") (by with_reducible assumption) (by with_reducible assumption) (by with_reducible assumption) (by with_reducible assumption) (by with_reducible assumption) (by with_reducible assumption) (by with_reducible assumption) (by with_reducible assumption) ?_; intro t9 h9 tk9 F9 N9); (try dsimp only))
  k_with "m call ref" => (fail_if_success (fail_if_success have := on_28)); (k_here; (with_reducible show wpAny _ _ (call (Value.ref 256) _) _ _ _); k_dflt ( refine lexer_c (by k_asm) (by k_asm) (by k_asm) (by k_asm) (by k_asm) (by first | exact rfl | assumption) (by k_room) (by k_units) (by with_reducible assumption) (by k_all) (by assumption) ?_; intro x d S LT vs tl n n2 r h7 tk7 hF hL hg hs g1 g2 g3 o1 o2 F7 N7); (try dsimp only))
  k_with "m call ref" => (fail_if_success (fail_if_success have := on_29)); (k_here; (with_reducible show wpAny _ _ (call (Value.ref 235) _) _ _ _); k_dflt ( refine gt_w (by k_asm) (by k_asm) (by k_asm) (by k_asm) (by k_asm) (by first | exact rfl | assumption) (by k_room) (by k_units) (by with_reducible assumption) (by k_extra "mine rem") (by k_extra "mine rem") (by k_extra "mine rem") (by k_extra "mine sub") (by k_extra "om") (by k_extra "om") (by with_reducible assumption) (by exact rfl) (by with_reducible assumption) (by with_reducible assumption) (by k_extra "om") (by first | k_extra "om" | (simp only [List.length_append, List.length_nil]; k_extra "om") | (exact Nat.zero_le _)) ?_; intro t9 tl9 us9 n9 n8 h9 tk9 hU9 F9 N9); (try dsimp only))
  k_with "m call ref" => (fail_if_success (fail_if_success have := on_6)); (k_here; (with_reducible show wpAny _ _ (call (Value.ref 273) _) _ _ _); k_dflt ( refine entries_c (by k_asm) (by k_asm) (by k_asm) (by k_asm) (by k_asm) (by first | exact rfl | assumption) (by k_room) (by k_units) (by k_extra "mine mem") (by with_reducible assumption) (by with_reducible assumption) (by with_reducible assumption) (by exact Nat.le_of_ble_eq_true rfl) (by with_reducible assumption) (by k_asm) (by k_asm) ?_; intro D vs n es h1 tk1 hE hS hL F1 N1); (try dsimp only))
  k_with "m call ref" => (fail_if_success (fail_if_success have := on_30)); (k_here; (with_reducible show wpAny _ _ (call (Value.ref 311) _) _ _ _); k_dflt ( refine kinds_c (by k_asm) (by k_asm) (by k_asm) (by k_asm) (by k_asm) (by first | exact rfl | assumption) (by k_room) (by k_units) (by with_reducible assumption) (by k_extra "mine rem") (by k_extra "mine rem") (by k_extra "mine rem") (by k_extra "mine sub") (by with_reducible assumption) (by with_reducible assumption) (by with_reducible assumption) (by with_reducible assumption) (by exact rfl) (by k_extra "mine mem") (by exact PairsAt.mono (by with_reducible assumption) (by k_extra "mine sub")) (by exact rfl) (by with_reducible assumption) (by with_reducible assumption) (by with_reducible assumption) ?_; intro t9 n9 k9 h9 tk9 F9 N9); (try dsimp only))
  k_with "m call ref" => (fail_if_success (fail_if_success have := on_30)); (k_here; (with_reducible show wpAny _ _ (call (Value.ref 294) _) _ _ _); k_dflt ( refine ways_m (by k_asm) (by k_asm) (by k_asm) (by k_asm) (by k_asm) (by first | exact rfl | assumption) (by k_room) (by k_units) (by k_extra "mine mem") (by k_extra "mine mem") (by k_extra "mine mem") (by k_extra "mine mem") (by k_extra "mine mem") ?_; intro t9 h9 tk9 F9 N9); (try dsimp only))
  k_with "m call ref" => (fail_if_success (fail_if_success have := on_31)); (k_here; (with_reducible show wpAny _ _ (call (Value.ref 235) _) _ _ _); k_dflt ( refine gt_end (by k_asm) (by k_asm) (by k_asm) (by k_asm) (by k_asm) (by first | exact rfl | assumption) (by k_room) (by k_units) (by with_reducible assumption) (by k_extra "mine rem") (by k_extra "mine rem") (by k_extra "mine rem") (by k_extra "mine sub") (by with_reducible assumption) (by with_reducible assumption) (by with_reducible assumption) (by with_reducible assumption) (by exact rfl) ?_; intro t9 n9 k9 h9 tk9 F9 N9); (try dsimp only))
  k_with "m eval ListComp" => (fail_if_success (fail_if_success have := on_32)); (refine Hold.mk ?_)
  k_with "m exec Assign" => (fail_if_success (fail_if_success have := on_33)); (refine Hold.mk ?_)
  k_with "m exec Assign" => (fail_if_success (fail_if_success have := on_34)); (k_here; (with_reducible show wpAny _ _ (exec (Stmt.Assign _ (Expr.ListComp _ _ _ _) _) _) _ _ _); refine Hold.mk ?_)
  k_with "m call builtin:str.join" => (fail_if_success (fail_if_success have := on_35)); (k_here; k_dflt ( refine join_r (by k_asm) (by k_mem) (by k_asm) (by k_asm) (by k_asm) ?_; intro t9 k9); (try dsimp only))
  k_with "m call type:list" => (fail_if_success (fail_if_success have := on_36)); (k_here; (with_reducible show wpAny _ _ (call (Value.type _) [Value.str _ _]) _ _ _); k_dflt ( refine list_str_r rfl (by k_asm) (by k_asm) (by (first | assumption | (simp only [List.size_toArray]; k_extra "om") | k_extra "om")) ?_; intro D9 vs9 n9 h9 tk9 hS9 F9 N9 l9; (try k_lt l9)); (try dsimp only))
  k_with "m subscriptTail" => (fail_if_success (fail_if_success have := on_36)); (k_here; (with_reducible show wpAny _ _ (subscriptTail _ (PySem.Expr.Slice none none (some _) _) (Value.ref _) (Value.ref _)) _ _ _); k_dflt ( refine rev_r (by k_asm) (by k_asm) (by k_mem) (by exact IsPart.int _ _) ?_ (by with_unfolding_all rfl) (by (intro _; with_unfolding_all rfl)) (by (first | assumption | ((rename SigAre _ _ => hS9); rw [hS9.length]; (first | assumption | (simp only [Array.length_toList]; k_extra "om") | k_extra "om")))); intro D9 h9 F9 N9 l9; (try k_lt l9)); (try dsimp only))
  k_with "m subscriptTail" => (fail_if_success (fail_if_success have := on_37)); (k_here; (with_reducible show wpAny _ _ (subscriptTail _ _ (Value.ref _) (Value.int _ _)) _ _ _); k_dflt ( refine item_pairs (by exact News.isList (by k_asm) (by k_extra "mine mem")) (by assumption) (by k_extra "om") (by k_extra "om") (by k_extra "om") ?_ (by with_unfolding_all rfl); intro b9 k9 k8 hb9))
  k_with "m subscriptTail" => (fail_if_success (fail_if_success have := on_21)); (k_here; (with_reducible show wpAny _ _ (subscriptTail _ _ (Value.str _ _) (Value.int _ _)) _ _ _); k_dflt ( refine char_r1 (by k_extra "om") (by with_reducible assumption) (by k_extra "om") ?_; intro t9 tk9))
  k_with "m subscriptTail" => (fail_if_success (fail_if_success have := on_21)); (k_here; (with_reducible show wpAny _ _ (subscriptTail _ _ (Value.str _ _) (Value.int _ _)) _ _ _); k_dflt ( refine char_r (j := _) (by first | exact rfl | k_extra "om") (by k_extra "om") (by with_reducible assumption) (by k_extra "om") ?_; intro t9 tk9))
  k_with "m truthy ref" => (fail_if_success (fail_if_success have := on_38)); (k_here; (with_reducible show wpAny _ _ (truthy (Value.ref _)) _ _ _); k_dflt ( refine truthy_r (by k_asm) (by k_mem) (by assumption) ?_; intro tk9))
  k_with "m truthy ref" => (fail_if_success (fail_if_success have := on_39)); (k_here; (with_reducible show wpAny _ _ (truthy (Value.ref _)) _ _ _); k_dflt ( refine truthy_c (by k_asm) (by k_mem) (by assumption) ?_; intro tk9))
  k_with "m call builtin:list.pop" => (fail_if_success (fail_if_success have := on_38)); (k_here; (with_reducible show wpAny _ _ (call (Value.builtin _) [Value.ref _]) _ _ _); k_dflt ( refine pop_r (by k_asm) (by k_asm) (by k_updF) (by assumption) ?_; intro h9 F9 N9); (try dsimp only))
  k_with "m call builtin:list.pop" => (fail_if_success (fail_if_success have := on_39)); (k_here; (with_reducible show wpAny _ _ (call (Value.builtin _) [Value.ref _, Value.int _ _]) _ _ _); k_dflt ( refine pop0_r (by k_asm) (by k_asm) (by k_updF) (by assumption) ?_; intro h9 F9 N9); (try dsimp only))
  k_with "m subscriptTail Name Name ref int" => (fail_if_success (fail_if_success have := on_40)); (refine Hold.mk ?_)
  k_with "m getMethod ref" => (fail_if_success (fail_if_success have := on_13)); (k_here; (with_reducible show wpAny _ _ (getMethod (Value.ref _) (PySem.Str.ofString "insert") _) _ _ _); k_dflt ( refine kl_method (by k_asm) (by k_mem) PySem.F.slot_list_insert PySem.F.type_list_insert ?_))
  k_with "m call builtin:list.insert" => (fail_if_success (fail_if_success have := on_13)); (refine Hold.mk ?_)
  k_with "mine km" => (fail_if_success (fail_if_success have := on_41)); first | exact List.Mem.head _ | (with_reducible assumption) | (refine List.mem_cons_of_mem _ ?_; k_extra "mine km")
  k_with "t k_mem" => (fail_if_success (fail_if_success have := on_41)); k_extra "mine km"
  k_with "m inplaceOp Mult int int" => (fail_if_success (fail_if_success have := on_2)); (k_here; k_dflt (refine imul_int ?_ (fac_ok (by first | assumption | (simp only [insI_length, List.length_nil] <;> k_extra "om")))))
  k_with "m call builtin:iter" => (fail_if_success (fail_if_success have := on_42)); (k_here; (with_reducible show wpAny _ _ (call (Value.builtin "iter") [Value.ref _, Value.str _ _]) _ _ _); k_dflt ( refine ci_new (by k_asm) (by k_asm) (by k_mem) ?_; intro I9 h9 F9 N9 l9; (try k_lt l9)); (try dsimp only))
  k_with "m call builtin:iter" => (fail_if_success (fail_if_success have := on_17)); (k_here; (with_reducible show wpAny _ _ (call (Value.builtin "iter") [Value.bytes _ _]) _ _ _); k_dflt ( refine bi_new (by k_asm) (by k_asm) ?_; intro I9 io9 h9 hi9 F9 N9 l9; (try k_lt l9)); (try dsimp only))
  k_with "mine loop" => (fail_if_success (fail_if_success have := on_42)); (k_extra "mine held"; refine for_in ?_; k_steps; k_extra "mine held"; refine ci_self (by k_asm) (by k_extra "mine mem") ?_)
  k_with "m call builtin:next" => (fail_if_success (fail_if_success have := on_43)); (k_here; (with_reducible show wpAny _ _ (call (Value.builtin "next") [Value.ref _]) _ _ _); k_dflt ( refine bi_next (by k_asm) (by k_asm) (by k_updF) (by assumption) ?_; intro io9 h9 tk9 t9 hi9 F9 N9); (try dsimp only))
  k_with "m call builtin:next" => (fail_if_success (fail_if_success have := on_17)); (k_here; (with_reducible show wpAny _ _ (call (Value.builtin "next") [Value.ref _]) _ _ _); k_dflt ( refine bi_end (by exact rfl) (by k_asm) (by k_asm) (by k_extra "mine rem") (by assumption) ?_; intro h9 h8 e9 F9 N9 x9); (try dsimp only))
  k_with "m exec While BinOp cons nil" => (fail_if_success (fail_if_success have := on_43)); (refine Hold.mk ?_)
  k_with "m exec While BinOp" => (fail_if_success (fail_if_success have := on_43)); (refine Hold.mk ?_)
  k_with "m exec AugAssign" => (fail_if_success (fail_if_success have := on_aug)); (refine Hold.mk ?_)
  k_with "m getMethod type:tuple" => (fail_if_success (fail_if_success have := on_44)); (k_here; refine method_type (by k_asm) (by k_asm) (by exact meta_tup) (by decide +kernel) (by exact find_new _) (by k_handed) ?_)
  k_with "m call builtin:tuple.__new__" => (fail_if_success (fail_if_success have := on_44)); (refine Hold.mk ?_)
  k_with "t kts_caughtN" => (fail_if_success (fail_if_success have := on_18)); (k_dflt ( refine caught_SN0 (T' := "StopIteration") (by assumption) (by assumption) (by assumption) (by assumption) (by assumption) (by assumption) (by assumption) (by first | assumption | exact KtsTurn.refl) (by k_is) PyProof.Rows.Boot.«StopIteration» (by decide) si_isExc si_notTuple (by exact isSubtype_stop) ?_; k_whole); intro h' g' T' F' N' K' X' P' D'; (try k_lift K'); (try k_sweep))
  k_with "m exec While Constant cons nil" => (fail_if_success (fail_if_success have := on_18)); (refine Hold.mk ?_)
  k_with "m exec While Constant" => (fail_if_success (fail_if_success have := on_18)); (refine Hold.mk ?_)
  k_with "m call type:bytes" => (fail_if_success (fail_if_success have := on_19)); (k_here; (with_reducible show wpAny _ _ (call (Value.type _) [Value.ref _]) _ _ _); k_dflt ( refine bytes_r (by exact rfl) (by k_asm) (by k_asm) (by k_mem) (by assumption) (by assumption) (by assumption) ?_; intro b9 t9 h9 tk9 hb8 F9 N9); (try dsimp only))
  k_with "m subscriptTail Name Slice ref ref" => (fail_if_success (fail_if_success have := on_20)); (refine Hold.mk ?_)
  k_with "m subscriptTail Name Slice ref ref" => (fail_if_success (fail_if_success have := on_45)); (k_here; (with_reducible show wpAny _ _ (subscriptTail _ (PySem.Expr.Slice _ _ (some _) _) (Value.ref _) (Value.ref _)) _ _ _); k_dflt ( refine step_r (by k_asm) (by k_asm) (by k_extra "mine mem") (by with_reducible assumption) (by k_extra "om") (by decide) ?_ (by with_unfolding_all rfl) (by kmk_pure); intro D9 ws9 zs9 h9 hz9 F9 N9 l9; (try k_lt l9)); (try dsimp only))
  k_with "m subscriptTail Name Slice ref ref" => (fail_if_success (fail_if_success have := on_46)); (k_here; k_dflt ( refine two_r (by k_asm) (by k_asm) (by k_extra "mine mem") ?_ (by with_unfolding_all rfl) (by kmk_pure); intro D9 h9 F9 N9 l9; (try k_lt l9)); (try dsimp only))
  k_with "m compareOp Eq ref ref" => (fail_if_success (fail_if_success have := on_47)); (k_here; k_dflt (first | ( refine eqS0_r (by k_asm) (by k_mem) (by k_mem) (by assumption) (by k_units) ?_) | ( refine eqS1_r (by k_asm) (by k_mem) (by k_mem) (by assumption) (by assumption) (by k_units) ?_)))
  k_with "m compareOp Eq ref ref" => (fail_if_success (fail_if_success have := on_31)); (refine Hold.mk ?_)
  k_with "m call builtin:str.find" => (fail_if_success (fail_if_success have := on_48)); (k_here; (with_reducible show wpAny _ _ (call (Value.builtin "str.find") [Value.str _ _, Value.str _ _]) _ _ _); k_dflt (refine PySem.SC.find ?_); (try dsimp only))
  k_with "m exec Assign cons ListComp" => (fail_if_success (fail_if_success have := on_49)); (refine Hold.mk ?_)
  k_with "m call type:range" => (fail_if_success (fail_if_success have := on_37)); (k_here; (with_reducible show wpAny _ _ (call (Value.type _) [Value.int _ _]) _ _ _); k_dflt ( refine range_r (n := _) (by k_asm) (by k_asm) ?_; intro D9 h9 tk9 a9 c9 F9 N9 l9; (try k_lt l9)); (try dsimp only))
  k_with "m call type:range" => (fail_if_success (fail_if_success have := on_50)); (k_here; (with_reducible show wpAny _ _ (call (Value.type _) [Value.int _ _]) _ _ _); k_dflt ( refine range_r1 (n := _) (by k_asm) (by k_asm) ?_; intro D9 h9 tk9 a9 c9 F9 N9 l9; (try k_lt l9)); (try dsimp only))
  k_with "mine yrange" => (fail_if_success (fail_if_success have := on_37)); (k_dflt ( refine mk_iter_range (by k_asm) (by k_asm) (by k_extra "mine mem") (by first | assumption | exact Nat.le_of_ble_eq_true rfl) ?_; intro I9 h9 io9 Y9 F9 N9 l9; (try k_lt l9)); (try dsimp only))
  k_with "m binaryOp Add str str" => (fail_if_success (fail_if_success have := on_4)); (refine Hold.mk ?_)
  k_with "m subscriptTail Name Name str int" => (fail_if_success (fail_if_success have := on_21)); (k_here; (with_reducible show wpAny _ _ (subscriptTail _ _ (Value.str _ _) (Value.int _ _)) _ _ _); k_dflt ( refine char_r (j := _) (by first | exact rfl | k_extra "om") (by k_extra "om") (by with_reducible assumption) (by k_extra "om") ?_; intro t9 tk9))
  k_with "m subscriptTail Name BinOp str int" => (fail_if_success (fail_if_success have := on_21)); (k_here; (with_reducible show wpAny _ _ (subscriptTail _ _ (Value.str _ _) (Value.int _ _)) _ _ _); k_dflt ( refine char_r1 (by k_extra "om") (by with_reducible assumption) (by k_extra "om") ?_; intro t9 tk9))
  k_with "m call type:int" => (fail_if_success (fail_if_success have := on_21)); (k_here; (with_reducible show wpAny _ _ (call (Value.type "int") [Value.str _ _]) _ _ _); k_dflt ( refine digit_r (by with_reducible assumption) ?_; intro t9 tk9))
  k_with "m exec While Name cons nil" => (fail_if_success (fail_if_success have := on_25)); (refine Hold.mk ?_)
  k_with "m subscriptTail Name Slice str ref" => (fail_if_success (fail_if_success have := on_50)); (k_here; (with_reducible show wpAny _ _ (subscriptTail _ (Expr.Slice none (some _) none _) _ _) _ _ _); k_dflt ( refine slice_strN_ns (s := ⟨_, _, _, _, _⟩) (hsz := (by assumption)) (by k_asm) (by k_asm) ?_; intro h9 t9 k9 F9 N9); (try dsimp only))
  k_with "m subscriptTail Name Slice str ref" => (fail_if_success (fail_if_success have := on_50)); (k_here; (with_reducible show wpAny _ _ (subscriptTail _ (Expr.Slice (some _) none none _) _ _) _ _ _); k_dflt ( refine slice_strN_sn (s := ⟨_, _, _, _, _⟩) (hsz := (by assumption)) (by k_asm) (by k_asm) ?_; intro h9 t9 k9 F9 N9); (try dsimp only))
  k_with "m call type:enumerate" => (fail_if_success (fail_if_success have := on_45)); (refine Hold.mk ?_)
  k_with "m call builtin:sum" => (fail_if_success (fail_if_success have := on_45)); (k_here; (with_reducible show wpAny _ _ (call (Value.builtin "sum") [Value.ref _]) _ _ _); k_dflt ( refine sum_r (by exact rfl) (by k_asm) (by k_asm) (by k_extra "mine mem") (by with_reducible assumption) ?_; intro z9 t9 h9 tk9 F9 N9); (try dsimp only))
  k_with "mine subw" => (fail_if_success (fail_if_success have := on_5)); first | (refine allC ?_ ?_; k_mem; k_extra "mine subw") | (intro p hp; repeat (first | exact hp | exact List.mem_append_left _ hp | exact List.mem_append_right _ hp | apply List.mem_cons_of_mem))
  k_with "m call type:zip" => (fail_if_success (fail_if_success have := on_51)); (refine Hold.mk ?_)
  k_with "m call type:str" => (fail_if_success (fail_if_success have := on_52)); (k_here; (with_reducible show wpAny _ _ (call (Value.type "str") _) _ _ _); refine P.str_of_bool ?_)
  k_with "m compareOp NotEq ref ref" => (fail_if_success (fail_if_success have := on_53)); (refine Hold.mk ?_)
  k_with "m call builtin:str.count" => (fail_if_success (fail_if_success have := on_31)); (refine Hold.mk ?_)
  k_with "m exec Assign cons Call" => (fail_if_success (fail_if_success have := on_54)); (refine Hold.mk ?_)
  k_with "m exec Assign cons Tuple" => (fail_if_success (fail_if_success have := on_54)); (refine Hold.mk ?_)
  k_with "m exec If" => (fail_if_success (fail_if_success have := on_54)); (refine Hold.mk ?_)
  k_with "m exec Return some" => (fail_if_success (fail_if_success have := on_54)); (refine Hold.mk ?_)
  k_with "m exec Return" => (fail_if_success (fail_if_success have := on_54)); (refine Hold.mk ?_)
  trivial
local macro_rules | `(tactic| walk_at $s:str) => do let t := Lean.Syntax.mkStrLit ("m " ++ s.getString); `(tactic| k_extra $t)
local macro_rules | `(tactic| k_room) => `(tactic| k_extra "t k_room")
local macro_rules | `(tactic| k_units) => `(tactic| k_extra "t k_units")
local macro_rules | `(tactic| ktr_room) => `(tactic| k_extra "t ktr_room")
local macro_rules | `(tactic| ktr_units) => `(tactic| k_extra "t ktr_units")
local macro_rules | `(tactic| is_list) => `(tactic| k_extra "t is_list")
local macro_rules | `(tactic| k_ne) => `(tactic| k_extra "t k_ne")
local macro_rules | `(tactic| k_all) => `(tactic| k_extra "t k_all")
local macro_rules | `(tactic| k_mem) => `(tactic| k_extra "t k_mem")
local macro_rules | `(tactic| kts_caughtN) => `(tactic| k_extra "t kts_caughtN")
section
/-- the names that the text binds -/
noncomputable abbrev LL : List Str := [Str.ofString "insort_right", Str.ofString "bisect_right", Str.ofString "insort_left", Str.ofString "bisect_left", Str.ofString "_tuplegetter", Str.ofString "_ExceptionTableEntryBase", Str.ofString "_wall", Str.ofString "_parse_varint", Str.ofString "_parse_exception_table", Str.ofString "_law_lexer", Str.ofString "_law_octets", Str.ofString "_law_word", Str.ofString "_law_entries", Str.ofString "_law_apart", Str.ofString "_law_begin", Str.ofString "_law_ways", Str.ofString "_law_new", Str.ofString "_law_shape", Str.ofString "_law_kinds", Str.ofString "law", Str.ofString "_ExceptionTableEntry", Str.ofString "_netrclex"]
noncomputable abbrev tupO (xs : List Value) : Obj := { cls := .type "tuple", data := .seq xs.toArray 0 }
noncomputable abbrev listO (xs : List Value) (n : Nat) : Obj := { cls := .type "list", data := .seq xs.toArray n }
noncomputable def Hold (P : Prop) : Prop := P
theorem Hold.mk {P : Prop} (h : Hold P) : P := h
theorem Hold.out {P : Prop} (h : P) : Hold P := h
-- what a frame's names hold off the stored ones
noncomputable def Off (stored : List Str) (m₀ m' : Str → Option Value) : Prop := ∀ z, stored.contains z = false → m' z = m₀ z
theorem Off.refl {stored : List Str} {m : Str → Option Value} : Off stored m m := fun _ _ => rfl
theorem Off.set {stored : List Str} {m₀ m : Str → Option Value} {x : Str} {v : Option Value} (h : stored.contains x = true) (o : Off stored m₀ m) : Off stored m₀ (fun y => if y = x then v else m y) := fun z hz => by
  have e : z ≠ x := fun e => by rw [e, h] at hz; cases hz
  exact (if_neg e).trans (o z hz)
theorem kst_off {rest : Str → Option Value} {z : Str} : ∀ {ps : List (Str × Value)}, (∀ p ∈ ps, z ≠ p.1) → kstB rest ps z = rest z
  | [], _ => rfl
  | p :: r, h => by
    show (if z = p.1 then some p.2 else kstB rest r z) = rest z
    rw [if_neg (h p (.head _))]
    exact kst_off fun q hq => h q (.tail _ hq)
theorem Off.kst {stored : List Str} {m₀ u : Str → Option Value} {ps : List (Str × Value)} (h : (ps.all fun p => stored.contains p.1) = true) : Off stored m₀ (kstB (fun z => if stored.contains z then u z else m₀ z) ps) := fun z hz => by
  refine (kst_off fun p hp e => ?_).trans (if_neg (by rw [hz]; exact Bool.false_ne_true))
  have := List.all_eq_true.mp h p hp
  rw [← e, hz] at this
  cases this
noncomputable def Has (m : Str → Option Value) (ps : List (Str × Value)) : Prop := ∀ p ∈ ps, m p.1 = some p.2
theorem Has.nil {m : Str → Option Value} : Has m [] := fun _ h => nomatch h
theorem Has.cons {m : Str → Option Value} {x : Str} {v : Value} {ps : List (Str × Value)} (h : m x = some v) (r : Has m ps) : Has m ((x, v) :: ps) := fun p hp => by
  rcases List.mem_cons.mp hp with rfl | hp
  · exact h
  · exact r p hp
section
variable {prog : Program} {w : World} {A : Around} {E : Value → Shared → Prop} {Q : Flow → Shared → Prop} {s : Shared} {env : Env} {h₀ : Heap} {L : Addr}
/-- a turn's end: a state c' that P takes -/
noncomputable def WEnd {σ : Type} (h₀ : Heap) (L : Addr) (s : Shared) (Led : σ → List (Addr × Obj)) (ps : σ → List (Str × Value)) (stored : List Str) (m₀ : Str → Option Value) (P : σ → Prop) (s₂ : Shared) : Prop :=
  ∃ (c' : σ) (h' : Heap) (tk : Nat) (m' : Str → Option Value) (nx : List (Addr × Obj)), s₂ = { s with heap := h', toks := tk } ∧ Fr h₀ L h' m' ∧ News h₀ L h' nx ∧ (∀ p ∈ Led c', p ∈ nx) ∧ Has m' (ps c') ∧ Off stored m₀ m' ∧ P c'
theorem WEnd.intro {σ : Type} {Led : σ → List (Addr × Obj)} {ps : σ → List (Str × Value)} {stored : List Str} {m₀ m' : Str → Option Value} {P : σ → Prop} {h' : Heap} {tk : Nat} {nx : List (Addr × Obj)} (c' : σ)
    (F : Fr h₀ L h' m') (N : News h₀ L h' nx) (hn : ∀ p ∈ Led c', p ∈ nx) (hk : Has m' (ps c')) (ho : Off stored m₀ m') (hp : P c') : WEnd h₀ L s Led ps stored m₀ P { s with heap := h', toks := tk } :=
  ⟨c', h', tk, m', nx, rfl, F, N, hn, hk, ho, hp⟩
noncomputable def WPost {σ : Type} (h₀ : Heap) (L : Addr) (s : Shared) (Led : σ → List (Addr × Obj)) (ps : σ → List (Str × Value)) (stored : List Str) (m₀ : Str → Option Value) (P : σ → Prop) (Q : Flow → Shared → Prop) (f : Flow) (s₂ : Shared) : Prop :=
  match f with
  | .ret v => Q (.ret v) s₂
  | .brk => Q .next s₂
  | .next => WEnd h₀ L s Led ps stored m₀ P s₂
  | .cont => WEnd h₀ L s Led ps stored m₀ P s₂
theorem while_r {σ : Type} {test : Expr} {body : List Stmt} {pos : Pos} {m₀ : Str → Option Value} {nx : List (Addr × Obj)} (Led : σ → List (Addr × Obj)) (ps : σ → List (Str × Value)) (stored : List Str) (I : σ → Prop) (μ : σ → Nat) (c₀ : σ)
    (F : Fr h₀ L s.heap m₀) (N : News h₀ L s.heap nx) (hn : ∀ p ∈ Led c₀, p ∈ nx) (hk : Has m₀ (ps c₀)) (hp : I c₀)
    (turn : ∀ (c : σ) (u : Str → Option Value) h tk, I c → Fr h₀ L h (kstB (fun z => if stored.contains z then u z else m₀ z) (ps c)) → News h₀ L h (Led c) →
      wpAny (model prog w) A (isTrue test env (eval test env)) (fun b s₂ =>
        if b = true then wpAny (model prog w) A (execs body env) (WPost h₀ L s Led ps stored m₀ (fun c' => I c' ∧ μ c' < μ c) Q) E s₂ else Q .next s₂) E { s with heap := h, toks := tk })
    (hE : PassesOwn (model prog w) A env E := by passes_own) :
    wpAny (model prog w) A (exec (.While test body [] pos) env) Q E s := by
  refine ksw_while Led ps (fun _ => True) stored I μ c₀ F (fun p h => N p (hn p h)) trivial hk hp (fun c u h tk _ hI F₁ N₁ => ?_) hE
  refine wpAny_mono (turn c u h tk hI F₁ N₁) (fun b s₂ h₂ => ?_) fun _ _ x => x
  cases b with
  | false => simpa using h₂
  | true =>
    simp only [if_true] at h₂ ⊢
    refine wpAny_mono h₂ (fun f s₃ h₃ => ?_) fun _ _ x => x
    have fin : WEnd h₀ L s Led ps stored m₀ (fun c' => I c' ∧ μ c' < μ c) s₃ → KswEnd h₀ L s Led ps (fun _ => True) stored m₀ I μ c s₃ := by
      rintro ⟨c', h', tk', m', nx', rfl, F', N', hn', hk', ho', hI', hm'⟩
      exact ⟨c', h', tk', m', nx', rfl, F', N', hn', trivial, hk', fun z _ hz => ho' z hz, hI', hm'⟩
    cases f with
    | ret v => exact h₃
    | brk => exact h₃
    | next => exact fin h₃
    | cont => exact fin h₃
end
section
variable {prog : Program} {w : World} {A : Around} {E : Value → Shared → Prop} {s : Shared} {h₀ : Heap} {L D : Addr} {m : Str → Option Value} {news news' : List (Addr × Obj)} {n : Nat}
theorem insert_r {vs : List Value} {k : Nat} {i : Int} {u : Tok} {y : Value} {Q : Value → Shared → Prop} (F : Fr h₀ L s.heap m) (N : News h₀ L s.heap news) (U : Upd D (listO vs n) (listO (vs.take k ++ y :: vs.drop k) (n + 1)) news news') (hi : i = (k : Int)) (hk : k ≤ vs.length) (hz : vs.length < 2 ^ 20)
    (h : ∀ h', Fr h₀ L h' m → News h₀ L h' news' → Q .none { s with heap := h' }) : wpAny (model prog w) A (call (.builtin "list.insert") [.ref D, .int i u, y]) Q E s := by
  obtain ⟨pre, post, rfl, rfl, a, b⟩ := U.split
  have z := N (D, listO vs n) (List.mem_append.mpr (.inr (.head _)))
  have hfit : ¬ (!Builtin.List.listFitsIndex i) = true := by
    have h1 : (k : Int) < 2 ^ 20 := by k_extra "om"
    have h2 : (0 : Int) ≤ (k : Int) := Int.natCast_nonneg _
    rw [hi]
    simp only [Builtin.List.listFitsIndex, Bool.not_eq_true', Bool.not_eq_false]
    simp only [Bool.and_eq_true, decide_eq_true_eq]
    k_extra "om"
  have hf : (fun xs : Array Value => have k' := if i < 0 then (i + ((xs.size : Nat) : Int)).toNat else min i.toNat xs.size; (xs.extract 0 k').push y ++ xs.extract k') vs.toArray = (vs.take k ++ y :: vs.drop k).toArray := by
    have hn : ¬ (i < 0) := by k_extra "om"
    have hm : min i.toNat vs.length = k := by rw [hi, Int.toNat_natCast]; k_extra "om"
    dsimp only
    rw [if_neg hn, List.size_toArray, hm]
    apply Array.toList_inj.mp
    have ht : List.take (vs.length - k) (List.drop k vs) = List.drop k vs := List.take_of_length_le (by rw [List.length_drop]; exact Nat.le_refl _)
    simp [ht]
  have hsz : vs.toArray.size ≤ sizeLine := by rw [List.size_toArray, sizeLine_eq]; k_extra "om"
  have g := @PySem.AutoListH.list_insert_list_int_val_1 D vs.toArray n i u y hfit hsz
  refine call_meets PySem.F.slot_list_insert ⟨_, z.1, rfl⟩ PySem.F.entry_list_insert (PySem.F.args_list_insert_3 _ _ _) g ⟨z.1, ?_⟩
  refine h _ (F.change (Heap.SameBut.update ..) z.2.1 z.2.2) (kl_turn _ N a b hf ?_)
  rw [List.size_toArray, List.size_toArray, List.length_append, List.length_cons, List.length_take, List.length_drop]
  k_extra "om"
end
/-- the frame's fact under a short name for its locals (let): the proof then does not copy them at each step -/
theorem reF {M : Model} {A : Around} {α : Type} {t : Sem α} {Q : α → Shared → Prop} {E : Value → Shared → Prop} {s : Shared} {h₀ : Heap} {L : Addr} {m : Str → Option Value} (F : Fr h₀ L s.heap m)
    (k : let m9 := m; Fr h₀ L s.heap m9 → wpAny M A t Q E s) : wpAny M A t Q E s := k F
/-- the caller under a short name (let) -/
theorem letA {M : Model} {A : Around} {α : Type} {t : Sem α} {Q : α → Shared → Prop} {E : Value → Shared → Prop} {s : Shared} {dp un : Nat} (hd : A.depth = dp) (hu : A.units = un)
    (k : let A1 := A; A1.depth = dp → A1.units = un → wpAny M A1 t Q E s) : wpAny M A t Q E s := k hd hu
theorem room_of {a d i n R : Nat} (h : d + n < R) (ha : a = d) (hi : Nat.ble i n = true) : a + i < R :=
  ha ▸ Nat.lt_of_le_of_lt (Nat.add_le_add_left (Nat.le_of_ble_eq_true hi) d) h
theorem room_of0 {a d n R : Nat} (h : d + n < R) (ha : a = d) : a < R := ha ▸ Nat.lt_of_le_of_lt (Nat.le_add_right d n) h
theorem allC {α : Type} {p : α → Prop} {a : α} {l : List α} (h : p a) (t : ∀ x ∈ l, p x) : ∀ x ∈ a :: l, p x := List.forall_mem_cons.mpr ⟨h, t⟩
theorem im_next {p q r : Prop} (h : q → r) : (p ∧ q) → r := fun x => h x.2
theorem pick_gt {a b x : Nat} {q : Prop} (h : x < a ∧ q) (i : (x < a ∧ q) → b < a) : @Ne Nat a b := Nat.ne_of_gt (i h)
theorem pick_lt {a b x : Nat} {q : Prop} (h : x < b ∧ q) (i : (x < b ∧ q) → a < b) : @Ne Nat a b := Nat.ne_of_lt (i h)
theorem tr_gt {a b x y : Nat} {q : Prop} (v : y < a) (h : x < y ∧ q) (i : (x < y ∧ q) → b < y) : @Ne Nat a b := Nat.ne_of_gt (Nat.lt_trans (i h) v)
theorem tr_lt {a b x y : Nat} {q : Prop} (v : y < b) (h : x < y ∧ q) (i : (x < y ∧ q) → a < y) : @Ne Nat a b := Nat.ne_of_lt (Nat.lt_trans (i h) v)
end
section
theorem updF_upd {d : Addr} {o : Obj} {l : List (Addr × Obj)} {g : Obj → List (Addr × Obj)} (U : UpdF d o l g) : ∀ o', Upd d o o' l (g o') := by
  induction U with
  | head h => exact fun o' => Upd.head h
  | tail h _ ih => exact fun o' => Upd.tail h (ih o')
theorem updF_mem {d : Addr} {o : Obj} {l : List (Addr × Obj)} {g : Obj → List (Addr × Obj)} (U : UpdF d o l g) : (d, o) ∈ l := by
  induction U with
  | head h => exact List.Mem.head _
  | tail h _ ih => exact List.Mem.tail _ ih
theorem updF_keep {d : Addr} {o o' : Obj} {l : List (Addr × Obj)} {g : Obj → List (Addr × Obj)} (U : UpdF d o l g) : ∀ p ∈ l, p.1 ≠ d → p ∈ g o' := by
  induction U with
  | head h =>
    intro p hp hn
    rcases List.mem_cons.mp hp with rfl | hp
    · exact absurd rfl hn
    · exact List.Mem.tail _ hp
  | tail h _ ih =>
    intro p hp hn
    rcases List.mem_cons.mp hp with rfl | hp
    · exact List.Mem.head _
    · exact List.Mem.tail _ (ih p hp hn)
theorem news_ne {h₀ h : Heap} {L : Addr} {news : List (Addr × Obj)} {a b : Addr} {o p : Obj} (N : News h₀ L h news) (ha : (a, o) ∈ news) (hb : (b, p) ∈ news) (hn : o ≠ p) : a ≠ b := fun e => by
  have h1 := (N _ ha).1
  have h2 := (N _ hb).1
  dsimp only at h1 h2
  rw [e, h2] at h1
  exact hn (Option.some.inj h1).symm
theorem tup_list {xs ys : List Value} {n : Nat} : tupO xs ≠ listO ys n := fun e => by
  have := congrArg Obj.cls e
  exact absurd (Value.type.inj this) (by decide)
theorem allLt_ne {d : Addr} : ∀ {l : List (Addr × Obj)}, AllLt d l → ∀ p ∈ l, p.1 ≠ d
  | [], _ => fun _ h => nomatch h
  | q :: r, h => fun p hp => by
    rcases List.mem_cons.mp hp with rfl | hp
    · exact Nat.ne_of_lt h.1
    · exact allLt_ne h.2 p hp
theorem allLt_lt {d : Addr} : ∀ {l : List (Addr × Obj)}, AllLt d l → ∀ p ∈ l, p.1 < d
  | [], _ => fun _ h => nomatch h
  | q :: r, h => fun p hp => by
    rcases List.mem_cons.mp hp with rfl | hp
    · exact h.1
    · exact allLt_lt h.2 p hp
/-- one object of the ledger turned -/
theorem news_turn {h₀ h h' : Heap} {L d : Addr} {o o' : Obj} {m : Str → Option Value} {news : List (Addr × Obj)} {g : Obj → List (Addr × Obj)} (F : Fr h₀ L h m) (N : News h₀ L h news) (U : UpdF d o news g) (hs : Heap.SameBut d h h') (ho : h'.get? d = some o') : Fr h₀ L h' m ∧ News h₀ L h' (g o') := by
  obtain ⟨pre, post, hl, hg, a, b⟩ := U.split
  have hm := N (d, o) (updF_mem U)
  exact ⟨F.change hs hm.2.1 hm.2.2, hg o' ▸ (show News h₀ L h (pre ++ (d, o) :: post) from hl ▸ N).setIn a b hs ho⟩
/-- one object of the ledger is no longer known, more may have been made -/
theorem news_lost {h₀ h h' : Heap} {L d : Addr} {o : Obj} {m : Str → Option Value} {news nx : List (Addr × Obj)} (F : Fr h₀ L h m) (N : News h₀ L h news) (hd : (d, o) ∈ news) (hs : Heap.ExtBut d h h') (hn : ∀ p ∈ nx, p ∈ news) (hne : ∀ p ∈ nx, p.1 ≠ d) : Fr h₀ L h' m ∧ News h₀ L h' nx := by
  have hm := N (d, o) hd
  obtain ⟨oL, a1, a2, hoL, a3⟩ := F.ns
  refine ⟨⟨⟨oL, a1, a2, hs _ _ hm.2.1.symm hoL, a3⟩, fun b x e => hs _ _ ?_ (F.keep b x e), F.above⟩, fun p hp => ⟨hs _ _ (hne p hp) (N p (hn p hp)).1, (N p (hn p hp)).2⟩⟩
  rintro rfl
  rw [hm.2.2] at e
  cases e
theorem sub_mem {x : Addr × Obj} {sub news : List (Addr × Obj)} (h : x ∈ sub) (hs : ∀ p ∈ sub, p ∈ news) : x ∈ news := hs x h
/-- the ledger without one object -/
inductive RemF (d : Addr) (o : Obj) : List (Addr × Obj) → List (Addr × Obj) → Prop
  | head {r} : (∀ p ∈ r, p.1 ≠ d) → RemF d o ((d, o) :: r) r
  | tail {p r r'} : p.1 ≠ d → RemF d o r r' → RemF d o (p :: r) (p :: r')
theorem remF_mem {d : Addr} {o : Obj} {l nx : List (Addr × Obj)} (U : RemF d o l nx) : (d, o) ∈ l := by
  induction U with
  | head h => exact List.Mem.head _
  | tail h _ ih => exact List.Mem.tail _ ih
theorem remF_sub {d : Addr} {o : Obj} {l nx : List (Addr × Obj)} (U : RemF d o l nx) : ∀ p ∈ nx, p ∈ l := by
  induction U with
  | head h => exact fun p hp => List.Mem.tail _ hp
  | tail h _ ih =>
    intro p hp
    rcases List.mem_cons.mp hp with rfl | hp
    · exact List.Mem.head _
    · exact List.Mem.tail _ (ih p hp)
theorem remF_ne {d : Addr} {o : Obj} {l nx : List (Addr × Obj)} (U : RemF d o l nx) : ∀ p ∈ nx, p.1 ≠ d := by
  induction U with
  | head h => exact h
  | tail h _ ih =>
    intro p hp
    rcases List.mem_cons.mp hp with rfl | hp
    · exact h
    · exact ih p hp
section
variable {prog : Program} {w : World} {A : Around} {E : Value → Shared → Prop} {Q : Flow → Shared → Prop} {s : Shared} {env : Env} {h₀ : Heap} {target : Expr} {it : Value} {body : List Stmt}
/-- a for loop at its head -/
noncomputable def ForAt (prog : Program) (w : World) (A : Around) (env : Env) (target : Expr) (it : Value) (body : List Stmt) (Q : Flow → Shared → Prop) (E : Value → Shared → Prop) (s : Shared) : Prop :=
  codeAny (model prog w) A (.forLoop target it body [] env) (fun r s' => match r with | .ok f => Q f s' | .error e => cameBackBy (model prog w) A env E e s') s
/-- behind a turn's body -/
noncomputable def ForPost (prog : Program) (w : World) (A : Around) (env : Env) (target : Expr) (it : Value) (body : List Stmt) (Q : Flow → Shared → Prop) (E : Value → Shared → Prop) (f : Flow) (s : Shared) : Prop :=
  match f with
  | .next => ForAt prog w A env target it body Q E s
  | .cont => ForAt prog w A env target it body Q E s
  | .brk => Q .next s
  | .ret v => Q (.ret v) s
theorem for_in {iter : Expr} {pos : Pos} (h : wpAny (model prog w) A (eval iter env) (fun x s₁ => wpAny (model prog w) A (pyIter x) (fun it s₂ => ForAt prog w A env target it body Q E s₂) E s₁) E s)
    (hs : ∀ x, foldedSetIterable iter env x = pure x := by intro _; rfl) : wpAny (model prog w) A (exec (.For target iter body [] pos) env) Q E s := wpAny_For h hs
theorem for_turn (h : wpAny (model prog w) A (pyNext it) (fun r s₁ => match r with
      | none => Q .next s₁
      | some v => wpAny (model prog w) A (letOwnedTupleGo target it v) (fun _ s₂ => wpAny (model prog w) A (assign target env v) (fun _ s₃ =>
          wpAny (model prog w) A (execs body env) (ForPost prog w A env target it body Q E) E s₃) E s₂) E s₁) E s)
    (hE : PassesOwn (model prog w) A env E := by passes_own) : ForAt prog w A env target it body Q E s := by
  refine codeAny_loop' rfl (fun _ s' => s' = s) (fun n s' hI => ?_) 0 rfl
  subst hI
  show wpAny _ A ((forTurn target it body [] env).onRaise (fun x => do noteFrame x env; theTreesLotGoes x)) _ _ s'
  refine wpAny_noted ?_
  simp only [forTurn]
  refine wpAny_bind (wpAny_standAt (wpAny_bind (wpAny_onRaise (wpAny_mono h (fun r s₁ h₁ => ?_) fun e s₁ h' => wpAny_standAt (hE e s₁ h')))))
  cases r with
  | none => exact wpAny_pure (.inr ⟨rfl, codeAny_block (wpAny_execs_nil h₁)⟩)
  | some v =>
    refine wpAny_bind (wpAny_mono h₁ (fun _ s₁' h₁' => ?_) hE)
    refine wpAny_bind (wpAny_mono h₁' (fun _ s₂ h₂ => wpAny_bind (wpAny_mono h₂ (fun f s₃ h₃ => ?_) hE)) hE)
    cases f with
    | next => exact wpAny_pure (.inr ⟨rfl, h₃⟩)
    | cont => exact wpAny_pure (.inr ⟨rfl, h₃⟩)
    | brk => exact wpAny_pure h₃
    | ret v => exact wpAny_pure h₃
end
section
variable {prog : Program} {w : World} {A : Around} {E : Value → Shared → Prop} {Q : Flow → Shared → Prop} {s : Shared} {env : Env} {test : Expr} {body : List Stmt}
/-- a while loop at its head -/
noncomputable def WhileAt (prog : Program) (w : World) (A : Around) (env : Env) (test : Expr) (body : List Stmt) (Q : Flow → Shared → Prop) (E : Value → Shared → Prop) (s : Shared) : Prop :=
  codeAny (model prog w) A (.whileLoop test body [] env) (fun r s' => match r with | .ok f => Q f s' | .error e => cameBackBy (model prog w) A env E e s') s
noncomputable def WhilePost (prog : Program) (w : World) (A : Around) (env : Env) (test : Expr) (body : List Stmt) (Q : Flow → Shared → Prop) (E : Value → Shared → Prop) (f : Flow) (s : Shared) : Prop :=
  match f with
  | .next => WhileAt prog w A env test body Q E s
  | .cont => WhileAt prog w A env test body Q E s
  | .brk => Q .next s
  | .ret v => Q (.ret v) s
theorem while_in {pos : Pos} (h : WhileAt prog w A env test body Q E s) : wpAny (model prog w) A (exec (.While test body [] pos) env) Q E s := wpAny_While h
theorem while_turn (h : wpAny (model prog w) A (isTrue test env (eval test env)) (fun b s₁ => if b = true then wpAny (model prog w) A (execs body env) (WhilePost prog w A env test body Q E) E s₁ else Q .next s₁) E s)
    (hE : PassesOwn (model prog w) A env E := by passes_own) : WhileAt prog w A env test body Q E s := by
  refine codeAny_loop' rfl (fun _ s' => s' = s) (fun n s' hI => ?_) 0 rfl
  subst hI
  show wpAny _ A ((whileTurn test body [] env).onRaise (fun x => do noteFrame x env; theTreesLotGoes x)) _ _ s'
  refine wpAny_noted ?_
  unfold whileTurn
  refine wpAny_bind (wpAny_mono h (fun b s₁ h₁ => ?_) hE)
  cases b with
  | true =>
    simp only [if_true] at h₁ ⊢
    refine wpAny_bind (wpAny_mono h₁ (fun f s₃ h₃ => ?_) hE)
    cases f with
    | next => exact wpAny_pure (.inr ⟨rfl, h₃⟩)
    | cont => exact wpAny_pure (.inr ⟨rfl, h₃⟩)
    | brk => exact wpAny_pure h₃
    | ret v => exact wpAny_pure h₃
  | false =>
    simp only [Bool.false_eq_true, if_false] at h₁ ⊢
    exact wpAny_bind (wpAny_execs_nil (wpAny_pure h₁))
end
/-- a list's iterator -/
noncomputable def LiIs (o : Obj) (l : Addr) (i : Nat) : Prop := o.cls = .type "list_iterator" ∧ o.data = .fields #[.ref l, .int i 0]
section
variable {prog : Program} {w : World} {A : Around} {E : Value → Shared → Prop} {s : Shared} {h₀ : Heap} {L l I : Addr} {m : Str → Option Value} {news : List (Addr × Obj)} {g : Obj → List (Addr × Obj)} {vs : List Value} {n i : Nat} {io : Obj}
theorem li_iter {Q : Value → Shared → Prop} (F : Fr h₀ L s.heap m) (N : News h₀ L s.heap news) (hl : (l, listO vs n) ∈ news)
    (h : ∀ I h' io, LiIs io l 0 → Fr h₀ L h' m → News h₀ L h' ((I, io) :: news) → (∀ p ∈ news, p.1 < I) → Q (.ref I) { s with heap := h' }) : wpAny (model prog w) A (pyIter (.ref l)) Q E s :=
  wpAny_pyIter_list (News.isList N hl) (h _ _ _ ⟨rfl, rfl⟩ (F.push _) (News.push F N _ rfl) fun p hp => Heap.lt_size (N p hp).1)
theorem li_next {v : Value} {Q : Option Value → Shared → Prop} (F : Fr h₀ L s.heap m) (N : News h₀ L s.heap news) (U : UpdF I io news g) (hi : LiIs io l i) (hl : (l, listO vs n) ∈ news) (hv : vs[i]? = some v)
    (h : ∀ io' h', LiIs io' l (i + 1) → Fr h₀ L h' m → News h₀ L h' (g io') → Q (some v) { s with heap := h' }) : wpAny (model prog w) A (pyNext (.ref I)) Q E s := by
  have hm := N (I, io) (updF_mem U)
  refine wpAny_pyNext_list_item ⟨io, hm.1, hi.1, hi.2⟩ (News.isList N hl) (by simpa using hv) fun h' ⟨io', ho', hc', hd'⟩ hs => ?_
  obtain ⟨F', N'⟩ := news_turn F N U hs ho'
  exact h io' h' ⟨hc', hd'⟩ F' N'
theorem li_end {nx : List (Addr × Obj)} {Q : Option Value → Shared → Prop} (hh : A.handled = none) (F : Fr h₀ L s.heap m) (N : News h₀ L s.heap news) (U : RemF I io news nx) (hi : LiIs io l i) (hl : (l, listO vs n) ∈ news) (hv : vs.length ≤ i)
    (h : ∀ h', Fr h₀ L h' m → News h₀ L h' nx → Q none { s with heap := h' }) : wpAny (model prog w) A (pyNext (.ref I)) Q E s := by
  have hI := remF_mem U
  have hm := N (I, io) hI
  refine wpAny_pyNext_list_end hh ⟨io, hm.1, hi.1, hi.2⟩ (News.isList N hl) (by simpa using hv) fun h' hs => ?_
  obtain ⟨F', N'⟩ := news_lost F N hI hs (remF_sub U) (remF_ne U)
  exact h h' F' N'
theorem li_own {target : Expr} {v : Value} {Q : Unit → Shared → Prop} (N : News h₀ L s.heap news) (hI : (I, io) ∈ news) (hi : LiIs io l i) (h : Q () s) : wpAny (model prog w) A (letOwnedTupleGo target (.ref I) v) Q E s := by
  have key : ∀ t : Sem Unit, t = (do
      let (.ref r, .ref a) := ((Value.ref I : Value), v) | return
      let o ← load r
      match o.cls, o.data with
      | .type n, .fields vs =>
        if ["enumerate", "zip", "dict_itemiterator", "dict_reverseitemiterator", "odict_iterator", "itertools.zip_longest", "itertools.pairwise"].contains n && vs[0]? == some (rawInt a) then
          rule "for.unpacks-the-owned-tuple"
          updateField r 0 .none
      | _, _ => pure ()) → wpAny (model prog w) A t Q E s := by
    rintro t rfl
    cases v with
    | ref b =>
      refine wpAny_bind (wpAny_load (N _ hI).1 ?_)
      rw [hi.1, hi.2]
      exact wpAny_pure h
    | _ => exact wpAny_pure h
  cases target with
  | Tuple a b c => exact key _ rfl
  | List a b => exact key _ rfl
  | _ => exact wpAny_pure h
end
end
section
section
variable {prog : Program} {w : World} {A : Around} {s : Shared} {h₀ : Heap} {L C D : Addr} {m m₂ : Str → Option Value} {news nx : List (Addr × Obj)} {oC : Obj} {g : Obj → List (Addr × Obj)} {env : Env} {E : Value → Shared → Prop} {R : Result → Shared → Prop}
/-- a list comprehension's loop at its head -/
noncomputable def CompAt (prog : Program) (w : World) (A : Around) (e : PySem.Expr) (depth : Nat) (it acc : Value) (env : Env) (R : Result → Shared → Prop) (s : Shared) : Prop := codeAny (model prog w) A (.compLoop e depth it acc env) R s
/-- no raise -/
noncomputable abbrev NoE : Value → Shared → Prop := fun _ _ => False
theorem noE {M : Model} {α : Type} {x : Sem α} {Q : α → Shared → Prop} (h : wpAny M A x Q NoE s) : wpAny M A x Q E s := wpAny_mono h (fun _ _ q => q) fun _ _ f => f.elim
theorem comp_turn {elt target iter : PySem.Expr} {scope : Scope} {pos : Pos} {it acc : Value}
    (h : wpAny (model prog w) A (pyNext it) (fun r s₁ => match r with
      | none => R (.ok .next) s₁
      | some v => wpAny (model prog w) A (letOwnedTupleGo target it v) (fun _ s₂ => wpAny (model prog w) A (assign target env v) (fun _ s₃ =>
          wpAny (model prog w) A (eval elt env) (fun x s₄ => wpAny (model prog w) A (call (.builtin "list.append") [acc, x]) (fun _ s₅ =>
            CompAt prog w A (.ListComp elt [⟨target, iter, [], 0⟩] scope pos) 0 it acc env R s₅) NoE s₄) NoE s₃) NoE s₂) NoE s₁) NoE s) :
    CompAt prog w A (.ListComp elt [⟨target, iter, [], 0⟩] scope pos) 0 it acc env R s := by
  refine codeAny_loop' rfl (fun _ s' => s' = s) (fun n s' hI => ?_) 0 rfl
  subst hI
  show wpAny _ A ((compTurn (.ListComp elt [⟨target, iter, [], 0⟩] scope pos) 0 it acc env).onRaise (fun x => do noteFrame x env; theTreesLotGoes x)) _ _ s'
  refine wpAny_noted ?_
  rw [compTurn_list1]
  refine wpAny_bind (wpAny_standAt (wpAny_bind (wpAny_mono h (fun r s₁ h₁ => ?_) fun _ _ f => f.elim)))
  cases r with
  | none => exact wpAny_pure h₁
  | some v =>
    refine wpAny_bind (wpAny_mono h₁ (fun _ s₂ h₂ => ?_) fun _ _ f => f.elim)
    refine wpAny_bind (wpAny_mono h₂ (fun _ s₃ h₃ => ?_) fun _ _ f => f.elim)
    exact wpAny_bind (wpAny_bind (wpAny_mono h₃ (fun x s₄ h₄ => wpAny_bind (wpAny_mono h₄ (fun _ s₅ h₅ => wpAny_pure (wpAny_pure (.inr ⟨rfl, h₅⟩))) fun _ _ f => f.elim)) fun _ _ f => f.elim))
theorem compTurn_two (elt t1 i1 t2 i2 : PySem.Expr) (ifs : List PySem.Expr) (scope : Scope) (pos : Pos) (it acc : Value) (env : Env) :
    compTurn (.ListComp elt [⟨t1, i1, [], 0⟩, ⟨t2, i2, ifs, 0⟩] scope pos) 0 it acc env = (do
      standAt i1.pos
      match ← pyNext it with
      | none => pure (.done .next)
      | some v =>
        letOwnedTupleGo t1 it v
        assign t1 env v
        let x ← eval i2 env
        standAt i2.pos
        let x ← foldedSetIterable i2 env x
        let _ ← runOwn (.compStart (.ListComp elt [⟨t1, i1, [], 0⟩, ⟨t2, i2, ifs, 0⟩] scope pos) 1 (← holding [x] (pyIter x)) acc env) env
        again (.compLoop (.ListComp elt [⟨t1, i1, [], 0⟩, ⟨t2, i2, ifs, 0⟩] scope pos) 0 it acc env)) := by rfl
theorem compTurn_in (elt t1 i1 t2 i2 : PySem.Expr) (ifs : List PySem.Expr) (scope : Scope) (pos : Pos) (it acc : Value) (env : Env) :
    compTurn (.ListComp elt [⟨t1, i1, [], 0⟩, ⟨t2, i2, ifs, 0⟩] scope pos) 1 it acc env = (do
      standAt i2.pos
      match ← pyNext it with
      | none => pure (.done .next)
      | some v =>
        letOwnedTupleGo t2 it v
        assign t2 env v
        let mut ok := true
        for c in ifs do
          if ok then ok ← isTrue c env (eval c env)
        if ok then
          (do let _ ← call (.builtin "list.append") [acc, ← eval elt env])
        again (.compLoop (.ListComp elt [⟨t1, i1, [], 0⟩, ⟨t2, i2, ifs, 0⟩] scope pos) 1 it acc env)) := by rfl
/-- the inner loop's begin -/
theorem comp_start {elt t1 i1 t2 i2 : PySem.Expr} {ifs : List PySem.Expr} {scope : Scope} {pos : Pos} {it acc : Value}
    (h0 : CompAt prog w A (.ListComp elt [⟨t1, i1, [], 0⟩, ⟨t2, i2, ifs, 0⟩] scope pos) 1 it acc env R s)
    (h : ∀ Q, Q it s → wpAny (model prog w) A (pyIter it) Q NoE s) :
    codeAny (model prog w) A (.compStart (.ListComp elt [⟨t1, i1, [], 0⟩, ⟨t2, i2, ifs, 0⟩] scope pos) 1 it acc env) R s := by
  refine codeAny_of_tree ?_
  show wpAny _ _ ((compStart (.ListComp elt [⟨t1, i1, [], 0⟩, ⟨t2, i2, ifs, 0⟩] scope pos) 1 it acc env).onRaise (fun x => do noteFrame x env; standAt theWindowsPlace)) _ _ s
  refine wpAny_notedAt ?_
  unfold compStart
  show wpAny _ _ (ask >>= _) _ _ s
  refine wpAny_bind (wpAny_askSetting (wpAny_ite ?_))
  have hh := fun Q hQ => noE (E := notedBy (model prog w) A env fun e s' => R (.error e) s') (h Q hQ)
  split
  · first
      | exact wpAny_bind (wpAny_pure (wpAny_pure (And.intro rfl h0)))
      | exact wpAny_pure (And.intro rfl h0)
  · first
      | exact wpAny_bind (wpAny_rule (wpAny_bind (wpAny_standAt (wpAny_bind (wpAny_mono (hh (fun it' s' => it' = it ∧ s' = s) ⟨rfl, rfl⟩) (fun it' s' h' => by obtain ⟨rfl, rfl⟩ := h'; exact wpAny_pure (And.intro rfl h0)) fun _ _ x => x)))))
      | (refine wpAny_bind (wpAny_rule ?_); show wpAny _ _ (standAt i2.pos >>= _) _ _ s; exact wpAny_bind (wpAny_standAt (wpAny_bind (wpAny_mono (hh (fun it' s' => it' = it ∧ s' = s) ⟨rfl, rfl⟩) (fun it' s' h' => by obtain ⟨rfl, rfl⟩ := h'; exact wpAny_pure (And.intro rfl h0)) fun _ _ x => x))))
/-- behind the inner loop -/
noncomputable def InnerEnd (prog : Program) (w : World) (A : Around) (e : PySem.Expr) (it acc : Value) (env : Env) (R : Result → Shared → Prop) (r : Result) (s : Shared) : Prop :=
  match r with
  | .ok _ => CompAt prog w A e 0 it acc env R s
  | .error _ => False
theorem comp_outer {elt t1 i1 t2 i2 : PySem.Expr} {ifs : List PySem.Expr} {scope : Scope} {pos : Pos} {it acc : Value}
    (h : wpAny (model prog w) A (pyNext it) (fun r s₁ => match r with
      | none => R (.ok .next) s₁
      | some v => wpAny (model prog w) A (letOwnedTupleGo t1 it v) (fun _ s₂ => wpAny (model prog w) A (assign t1 env v) (fun _ s₃ =>
          wpAny (model prog w) A (eval i2 env) (fun x s₄ => wpAny (model prog w) A (pyIter x) (fun it' s₅ =>
            codeAny (model prog w) (A.mark none) (.compStart (.ListComp elt [⟨t1, i1, [], 0⟩, ⟨t2, i2, ifs, 0⟩] scope pos) 1 it' acc env)
              (InnerEnd prog w A (.ListComp elt [⟨t1, i1, [], 0⟩, ⟨t2, i2, ifs, 0⟩] scope pos) it acc env R) s₅) NoE s₄) NoE s₃) NoE s₂) NoE s₁) NoE s)
    (hs : ∀ x, foldedSetIterable i2 env x = pure x := by intro _; rfl) :
    CompAt prog w A (.ListComp elt [⟨t1, i1, [], 0⟩, ⟨t2, i2, ifs, 0⟩] scope pos) 0 it acc env R s := by
  refine codeAny_loop' rfl (fun _ s' => s' = s) (fun n s' hI => ?_) 0 rfl
  subst hI
  show wpAny _ A ((compTurn (.ListComp elt [⟨t1, i1, [], 0⟩, ⟨t2, i2, ifs, 0⟩] scope pos) 0 it acc env).onRaise (fun x => do noteFrame x env; theTreesLotGoes x)) _ _ s'
  refine wpAny_noted ?_
  rw [compTurn_two]
  refine wpAny_bind (wpAny_standAt (wpAny_bind (wpAny_mono h (fun r s₁ h₁ => ?_) fun _ _ f => f.elim)))
  cases r with
  | none => exact wpAny_pure h₁
  | some v =>
    refine wpAny_bind (wpAny_mono h₁ (fun _ s₂ h₂ => ?_) fun _ _ f => f.elim)
    refine wpAny_bind (wpAny_mono h₂ (fun _ s₃ h₃ => ?_) fun _ _ f => f.elim)
    refine wpAny_bind (wpAny_mono h₃ (fun x s₄ h₄ => ?_) fun _ _ f => f.elim)
    refine wpAny_bind (wpAny_standAt (wpAny_bind (wpAny_of_eq (hs x) (wpAny_bind (wpAny_holding (wpAny_mono h₄ (fun it' s₅ h₅ => ?_) fun _ _ f => f.elim))))))
    refine wpAny_bind (wpAny_runOwn (codeAny_mono h₅ fun r s₆ h₆ => ?_))
    cases r with
    | ok f => exact wpAny_pure (.inr ⟨rfl, h₆⟩)
    | error e => exact h₆.elim
theorem comp_inner {elt t1 i1 t2 i2 : PySem.Expr} {scope : Scope} {pos : Pos} {it acc : Value}
    (h : wpAny (model prog w) A (pyNext it) (fun r s₁ => match r with
      | none => R (.ok .next) s₁
      | some v => wpAny (model prog w) A (letOwnedTupleGo t2 it v) (fun _ s₂ => wpAny (model prog w) A (assign t2 env v) (fun _ s₃ =>
          wpAny (model prog w) A (eval elt env) (fun x s₄ => wpAny (model prog w) A (call (.builtin "list.append") [acc, x]) (fun _ s₅ =>
            CompAt prog w A (.ListComp elt [⟨t1, i1, [], 0⟩, ⟨t2, i2, [], 0⟩] scope pos) 1 it acc env R s₅) NoE s₄) NoE s₃) NoE s₂) NoE s₁) NoE s) :
    CompAt prog w A (.ListComp elt [⟨t1, i1, [], 0⟩, ⟨t2, i2, [], 0⟩] scope pos) 1 it acc env R s := by
  refine codeAny_loop' rfl (fun _ s' => s' = s) (fun n s' hI => ?_) 0 rfl
  subst hI
  show wpAny _ A ((compTurn (.ListComp elt [⟨t1, i1, [], 0⟩, ⟨t2, i2, [], 0⟩] scope pos) 1 it acc env).onRaise (fun x => do noteFrame x env; theTreesLotGoes x)) _ _ s'
  refine wpAny_noted ?_
  rw [compTurn_in]
  refine wpAny_bind (wpAny_standAt (wpAny_bind (wpAny_mono h (fun r s₁ h₁ => ?_) fun _ _ f => f.elim)))
  cases r with
  | none => exact wpAny_pure h₁
  | some v =>
    refine wpAny_bind (wpAny_mono h₁ (fun _ s₂ h₂ => ?_) fun _ _ f => f.elim)
    refine wpAny_bind (wpAny_mono h₂ (fun _ s₃ h₃ => ?_) fun _ _ f => f.elim)
    refine wpAny_bind (wpAny_tests_nil ?_)
    exact wpAny_bind (wpAny_bind (wpAny_mono h₃ (fun x s₄ h₄ => wpAny_bind (wpAny_mono h₄ (fun _ s₅ h₅ => wpAny_pure (wpAny_pure (.inr ⟨rfl, h₅⟩))) fun _ _ f => f.elim)) fun _ _ f => f.elim))
theorem comp_inner_if {elt t1 i1 t2 i2 c : PySem.Expr} {scope : Scope} {pos : Pos} {it acc : Value}
    (h : wpAny (model prog w) A (pyNext it) (fun r s₁ => match r with
      | none => R (.ok .next) s₁
      | some v => wpAny (model prog w) A (letOwnedTupleGo t2 it v) (fun _ s₂ => wpAny (model prog w) A (assign t2 env v) (fun _ s₃ =>
          wpAny (model prog w) A (isTrue c env (eval c env)) (fun ok s₄ => if ok = true then
            wpAny (model prog w) A (eval elt env) (fun x s₄ => wpAny (model prog w) A (call (.builtin "list.append") [acc, x]) (fun _ s₅ =>
              CompAt prog w A (.ListComp elt [⟨t1, i1, [], 0⟩, ⟨t2, i2, [c], 0⟩] scope pos) 1 it acc env R s₅) NoE s₄) NoE s₄
            else CompAt prog w A (.ListComp elt [⟨t1, i1, [], 0⟩, ⟨t2, i2, [c], 0⟩] scope pos) 1 it acc env R s₄) NoE s₃) NoE s₂) NoE s₁) NoE s) :
    CompAt prog w A (.ListComp elt [⟨t1, i1, [], 0⟩, ⟨t2, i2, [c], 0⟩] scope pos) 1 it acc env R s := by
  refine codeAny_loop' rfl (fun _ s' => s' = s) (fun n s' hI => ?_) 0 rfl
  subst hI
  show wpAny _ A ((compTurn (.ListComp elt [⟨t1, i1, [], 0⟩, ⟨t2, i2, [c], 0⟩] scope pos) 1 it acc env).onRaise (fun x => do noteFrame x env; theTreesLotGoes x)) _ _ s'
  refine wpAny_noted ?_
  rw [compTurn_in]
  refine wpAny_bind (wpAny_standAt (wpAny_bind (wpAny_mono h (fun r s₁ h₁ => ?_) fun _ _ f => f.elim)))
  cases r with
  | none => exact wpAny_pure h₁
  | some v =>
    refine wpAny_bind (wpAny_mono h₁ (fun _ s₂ h₂ => ?_) fun _ _ f => f.elim)
    refine wpAny_bind (wpAny_mono h₂ (fun _ s₃ h₃ => ?_) fun _ _ f => f.elim)
    refine wpAny_bind (wpAny_tests_one (wpAny_mono h₃ (fun ok s₄ h₄ => ?_) fun _ _ f => f.elim))
    cases ok with
    | false =>
      rw [if_neg Bool.false_ne_true] at h₄
      exact wpAny_pure (.inr ⟨rfl, h₄⟩)
    | true =>
      rw [if_pos rfl] at h₄
      exact wpAny_bind (wpAny_bind (wpAny_mono h₄ (fun x s₅ h₅ => wpAny_bind (wpAny_mono h₅ (fun _ s₆ h₆ => wpAny_pure (wpAny_pure (.inr ⟨rfl, h₆⟩))) fun _ _ f => f.elim)) fun _ _ f => f.elim))
/-- a comprehension behind its first iterator -/
noncomputable def CompGo (prog : Program) (w : World) (A : Around) (e : PySem.Expr) (scope : Scope) (cl : List (Str × Addr)) (env : Env) (use : Option (Value → Sem Unit)) (Q : Value → Shared → Prop) (E : Value → Shared → Prop) (it : Value) (s : Shared) : Prop :=
  wpAny (model prog w) A (newList []) (fun acc s₃ => wpAny (model prog w) A (newFunctionEnv scope env.globals cl [] env.qual none .none (some env)) (fun cenv s₄ =>
    codeAny (model prog w) A (.compStart e 0 it acc { cenv with scope := relabel scope env }) (compPost (model prog w) A E use Q acc cenv.locals) s₄) E s₃) E s
theorem comp_expr {elt iter target : PySem.Expr} {ifs : List PySem.Expr} {rest : List Comprehension} {scope : Scope} {cl : List (Str × Addr)} {pos : Pos} {Q : Value → Shared → Prop}
    (hclos : closureFor scope env = pure cl) (hkind : scope.kind = .function) (hnames : ∀ y ∈ scope.names, y.2 = .local → scope.names.lookup y.1 = some .local)
    (h : wpAny (model prog w) A (eval iter env) (fun xv s₁ => wpAny (model prog w) A (pyIter xv) (fun it s₂ => CompGo prog w A (.ListComp elt (⟨target, iter, ifs, 0⟩ :: rest) scope pos) scope cl env none Q E it s₂) E s₁) E s)
    (hs : ∀ x, foldedSetIterable iter env x = pure x := by intro _; rfl) :
    wpAny (model prog w) A (eval (.ListComp elt (⟨target, iter, ifs, 0⟩ :: rest) scope pos) env) Q E s := by
  rw [eval_ListComp]
  exact wpAny_comprehension_free (use := none) rfl hs hclos hkind hnames (wpAny_mono h (fun xv s₁ h₁ => wpAny_mono h₁ (fun it s₂ h₂ => h₂) fun _ _ e => e) fun _ _ e => e)
theorem comp_assign {elt iter target : PySem.Expr} {ifs : List PySem.Expr} {rest : List Comprehension} {scope : Scope} {cl : List (Str × Addr)} {pos spos py : Pos} {y : Str} {Q : Flow → Shared → Prop}
    (hsw : swapsWith (.ListComp elt (⟨target, iter, ifs, 0⟩ :: rest) scope pos) (some (.Name y py)) spos.line env = pure true)
    (hclos : closureFor scope env = pure cl) (hkind : scope.kind = .function) (hnames : ∀ y ∈ scope.names, y.2 = .local → scope.names.lookup y.1 = some .local)
    (h : wpAny (model prog w) A (eval iter env) (fun xv s₁ => wpAny (model prog w) A (pyIter xv) (fun it s₂ => CompGo prog w A (.ListComp elt (⟨target, iter, ifs, 0⟩ :: rest) scope pos) scope cl env (some (assign (.Name y py) env)) (fun _ s' => Q .next s') E it s₂) E s₁) E s)
    (hs : ∀ x, foldedSetIterable iter env x = pure x := by intro _; rfl) :
    wpAny (model prog w) A (exec (.Assign [.Name y py] (.ListComp elt (⟨target, iter, ifs, 0⟩ :: rest) scope pos) spos) env) Q E s := by
  rw [exec_Assign_Name_used _ _ _ _ hsw]
  refine wpAny_bind (wpAny_standAt (wpAny_bind ?_))
  show wpAny _ A (do let _ ← comprehension (.ListComp elt (⟨target, iter, ifs, 0⟩ :: rest) scope pos) scope env _ (newList []) false (eval iter env) (some (assign (.Name y py) env))) _ _ s
  exact wpAny_bind (wpAny_mono (wpAny_comprehension_free (use := some (assign (.Name y py) env)) (Q := fun _ s' => Q .next s') rfl hs hclos hkind hnames
    (wpAny_mono h (fun xv s₁ h₁ => wpAny_mono h₁ (fun it s₂ h₂ => h₂) fun _ _ e => e) fun _ _ e => e)) (fun _ s' hq => wpAny_pure (wpAny_pure hq)) fun _ _ e => e)
/-- the result's list and the block's names laid -/
theorem comp_begin {elt iter target : PySem.Expr} {ifs : List PySem.Expr} {rest : List Comprehension} {scope : Scope} {cl : List (Str × Addr)} {pos : Pos} {use : Option (Value → Sem Unit)} {Q : Value → Shared → Prop} {it : Value}
    (F : Fr h₀ L s.heap m) (N : News h₀ L s.heap news) (hcell : ∀ y ∈ scope.names, y.2 ≠ .cell) (hkind : scope.kind = .function)
    (self : ∀ (s' : Shared) (l : List (Addr × Obj)) (Q' : Value → Shared → Prop), News h₀ L s'.heap l → (∀ p ∈ news, p ∈ l) → Q' it s' → wpAny (model prog w) A (pyIter it) Q' NoE s')
    (h : ∀ D C oC h' tk, LCg.NsObj oC (fun _ => none) → Fr h₀ L h' m → News h₀ L h' ((C, oC) :: (D, listO [] 0) :: news) → (∀ p ∈ news, p.1 < D) → (∀ p ∈ ((D, listO [] 0) :: news : List (Addr × Obj)), p.1 < C) →
      CompAt prog w A (.ListComp elt (⟨target, iter, ifs, 0⟩ :: rest) scope pos) 0 it (.ref D) (compEnvC scope cl C env) (compPost (model prog w) A E use Q (.ref D) C) { s with heap := h', toks := tk }) :
    CompGo prog w A (.ListComp elt (⟨target, iter, ifs, 0⟩ :: rest) scope pos) scope cl env use Q E it s := by
  unfold CompGo
  have hlt : ∀ p ∈ news, p.1 < s.heap.objs.size := fun p hp => Heap.lt_size (N p hp).1
  refine wpAny_newObj_type (wpAny_newFunctionEnv hcell (by intro y hy; simp at hy) (fun h₁ hns₁ hsb₁ => ?_) hkind)
  dsimp only at hns₁ hsb₁ ⊢
  have F1 : Fr h₀ L (s.heap.push { cls := .type "list", dict := none, data := .seq ([] : List Value).toArray }) m := F.push _
  have N1 : News h₀ L (s.heap.push { cls := .type "list", dict := none, data := .seq ([] : List Value).toArray }) ((s.heap.objs.size, listO [] 0) :: news) := News.push F N _ rfl
  generalize hH2 : s.heap.push { cls := .type "list", dict := none, data := .seq ([] : List Value).toArray } = H2 at hns₁ hsb₁ F1 N1 ⊢
  have hC : H2.objs.size = s.heap.objs.size + 1 := by rw [← hH2, Heap.size_push]
  have F2 : Fr h₀ L (H2.push { cls := .type "dict", data := .dict #[] }) m := F1.push _
  have N2 : News h₀ L (H2.push { cls := .type "dict", data := .dict #[] }) ((H2.objs.size, { cls := .type "dict", data := .dict #[] }) :: (s.heap.objs.size, listO [] 0) :: news) := News.push F1 N1 _ rfl
  obtain ⟨oC, hoC, hC9⟩ := LCg.ns_obj hns₁
  have hlt1 : ∀ p ∈ ((s.heap.objs.size, listO [] 0) :: news : List (Addr × Obj)), p.1 < H2.objs.size := fun p hp => Heap.lt_size (N1 p hp).1
  obtain ⟨F3, N3⟩ := news_turn F2 N2 (UpdF.head fun p hp => Nat.ne_of_lt (hlt1 p hp)) hsb₁ hoC
  have go := h s.heap.objs.size H2.objs.size oC h₁ (s.toks + ([] : List (Str × Value)).length) hC9 F3 N3 hlt hlt1
  refine codeAny_compStart_list (rest := rest) go (noE (self _ _ _ N3 (fun p hp => List.Mem.tail _ (List.Mem.tail _ hp)) go))
theorem li_self {l I : Addr} {i : Nat} {io : Obj} (hi : LiIs io l i) (hm : (I, io) ∈ news) : ∀ (s' : Shared) (l' : List (Addr × Obj)) (Q' : Value → Shared → Prop), News h₀ L s'.heap l' → (∀ p ∈ news, p ∈ l') → Q' (.ref I) s' → wpAny (model prog w) A (pyIter (.ref I)) Q' NoE s' :=
  fun s' l' Q' N hs hQ => wpAny_pyIter_listiter (l := l) (i := i) ⟨io, (N _ (hs _ hm)).1, hi.1, hi.2⟩ hQ
/-- a name of the block stored -/
theorem comp_store {scope : Scope} {cl : List (Str × Addr)} {x : Str} {px : Pos} {v : Value} {Q : Unit → Shared → Prop} (F : Fr h₀ L s.heap m) (N : News h₀ L s.heap news) (U : UpdF C oC news g) (hC : LCg.NsObj oC m₂) (hl : (compEnvC scope cl C env).kindOf x = some .local)
    (hp : ((compEnvC scope cl C env).scope.kind == .class || ((compEnvC scope cl C env).scope.kind == .module && (compEnvC scope cl C env).locals != (compEnvC scope cl C env).globals)) = false)
    (h : ∀ oC' h', LCg.NsObj oC' (fun z => if z = x then some v else m₂ z) → Fr h₀ L h' m → News h₀ L h' (g oC') → Q () { s with heap := h', toks := s.toks + 1 }) :
    wpAny (model prog w) A (assign (.Name x px) (compEnvC scope cl C env) v) Q E s := by
  refine wpAny_assign_Name (wpAny_storeName_local hl (hC.ns (N _ (updF_mem U)).1) (fun h' hn hs => ?_) hp)
  obtain ⟨oC', ho, hC'⟩ := LCg.ns_obj hn
  obtain ⟨F', N'⟩ := news_turn F N U hs ho
  exact h oC' h' hC' F' N'
/-- append to a list of the ledger -/
theorem append_r {vs : List Value} {n : Nat} {y : Value} {Q : Value → Shared → Prop} (F : Fr h₀ L s.heap m) (N : News h₀ L s.heap news) (U : UpdF D (listO vs n) news g) (hz : vs.length < 2 ^ 20)
    (h : ∀ h', Fr h₀ L h' m → News h₀ L h' (g (listO (vs ++ [y]) (n + 1))) → Q .none { s with heap := h' }) : wpAny (model prog w) A (call (.builtin "list.append") [.ref D, y]) Q E s := by
  have z := N (D, listO vs n) (updF_mem U)
  refine wpAny_call_entry PySem.slot_list_append ⟨_, z.1, rfl⟩ PySem.entry_list_append ?_ (PySem.args_list_append _ _)
  show wpAny _ _ (updateSeq D (·.push y) >>= fun _ => ret .none) _ _ s
  refine wpAny_bind (wpAny_updateSeq z.1 rfl (wpAny_pure ⟨.none, rfl, ?_⟩))
  have e : Obj.mapSeq (·.push y) (listO vs n) = listO (vs ++ [y]) (n + 1) := by
    show Obj.mk _ _ _ _ = Obj.mk _ _ _ _
    congr 1
    show Data.seq _ _ = Data.seq _ _
    congr 1
    · simp
    · have : ((vs.toArray.push y).size == vs.toArray.size) = false := by simp
      simp only [this]; rfl
  have ho : (s.heap.update D (Obj.mapSeq (·.push y))).get? D = some (listO (vs ++ [y]) (n + 1)) := by
    rw [← e]
    exact Heap.get?_update_self _ z.1 rfl
  obtain ⟨F', N'⟩ := news_turn F N U (Heap.SameBut.update ..) ho
  exact h _ F' N'
/-- the comprehension's ends -/
theorem comp_end0 {use : Unit} {Q : Value → Shared → Prop} {acc : Value} {f : Flow} (F : Fr h₀ L s.heap m) (N : News h₀ L s.heap news) (U : RemF C oC news nx) (hC : LCg.NsObj oC m₂)
    (h : ∀ h', Fr h₀ L h' m → News h₀ L h' nx → Q acc { s with heap := h' }) : compPost (model prog w) A E none Q acc C (.ok f) s := by
  have hm := N (C, oC) (remF_mem U)
  refine ⟨_, hC.ns hm.1, fun h' hs => ?_⟩
  obtain ⟨F', N'⟩ := news_lost F N (remF_mem U) hs.extBut (remF_sub U) (remF_ne U)
  exact h h' F' N'
/-- behind the use of a comprehension's list -/
noncomputable def CompFin (C : Addr) (Q : Value → Shared → Prop) (v : Value) (s : Shared) : Prop := ∃ m, s.heap.Ns C m ∧ ∀ h', Heap.SameBut C s.heap h' → Q v { s with heap := h' }
theorem comp_use {u : Value → Sem Unit} {Q : Value → Shared → Prop} {acc : Value} {f : Flow} (h : wpAny (model prog w) A (u acc) (fun _ s'' => CompFin C Q .none s'') E s) : compPost (model prog w) A E (some u) Q acc C (.ok f) s := h
theorem comp_fin {Q : Value → Shared → Prop} {v : Value} (F : Fr h₀ L s.heap m) (N : News h₀ L s.heap news) (U : RemF C oC news nx) (hC : LCg.NsObj oC m₂)
    (h : ∀ h', Fr h₀ L h' m → News h₀ L h' nx → Q v { s with heap := h' }) : CompFin C Q v s := by
  have hm := N (C, oC) (remF_mem U)
  refine ⟨_, hC.ns hm.1, fun h' hs => ?_⟩
  obtain ⟨F', N'⟩ := news_lost F N (remF_mem U) hs.extBut (remF_sub U) (remF_ne U)
  exact h h' F' N'
end
end
section
/-- an iterator's object that owns no tuple and answers itself to iter -/
noncomputable def ItO (prog : Program) (w : World) (I : Addr) (io : Obj) : Prop :=
  (∃ n vs, io.cls = .type n ∧ io.data = .fields vs ∧ ["enumerate", "zip", "dict_itemiterator", "dict_reverseitemiterator", "odict_iterator", "itertools.zip_longest", "itertools.pairwise"].contains n = false) ∧
  ∀ (A : Around) (s : Shared) (Q : Value → Shared → Prop), s.heap.get? I = some io → Q (.ref I) s → wpAny (model prog w) A (pyIter (.ref I)) Q NoE s
/-- an iterator that gives these values in turn, over a ledger that holds sub -/
noncomputable def Yields (prog : Program) (w : World) (sub : List (Addr × Obj)) (I : Addr) : List (Tok → Value) → Obj → Prop
  | [], io => ItO prog w I io ∧ ∀ (A : Around) (h₀ : Heap) (L : Addr) (m : Str → Option Value) (s : Shared) (news nx : List (Addr × Obj)) (Q : Option Value → Shared → Prop), A.handled = none → Fr h₀ L s.heap m → News h₀ L s.heap news → RemF I io news nx → (∀ p ∈ sub, p ∈ news) →
      (∀ h', Fr h₀ L h' m → News h₀ L h' nx → Q none { s with heap := h' }) → wpAny (model prog w) A (pyNext (.ref I)) Q NoE s
  | x :: r, io => ItO prog w I io ∧ ∀ (A : Around) (h₀ : Heap) (L : Addr) (m : Str → Option Value) (s : Shared) (news : List (Addr × Obj)) (g : Obj → List (Addr × Obj)) (Q : Option Value → Shared → Prop), A.handled = none → Fr h₀ L s.heap m → News h₀ L s.heap news → UpdF I io news g → (∀ p ∈ sub, p ∈ news) →
      (∀ io' h' tk t, Yields prog w sub I r io' → Fr h₀ L h' m → News h₀ L h' (g io') → Q (some (x t)) { s with heap := h', toks := tk }) → wpAny (model prog w) A (pyNext (.ref I)) Q NoE s
theorem Yields.it {prog : Program} {w : World} {sub : List (Addr × Obj)} {I : Addr} {io : Obj} : ∀ {xs : List (Tok → Value)}, Yields prog w sub I xs io → ItO prog w I io
  | [], h => h.1
  | _ :: _, h => h.1
section
variable {prog : Program} {w : World} {A : Around} {E : Value → Shared → Prop} {s : Shared} {h₀ : Heap} {L I : Addr} {m : Str → Option Value} {news sub nx : List (Addr × Obj)} {g : Obj → List (Addr × Obj)} {io : Obj}
theorem yi_next {x : Tok → Value} {r : List (Tok → Value)} {Q : Option Value → Shared → Prop} (Y : Yields prog w sub I (x :: r) io) (hh : A.handled = none) (F : Fr h₀ L s.heap m) (N : News h₀ L s.heap news) (U : UpdF I io news g) (hs : ∀ p ∈ sub, p ∈ news)
    (h : ∀ io' h' tk t, Yields prog w sub I r io' → Fr h₀ L h' m → News h₀ L h' (g io') → Q (some (x t)) { s with heap := h', toks := tk }) : wpAny (model prog w) A (pyNext (.ref I)) Q E s := noE (Y.2 A h₀ L m s news g Q hh F N U hs h)
theorem yi_end {Q : Option Value → Shared → Prop} (Y : Yields prog w sub I [] io) (hh : A.handled = none) (F : Fr h₀ L s.heap m) (N : News h₀ L s.heap news) (U : RemF I io news nx) (hs : ∀ p ∈ sub, p ∈ news)
    (h : ∀ h', Fr h₀ L h' m → News h₀ L h' nx → Q none { s with heap := h' }) : wpAny (model prog w) A (pyNext (.ref I)) Q E s := noE (Y.2 A h₀ L m s news nx Q hh F N U hs h)
theorem yi_own {xs : List (Tok → Value)} {target : PySem.Expr} {v : Value} {Q : Unit → Shared → Prop} (Y : Yields prog w sub I xs io) (N : News h₀ L s.heap news) (hI : (I, io) ∈ news) (h : Q () s) : wpAny (model prog w) A (letOwnedTupleGo target (.ref I) v) Q E s := by
  obtain ⟨n, vs, hc, hd, hn⟩ := Y.it.1
  have key : ∀ t : Sem Unit, t = (do
      let (.ref r, .ref a) := ((Value.ref I : Value), v) | return
      let o ← load r
      match o.cls, o.data with
      | .type n, .fields vs =>
        if ["enumerate", "zip", "dict_itemiterator", "dict_reverseitemiterator", "odict_iterator", "itertools.zip_longest", "itertools.pairwise"].contains n && vs[0]? == some (rawInt a) then
          rule "for.unpacks-the-owned-tuple"
          updateField r 0 .none
      | _, _ => pure ()) → wpAny (model prog w) A t Q E s := by
    rintro t rfl
    cases v with
    | ref b =>
      refine wpAny_bind (wpAny_load (N _ hI).1 ?_)
      rw [hc, hd]
      dsimp only
      rw [hn]
      exact wpAny_pure h
    | _ => exact wpAny_pure h
  cases target with
  | Tuple a b c => exact key _ rfl
  | List a b => exact key _ rfl
  | _ => exact wpAny_pure h
theorem yi_self {xs : List (Tok → Value)} (Y : Yields prog w sub I xs io) (hm : (I, io) ∈ news) : ∀ (s' : Shared) (l' : List (Addr × Obj)) (Q' : Value → Shared → Prop), News h₀ L s'.heap l' → (∀ p ∈ news, p ∈ l') → Q' (.ref I) s' → wpAny (model prog w) A (pyIter (.ref I)) Q' NoE s' :=
  fun s' l' Q' N hs hQ => Y.it.2 A s' Q' (N _ (hs _ hm)).1 hQ
theorem comp_start_y {elt t1 i1 t2 i2 : PySem.Expr} {ifs : List PySem.Expr} {scope : Scope} {pos : Pos} {acc : Value} {xs : List (Tok → Value)} {env : Env} {R : Result → Shared → Prop} (Y : Yields prog w sub I xs io) (N : News h₀ L s.heap news) (hI : (I, io) ∈ news)
    (h0 : CompAt prog w A (.ListComp elt [⟨t1, i1, [], 0⟩, ⟨t2, i2, ifs, 0⟩] scope pos) 1 (.ref I) acc env R s) :
    codeAny (model prog w) A (.compStart (.ListComp elt [⟨t1, i1, [], 0⟩, ⟨t2, i2, ifs, 0⟩] scope pos) 1 (.ref I) acc env) R s := comp_start h0 fun Q hQ => Y.it.2 A s Q (N _ hI).1 hQ
/-- a block's loop that lays one value for each of the iterator's, and makes nothing else -/
theorem comp_map {C D : Addr} {m₂ : Str → Option Value} {scope : Scope} {cl : List (Str × Addr)} {env : Env} {e elt : PySem.Expr} {dep : Nat} {y : Str} {py : Pos} {R : Result → Shared → Prop} {rest : List (Addr × Obj)} (Rv : (Tok → Value) → Value → Prop)
    (hT : ∀ s, wpAny (model prog w) A (pyNext (.ref I)) (fun r s₁ => match r with
      | none => R (.ok .next) s₁
      | some v => wpAny (model prog w) A (letOwnedTupleGo (.Name y py) (.ref I) v) (fun _ s₂ => wpAny (model prog w) A (assign (.Name y py) (compEnvC scope cl C env) v) (fun _ s₃ =>
          wpAny (model prog w) A (eval elt (compEnvC scope cl C env)) (fun x s₄ => wpAny (model prog w) A (call (.builtin "list.append") [.ref D, x]) (fun _ s₅ =>
            CompAt prog w A e dep (.ref I) (.ref D) (compEnvC scope cl C env) R s₅) NoE s₄) NoE s₃) NoE s₂) NoE s₁) NoE s → CompAt prog w A e dep (.ref I) (.ref D) (compEnvC scope cl C env) R s)
    (hh : A.handled = none) (hl : (compEnvC scope cl C env).kindOf y = some .local)
    (hp : ((compEnvC scope cl C env).scope.kind == .class || ((compEnvC scope cl C env).scope.kind == .module && (compEnvC scope cl C env).locals != (compEnvC scope cl C env).globals)) = false)
    (hIC : I ≠ C) (hID : I ≠ D) (hCD : C ≠ D) (h1 : ∀ p ∈ rest, p.1 ≠ I) (h2 : ∀ p ∈ rest, p.1 ≠ C) (h3 : ∀ p ∈ rest, p.1 ≠ D) (hsub : ∀ p ∈ sub, p ∈ rest) :
    ∀ (xs : List (Tok → Value)) (io : Obj) (acc : List Value) (n : Nat) (oC : Obj) (m₃ : Str → Option Value) (s : Shared), Yields prog w sub I xs io → LCg.NsObj oC m₃ → (∀ z, z ≠ y → m₃ z = m₂ z) → Fr h₀ L s.heap m → News h₀ L s.heap ((I, io) :: (C, oC) :: (D, listO acc n) :: rest) → acc.length + xs.length < 2 ^ 20 →
    (∀ x ∈ xs, ∀ t oC' io' acc' n' m₃ h tk (Q : Value → Shared → Prop), LCg.NsObj oC' m₃ → m₃ y = some (x t) → (∀ z, z ≠ y → m₃ z = m₂ z) → Fr h₀ L h m → News h₀ L h ((I, io') :: (C, oC') :: (D, listO acc' n') :: rest) →
      (∀ v h' tk', Rv x v → Fr h₀ L h' m → News h₀ L h' ((I, io') :: (C, oC') :: (D, listO acc' n') :: rest) → Q v { s with heap := h', toks := tk' }) →
      wpAny (model prog w) A (eval elt (compEnvC scope cl C env)) Q NoE { s with heap := h, toks := tk }) →
    (∀ ys oC' n' m₃ h' tk', Paired Rv xs ys → LCg.NsObj oC' m₃ → (∀ z, z ≠ y → m₃ z = m₂ z) → Fr h₀ L h' m → News h₀ L h' ((C, oC') :: (D, listO (acc ++ ys) n') :: rest) → R (.ok .next) { s with heap := h', toks := tk' }) →
    CompAt prog w A e dep (.ref I) (.ref D) (compEnvC scope cl C env) R s
  | [], io, acc, n, oC, m₃, s, Y, hC, hm, F, N, hz, helt, hfin => by
    refine hT s (yi_end Y hh F N (.head ?_) (fun p hp => List.Mem.tail _ (List.Mem.tail _ (List.Mem.tail _ (hsub p hp)))) fun h' F' N' => ?_)
    · intro p hp
      rcases List.mem_cons.mp hp with rfl | hp
      · exact Ne.symm hIC
      · rcases List.mem_cons.mp hp with rfl | hp
        · exact Ne.symm hID
        · exact h1 p hp
    · exact hfin [] oC n m₃ h' s.toks .nil hC hm F' (by rw [List.append_nil]; exact N')
  | x :: r, io, acc, n, oC, m₃, s, Y, hC, hm, F, N, hz, helt, hfin => by
    have u1 : ∀ p ∈ ((C, oC) :: (D, listO acc n) :: rest : List (Addr × Obj)), p.1 ≠ I := by
      intro p hp
      rcases List.mem_cons.mp hp with rfl | hp
      · exact Ne.symm hIC
      · rcases List.mem_cons.mp hp with rfl | hp
        · exact Ne.symm hID
        · exact h1 p hp
    have u2 : ∀ p ∈ ((D, listO acc n) :: rest : List (Addr × Obj)), p.1 ≠ C := by
      intro p hp
      rcases List.mem_cons.mp hp with rfl | hp
      · exact Ne.symm hCD
      · exact h2 p hp
    refine hT s (yi_next Y hh F N (.head u1) (fun p hp => List.Mem.tail _ (List.Mem.tail _ (List.Mem.tail _ (hsub p hp)))) fun io' h' tk t Y' F' N' => ?_)
    refine yi_own Y' N' (List.Mem.head _) ?_
    refine comp_store F' N' (.tail hIC (.head u2)) hC hl hp fun oC' h'' hC' F'' N'' => ?_
    refine helt x (List.Mem.head _) t oC' io' acc n _ h'' _ _ hC' (if_pos rfl) (fun z hz => (if_neg hz).trans (hm z hz)) F'' N'' fun v h3' tk3 hv F3 N3 => ?_
    refine append_r F3 N3 (.tail hID (.tail hCD (.head h3))) (by simp only [List.length_cons] at hz; k_extra "om") fun h4 F4 N4 => ?_
    refine comp_map Rv hT hh hl hp hIC hID hCD h1 h2 h3 hsub r io' (acc ++ [v]) (n + 1) oC' _ _ Y' hC' (fun z hz => (if_neg hz).trans (hm z hz)) F4 N4 (by simp only [List.length_append, List.length_cons, List.length_nil] at hz ⊢; k_extra "om") ?_ ?_
    · intro x' hx' t' oC9 io9 acc9 n9 m9 h9 tk9 Q9 a1 a2 a3 a4 a5 a6
      exact helt x' (List.Mem.tail _ hx') t' oC9 io9 acc9 n9 m9 h9 tk9 Q9 a1 a2 a3 a4 a5 a6
    · intro ys oC9 n9 m9 h9 tk9 a1 a2 a3 a4 a5
      exact hfin (v :: ys) oC9 n9 m9 h9 tk9 (.cons hv a1) a2 a3 a4 (by rw [show acc ++ v :: ys = acc ++ [v] ++ ys by simp]; exact a5)
theorem comp_map_r {C D : Addr} {oC : Obj} {m₂ : Str → Option Value} {scope : Scope} {cl : List (Str × Addr)} {env : Env} {e elt : PySem.Expr} {dep : Nat} {y : Str} {py : Pos} {R : Result → Shared → Prop} {r1 r2 rest : List (Addr × Obj)} {xs : List (Tok → Value)} {acc : List Value} {n : Nat} (Rv : (Tok → Value) → Value → Prop)
    (hT : ∀ s, wpAny (model prog w) A (pyNext (.ref I)) (fun r s₁ => match r with
      | none => R (.ok .next) s₁
      | some v => wpAny (model prog w) A (letOwnedTupleGo (.Name y py) (.ref I) v) (fun _ s₂ => wpAny (model prog w) A (assign (.Name y py) (compEnvC scope cl C env) v) (fun _ s₃ =>
          wpAny (model prog w) A (eval elt (compEnvC scope cl C env)) (fun x s₄ => wpAny (model prog w) A (call (.builtin "list.append") [.ref D, x]) (fun _ s₅ =>
            CompAt prog w A e dep (.ref I) (.ref D) (compEnvC scope cl C env) R s₅) NoE s₄) NoE s₃) NoE s₂) NoE s₁) NoE s → CompAt prog w A e dep (.ref I) (.ref D) (compEnvC scope cl C env) R s)
    (hh : A.handled = none) (hl : (compEnvC scope cl C env).kindOf y = some .local)
    (hp : ((compEnvC scope cl C env).scope.kind == .class || ((compEnvC scope cl C env).scope.kind == .module && (compEnvC scope cl C env).locals != (compEnvC scope cl C env).globals)) = false)
    (F : Fr h₀ L s.heap m) (N : News h₀ L s.heap news) (U1 : RemF I io news r1) (U2 : RemF C oC r1 r2) (U3 : RemF D (listO acc n) r2 rest) (Y : Yields prog w sub I xs io) (hC : LCg.NsObj oC m₂) (hsub : ∀ p ∈ sub, p ∈ rest) (hz : acc.length + xs.length < 2 ^ 20)
    (helt : ∀ x ∈ xs, ∀ t oC' io' acc' n' m₃ h tk (Q : Value → Shared → Prop), LCg.NsObj oC' m₃ → m₃ y = some (x t) → (∀ z, z ≠ y → m₃ z = m₂ z) → Fr h₀ L h m → News h₀ L h ((I, io') :: (C, oC') :: (D, listO acc' n') :: rest) →
      (∀ v h' tk', Rv x v → Fr h₀ L h' m → News h₀ L h' ((I, io') :: (C, oC') :: (D, listO acc' n') :: rest) → Q v { s with heap := h', toks := tk' }) →
      wpAny (model prog w) A (eval elt (compEnvC scope cl C env)) Q NoE { s with heap := h, toks := tk })
    (hfin : ∀ ys oC' n' m₃ h' tk', Paired Rv xs ys → LCg.NsObj oC' m₃ → (∀ z, z ≠ y → m₃ z = m₂ z) → Fr h₀ L h' m → News h₀ L h' ((C, oC') :: (D, listO (acc ++ ys) n') :: rest) → R (.ok .next) { s with heap := h', toks := tk' }) :
    CompAt prog w A e dep (.ref I) (.ref D) (compEnvC scope cl C env) R s := by
  have hC1 := remF_mem U2
  have hD2 := remF_mem U3
  have hD1 := remF_sub U2 _ hD2
  refine comp_map Rv hT hh hl hp (Ne.symm (remF_ne U1 _ hC1)) (Ne.symm (remF_ne U1 _ hD1)) (Ne.symm (remF_ne U2 _ hD2)) (fun p q => remF_ne U1 p (remF_sub U2 p (remF_sub U3 p q))) (fun p q => remF_ne U2 p (remF_sub U3 p q)) (fun p q => remF_ne U3 p q) hsub xs io acc n oC m₂ s Y hC (fun _ _ => rfl) F ?_ hz helt hfin
  intro p hp
  rcases List.mem_cons.mp hp with rfl | hp
  · exact N _ (remF_mem U1)
  · rcases List.mem_cons.mp hp with rfl | hp
    · exact N _ (remF_sub U1 _ hC1)
    · rcases List.mem_cons.mp hp with rfl | hp
      · exact N _ (remF_sub U1 _ hD1)
      · exact N _ (remF_sub U1 _ (remF_sub U2 _ (remF_sub U3 _ hp)))
noncomputable abbrev cV (vs : List Value) : List (Tok → Value) := vs.map fun v _ => v
theorem yields_list {l : Addr} {vs : List Value} {n : Nat} (hl : (l, listO vs n) ∈ sub) : ∀ (xs : List Value) (i : Nat) (io : Obj), vs.drop i = xs → LiIs io l i → Yields prog w sub I (cV xs) io
  | [], i, io, hx, hi => by
    refine ⟨⟨⟨_, _, hi.1, hi.2, by decide⟩, fun A s Q hg hQ => wpAny_pyIter_listiter (l := l) (i := i) ⟨io, hg, hi.1, hi.2⟩ hQ⟩, fun A h₀ L m s news nx Q hh F N U hs h => ?_⟩
    have hlen : vs.length ≤ i := by have := List.drop_eq_nil_iff.mp hx; k_extra "om"
    exact li_end hh F N U hi (hs _ hl) hlen h
  | x :: r, i, io, hx, hi => by
    have hlt : i < vs.length := by
      rcases Nat.lt_or_ge i vs.length with h | h
      · exact h
      · rw [List.drop_eq_nil_of_le h] at hx; cases hx
    rw [List.drop_eq_getElem_cons hlt] at hx
    injection hx with h1 h2
    refine ⟨⟨⟨_, _, hi.1, hi.2, by decide⟩, fun A s Q hg hQ => wpAny_pyIter_listiter (l := l) (i := i) ⟨io, hg, hi.1, hi.2⟩ hQ⟩, fun A h₀ L m s news g Q hh F N U hs h => ?_⟩
    refine li_next F N U hi (hs _ hl) (by rw [List.getElem?_eq_getElem hlt, h1]) fun io' h' hi' F' N' => ?_
    exact h io' h' s.toks 0 (yields_list hl r (i + 1) io' h2 hi') F' N'
/-- a tuple's iterator -/
noncomputable def TiIs (o : Obj) (l : Addr) (i : Nat) : Prop := o.cls = .type "tuple_iterator" ∧ o.data = .fields #[.ref l, .int i 0]
theorem yields_tup {l : Addr} {vs : List Value} (hl : (l, tupO vs) ∈ sub) : ∀ (xs : List Value) (i : Nat) (io : Obj), vs.drop i = xs → TiIs io l i → Yields prog w sub I (cV xs) io
  | [], i, io, hx, hi => by
    refine ⟨⟨⟨_, _, hi.1, hi.2, by decide⟩, fun A s Q hg hQ => wpAny_pyIter_tupleiter (t := l) (i := i) ⟨io, hg, hi.1, hi.2⟩ hQ⟩, fun A h₀ L m s news nx Q hh F N U hs h => ?_⟩
    have hlen : vs.length ≤ i := by have := List.drop_eq_nil_iff.mp hx; k_extra "om"
    have hI := remF_mem U
    refine wpAny_pyNext_tuple_end hh ⟨io, (N (I, io) hI).1, hi.1, hi.2⟩ (News.isTup N (hs _ hl)) (by simpa using hlen) fun h' hs' => ?_
    obtain ⟨F', N'⟩ := news_lost F N hI hs' (remF_sub U) (remF_ne U)
    exact h h' F' N'
  | x :: r, i, io, hx, hi => by
    have hlt : i < vs.length := by
      rcases Nat.lt_or_ge i vs.length with h | h
      · exact h
      · rw [List.drop_eq_nil_of_le h] at hx; cases hx
    rw [List.drop_eq_getElem_cons hlt] at hx
    injection hx with h1 h2
    refine ⟨⟨⟨_, _, hi.1, hi.2, by decide⟩, fun A s Q hg hQ => wpAny_pyIter_tupleiter (t := l) (i := i) ⟨io, hg, hi.1, hi.2⟩ hQ⟩, fun A h₀ L m s news g Q hh F N U hs h => ?_⟩
    refine wpAny_pyNext_tuple_item ⟨io, (N (I, io) (updF_mem U)).1, hi.1, hi.2⟩ (News.isTup N (hs _ hl)) (x := x) (by simp [List.getElem?_eq_getElem hlt, h1]) fun h' ⟨io', ho', hc', hd'⟩ hs' => ?_
    obtain ⟨F', N'⟩ := news_turn F N U hs' ho'
    exact h io' h' s.toks 0 (yields_tup hl r (i + 1) io' h2 ⟨hc', hd'⟩) F' N'
/-- a text's iterator -/
noncomputable def SiIs (o : Obj) (x : Str) (t : Tok) (i : Nat) : Prop := o.cls = .type (strIterType x) ∧ o.data = .fields #[.str x t, .int i 0]
noncomputable abbrev cS (l : List Nat) : List (Tok → Value) := l.map fun c t => .str ⟨#[c]⟩ t
theorem yields_str {x : Str} {t : Tok} : ∀ (xs : List Nat) (i : Nat) (io : Obj), x.cps.toList.drop i = xs → SiIs io x t i → Yields prog w sub I (cS xs) io
  | [], i, io, hx, hi => by
    have hlen : x.cps.size ≤ i := by have := List.drop_eq_nil_iff.mp hx; simpa using this
    cases ha : x.cps.all (· < 128) with
    | false =>
      have hc : io.cls = .type "str_iterator" := by rw [hi.1, strIterType, ha]; rfl
      refine ⟨⟨⟨_, _, hc, hi.2, by decide⟩, fun A s Q hg hQ => wpAny_pyIter_striter_wide (x := x) (t := t) (i := i) ⟨io, hg, hc, hi.2⟩ hQ⟩, fun A h₀ L m s news nx Q hh F N U hs h => ?_⟩
      have hI := remF_mem U
      refine wpAny_pyNext_wide_end hh ⟨io, (N (I, io) hI).1, hc, hi.2⟩ (by simpa using hlen) fun h' hs' => ?_
      obtain ⟨F', N'⟩ := news_lost F N hI hs' (remF_sub U) (remF_ne U)
      exact h h' F' N'
    | true =>
      have hc : io.cls = .type "str_ascii_iterator" := by rw [hi.1, strIterType, ha]; rfl
      refine ⟨⟨⟨_, _, hc, hi.2, by decide⟩, fun A s Q hg hQ => wpAny_pyIter_striter_ascii (x := x) (t := t) (i := i) ⟨io, hg, hc, hi.2⟩ hQ⟩, fun A h₀ L m s news nx Q hh F N U hs h => ?_⟩
      have hI := remF_mem U
      refine wpAny_pyNext_ascii_end hh ⟨io, (N (I, io) hI).1, hc, hi.2⟩ (by simpa using hlen) fun h' hs' => ?_
      obtain ⟨F', N'⟩ := news_lost F N hI hs' (remF_sub U) (remF_ne U)
      exact h h' F' N'
  | c :: r, i, io, hx, hi => by
    have hlt : i < x.cps.toList.length := by
      rcases Nat.lt_or_ge i x.cps.toList.length with h | h
      · exact h
      · rw [List.drop_eq_nil_of_le h] at hx; cases hx
    rw [List.drop_eq_getElem_cons hlt] at hx
    injection hx with h1 h2
    have hc9 : x.cps[i]? = some c := by rw [← Array.getElem?_toList, List.getElem?_eq_getElem hlt, h1]
    cases ha : x.cps.all (· < 128) with
    | false =>
      have hc : io.cls = .type "str_iterator" := by rw [hi.1, strIterType, ha]; rfl
      refine ⟨⟨⟨_, _, hc, hi.2, by decide⟩, fun A s Q hg hQ => wpAny_pyIter_striter_wide (x := x) (t := t) (i := i) ⟨io, hg, hc, hi.2⟩ hQ⟩, fun A h₀ L m s news g Q hh F N U hs h => ?_⟩
      refine wpAny_pyNext_wide_item ⟨io, (N (I, io) (updF_mem U)).1, hc, hi.2⟩ hc9 fun h' ⟨io', ho', hc', hd'⟩ hs' => ?_
      obtain ⟨F', N'⟩ := news_turn F N U hs' ho'
      exact h io' h' _ s.toks (yields_str r (i + 1) io' h2 ⟨by rw [hc', strIterType, ha]; rfl, hd'⟩) F' N'
    | true =>
      have hc : io.cls = .type "str_ascii_iterator" := by rw [hi.1, strIterType, ha]; rfl
      refine ⟨⟨⟨_, _, hc, hi.2, by decide⟩, fun A s Q hg hQ => wpAny_pyIter_striter_ascii (x := x) (t := t) (i := i) ⟨io, hg, hc, hi.2⟩ hQ⟩, fun A h₀ L m s news g Q hh F N U hs h => ?_⟩
      refine wpAny_pyNext_ascii_item ⟨io, (N (I, io) (updF_mem U)).1, hc, hi.2⟩ hc9 fun h' ⟨io', ho', hc', hd'⟩ hs' => ?_
      obtain ⟨F', N'⟩ := news_turn F N U hs' ho'
      exact h io' h' _ s.toks (yields_str r (i + 1) io' h2 ⟨by rw [hc', strIterType, ha]; rfl, hd'⟩) F' N'
/-- the iterators made -/
theorem mk_iter_list {l : Addr} {vs : List Value} {n : Nat} {Q : Value → Shared → Prop} (F : Fr h₀ L s.heap m) (N : News h₀ L s.heap news) (hl : (l, listO vs n) ∈ news)
    (h : ∀ I h' io, Yields prog w [(l, listO vs n)] I (cV vs) io → Fr h₀ L h' m → News h₀ L h' ((I, io) :: news) → (∀ p ∈ news, p.1 < I) → Q (.ref I) { s with heap := h' }) : wpAny (model prog w) A (pyIter (.ref l)) Q E s :=
  li_iter F N hl fun I h' io hi F' N' hlt => h I h' io (yields_list (List.Mem.head _) vs 0 io rfl hi) F' N' hlt
theorem mk_iter_tup {l : Addr} {vs : List Value} {Q : Value → Shared → Prop} (F : Fr h₀ L s.heap m) (N : News h₀ L s.heap news) (hl : (l, tupO vs) ∈ news)
    (h : ∀ I h' io, Yields prog w [(l, tupO vs)] I (cV vs) io → Fr h₀ L h' m → News h₀ L h' ((I, io) :: news) → (∀ p ∈ news, p.1 < I) → Q (.ref I) { s with heap := h' }) : wpAny (model prog w) A (pyIter (.ref l)) Q E s :=
  wpAny_pyIter_tuple (News.isTup N hl) (h _ _ _ (yields_tup (List.Mem.head _) vs 0 _ rfl ⟨rfl, rfl⟩) (F.push _) (News.push F N _ rfl) fun p hp => Heap.lt_size (N p hp).1)
theorem mk_iter_str {x : Str} {t : Tok} {Q : Value → Shared → Prop} (F : Fr h₀ L s.heap m) (N : News h₀ L s.heap news)
    (h : ∀ I h' io, Yields prog w [] I (cS x.cps.toList) io → Fr h₀ L h' m → News h₀ L h' ((I, io) :: news) → (∀ p ∈ news, p.1 < I) → Q (.ref I) { s with heap := h' }) : wpAny (model prog w) A (pyIter (.str x t)) Q E s :=
  wpAny_pyIter_strU (h _ _ _ (yields_str (t := t) x.cps.toList 0 _ rfl ⟨rfl, rfl⟩) (F.push _) (News.push F N _ rfl) fun p hp => Heap.lt_size (N p hp).1)
end
theorem ints_cV {x : Tok → Value} : ∀ {vs : List Value} {ns : List Int}, IntsAre vs ns → x ∈ cV vs → ∃ k t0, k ∈ ns ∧ x = fun _ => .int k t0
  | _, _, .nil, hx => nomatch hx
  | _, _, .cons k t0 r, hx => by
    rcases List.mem_cons.mp hx with rfl | hx
    · exact ⟨k, t0, List.Mem.head _, rfl⟩
    · obtain ⟨k, t0, hk, e⟩ := ints_cV r hx
      exact ⟨k, t0, List.Mem.tail _ hk, e⟩
/-- signs of one figure each -/
inductive SigAre : List Value → List Nat → Prop
  | nil : SigAre [] []
  | cons (c : Nat) (t : Tok) {vs : List Value} {l : List Nat} : SigAre vs l → SigAre (.str ⟨#[c]⟩ t :: vs) (c :: l)
theorem SigAre.append {vs ws : List Value} {l k : List Nat} (h : SigAre vs l) (g : SigAre ws k) : SigAre (vs ++ ws) (l ++ k) := by
  induction h with
  | nil => exact g
  | cons c t _ ih => exact .cons c t ih
theorem SigAre.length {vs : List Value} {l : List Nat} (h : SigAre vs l) : vs.length = l.length := by
  induction h with
  | nil => rfl
  | cons c t _ ih => simp [ih]
theorem paired_chr : ∀ {vs ys : List Value} {ns : List Int}, IntsAre vs ns → Paired (fun x v => ∃ k t0 t1, (∀ t, x t = .int k t0) ∧ v = .str ⟨#[k.toNat]⟩ t1) (cV vs) ys → SigAre ys (ns.map Int.toNat)
  | _, _, _, .nil, .nil => .nil
  | _, _, _, .cons k t0 r, .cons ⟨k', t0', t1, e, e2⟩ p => by
    have := e 0
    cases this
    subst e2
    exact .cons _ _ (paired_chr r p)
theorem inner_ok {prog : Program} {w : World} {A : Around} {e : PySem.Expr} {it acc : Value} {env : Env} {R : Result → Shared → Prop} {f : Flow} {s : Shared} (h : CompAt prog w A e 0 it acc env R s) : InnerEnd prog w A e it acc env R (.ok f) s := h
theorem off_of {m₃ m₂ : Str → Option Value} {y z : Str} (h : ∀ z, z ≠ y → m₃ z = m₂ z) (hz : z ≠ y) : m₃ z = m₂ z := h z hz
theorem sig_cV {x : Tok → Value} : ∀ {vs : List Value} {l : List Nat}, SigAre vs l → x ∈ cV vs → ∃ c t0, c ∈ l ∧ x = fun _ => .str ⟨#[c]⟩ t0
  | _, _, .nil, hx => nomatch hx
  | _, _, .cons c t0 r, hx => by
    rcases List.mem_cons.mp hx with rfl | hx
    · exact ⟨c, t0, List.Mem.head _, rfl⟩
    · obtain ⟨k, t0, hk, e⟩ := sig_cV r hx
      exact ⟨k, t0, List.Mem.tail _ hk, e⟩
end
section
/-- texts by their figures -/
inductive TxAre : List Value → List (List Nat) → Prop
  | nil : TxAre [] []
  | cons (l : List Nat) (t : Tok) {vs : List Value} {ls : List (List Nat)} : TxAre vs ls → TxAre (.str ⟨l.toArray⟩ t :: vs) (l :: ls)
theorem TxAre.values {vs : List Value} {ls : List (List Nat)} (h : TxAre vs ls) : ∃ l : List (Str × Tok), strValues l = vs ∧ l.map (·.1) = ls.map fun x => (⟨x.toArray⟩ : Str) := by
  induction h with
  | nil => exact ⟨[], rfl, rfl⟩
  | cons l t _ ih =>
    obtain ⟨r, e1, e2⟩ := ih
    refine ⟨(⟨l.toArray⟩, t) :: r, ?_, ?_⟩
    · show Value.str ⟨l.toArray⟩ t :: strValues r = _
      rw [e1]
    · simp only [List.map_cons, e2]
theorem str_app (a b : List Nat) : (⟨a.toArray⟩ : Str) ++ (⟨b.toArray⟩ : Str) = ⟨(a ++ b).toArray⟩ := by
  show Str.mk (a.toArray ++ b.toArray) = _
  rw [List.append_toArray]
theorem str_none : Str.ofString "" = ⟨([] : List Nat).toArray⟩ := by decide +kernel
theorem glue_fold : ∀ (ls : List (List Nat)) (acc : List Nat), (ls.map fun x => (⟨x.toArray⟩ : Str)).foldl (fun (acc : Array Nat) (p : Str) => acc ++ (Str.ofString "").cps ++ p.cps) acc.toArray = (acc ++ ls.flatten).toArray
  | [], acc => by simp
  | x :: r, acc => by
    rw [List.map_cons, List.foldl_cons]
    have e : acc.toArray ++ (Str.ofString "").cps ++ (⟨x.toArray⟩ : Str).cps = (acc ++ x).toArray := by
      rw [str_none]
      simp
    rw [e, glue_fold r]
    simp
theorem join_flat : ∀ ls : List (List Nat), Txt.join (Str.ofString "") (ls.map fun x => (⟨x.toArray⟩ : Str)) = ⟨ls.flatten.toArray⟩
  | [] => rfl
  | x :: r => by
    show Str.mk ((r.map fun x => (⟨x.toArray⟩ : Str)).foldl (fun (acc : Array Nat) (p : Str) => acc ++ (Str.ofString "").cps ++ p.cps) x.toArray) = _
    rw [glue_fold]
    rfl
section
variable {prog : Program} {w : World} {A : Around} {E : Value → Shared → Prop} {s : Shared} {h₀ : Heap} {L D : Addr} {news : List (Addr × Obj)} {n : Nat}
theorem join_r {vs : List Value} {ls : List (List Nat)} {t : Tok} {Q : Value → Shared → Prop} (N : News h₀ L s.heap news) (hm : (D, listO vs n) ∈ news) (h : TxAre vs ls) (hb : ∀ l ∈ ls, l.length ≤ 1000) (hz : ls.length ≤ 1000)
    (hq : ∀ t' k, Q (.str ⟨ls.flatten.toArray⟩ t') { s with toks := k }) : wpAny (model prog w) A (call (.builtin "str.join") [.str (Str.ofString "") t, .ref D]) Q E s := by
  obtain ⟨l, e1, e2⟩ := h.values
  subst e1
  refine PySem.SC.join (News.isList N hm) e2 ?_ ?_
  · unfold JoinOk
    rw [StrLaws.joinFits (B := 1000)]
    · rfl
    · intro y hy
      obtain ⟨x, hx, rfl⟩ := List.mem_map.mp hy
      exact hb x hx
    · have e : (Str.ofString "").length = 0 := by decide +kernel
      rw [e, List.length_map]
      k_extra "om"
  · intro t' k
    have := hq t' k
    rw [← join_flat] at this
    exact this
end
theorem paired_tx (f : Nat → List Nat) : ∀ {vs ys : List Value} {l : List Nat}, SigAre vs l → Paired (fun x v => ∃ c t0 t1, (∀ t, x t = Value.str ⟨#[c]⟩ t0) ∧ v = .str ⟨(f c).toArray⟩ t1) (cV vs) ys → TxAre ys (l.map f)
  | _, _, _, .nil, .nil => .nil
  | _, _, _, .cons c t0 r, .cons ⟨k', t0', t1, e, e2⟩ p => by
    have := e 0
    cases this
    subst e2
    exact .cons _ _ (paired_tx f r p)
theorem flat_le (f : Nat → List Nat) (hf : ∀ c, (f c).length ≤ 2) : ∀ l : List Nat, (l.map f).flatten.length ≤ 2 * l.length
  | [] => Nat.le_refl _
  | c :: r => by
    have := flat_le f hf r
    have := hf c
    simp only [List.map_cons, List.flatten_cons, List.length_append, List.length_cons]
    k_extra "om"
theorem add_r {prog : Program} {w : World} {A : Around} {E : Value → Shared → Prop} {s : Shared} {a b : List Nat} {t u : Tok} {Q : Value → Shared → Prop} (hz : a.length + b.length ≤ 10000) (h : ∀ t' tk, Q (.str ⟨(a ++ b).toArray⟩ t') { s with toks := tk }) : wpAny (model prog w) A (binaryOp .Add (.str ⟨a.toArray⟩ t) (.str ⟨b.toArray⟩ u)) Q E s := by
  refine add_str (fun t' tk => ?_) ?_
  · rw [str_app]
    exact h t' tk
  · show a.toArray.size + b.toArray.size ≤ sizeLine
    rw [List.size_toArray, List.size_toArray, sizeLine_eq]
    k_extra "om"
end
section
theorem SigAre.reverse {vs : List Value} {l : List Nat} (h : SigAre vs l) : SigAre vs.reverse l.reverse := by
  induction h with
  | nil => exact .nil
  | cons c t _ ih =>
    rw [List.reverse_cons, List.reverse_cons]
    exact ih.append (.cons c t .nil)
theorem sig_of_items {x : Str} {acc : Array Value} (h : ItemsOf (SignAt x) acc x.cps.size) : SigAre acc.toList x.cps.toList := by
  have key : ∀ (vs : List Value) (l : List Nat), vs.length = l.length → (∀ (j : Nat) (v : Value), vs[j]? = some v → ∃ (c : Nat) (t : Tok), l[j]? = some c ∧ v = Value.str ⟨#[c]⟩ t) → SigAre vs l := by
    intro vs
    induction vs with
    | nil =>
      intro l hl _
      cases l with
      | nil => exact .nil
      | cons a b => cases hl
    | cons v r ih =>
      intro l hl hg
      cases l with
      | nil => cases hl
      | cons a b =>
        obtain ⟨c, t, hc, rfl⟩ := hg 0 v rfl
        cases hc
        exact .cons _ _ (ih b (Nat.succ.inj hl) fun j v hj => by simpa using hg (j + 1) v (by simpa using hj))
  refine key _ _ (by simpa using h.1) fun j v hj => ?_
  obtain ⟨c, u, hc, rfl⟩ := h.2 j v (by simpa using hj)
  exact ⟨c, u, by simpa using hc, rfl⟩
theorem allLt_up {L d : Addr} : ∀ {l : List (Addr × Obj)}, AllLt L l → L ≤ d → AllLt d l
  | [], _, _ => trivial
  | q :: r, h, e => ⟨Nat.lt_of_lt_of_le h.1 e, allLt_up h.2 e⟩
theorem allLt_s {L : Addr} {l : List (Addr × Obj)} (h : AllLt L l) : AllLt (L + 1) l := allLt_up h (Nat.le_succ L)
theorem lt_all {news : List (Addr × Obj)} {L d : Addr} (h : ∀ p ∈ news, p.1 < L) (hd : L ≤ d) : ∀ p ∈ news, p.1 ≠ d := fun p hp => Nat.ne_of_lt (Nat.lt_of_lt_of_le (h p hp) hd)
section
variable {prog : Program} {w : World} {A : Around} {E : Value → Shared → Prop} {s : Shared} {h₀ : Heap} {L D l : Addr} {m : Str → Option Value} {news : List (Addr × Obj)} {n : Nat} {g : Obj → List (Addr × Obj)} {value slice : PySem.Expr}
theorem list_str_r {x : Str} {t : Tok} {Q : Value → Shared → Prop} (hh : A.handled = none) (F : Fr h₀ L s.heap m) (N : News h₀ L s.heap news) (hz : x.cps.size ≤ 1000)
    (h : ∀ D vs n h' tk, SigAre vs x.cps.toList → Fr h₀ L h' m → News h₀ L h' ((D, listO vs n) :: news) → (∀ p ∈ news, p.1 < D) → Q (.ref D) { s with heap := h', toks := tk }) :
    wpAny (model prog w) A (call (.type "list") [.str x t]) Q E s := by
  refine call_list_str hh x t (hn := by rw [sizeLine_eq]; k_extra "om") fun h' tk acc' c' hk hS' hacc => ?_
  refine h _ acc'.toList c' h' tk (sig_of_items hacc) (F.keeps hk) (news_pushed F N hk ?_ rfl) fun q hq => Heap.lt_size (N q hq).1
  simpa using hS'
theorem rev_r {vs : List Value} {vk : Value} {ops : List Value} {Q : Value → Shared → Prop} (F : Fr h₀ L s.heap m) (N : News h₀ L s.heap news) (hl : (l, listO vs n) ∈ news) (pk : IsPart vk (some (-1)))
    (h : ∀ D h', Fr h₀ L h' m → News h₀ L h' ((D, listO vs.reverse 0) :: news) → (∀ p ∈ news, p.1 < D) → Q (.ref D) { s with heap := h' })
    (hs : subscripted slice false (.ref l) (.ref s.heap.objs.size) = operate ops (getItem (.ref l) (.ref s.heap.objs.size))) (ht : ∀ r, letTemporaryGo value (.ref l) r = pure ()) (hz : vs.length ≤ 1000) :
    wpAny (model prog w) A (subscriptTail value slice (.ref l) (.ref s.heap.objs.size)) Q E { s with heap := s.heap.push { cls := .type "slice", data := .fields #[.none, .none, vk] } } :=
  krv_lit (its := vs.toArray) (zs := vs.reverse) F N (News.isList N hl) pk (by simp) h hs ht (by rw [List.size_toArray, sizeLine_eq]; k_extra "om")
theorem pop_r {us : List Value} {y : Value} {Q : Value → Shared → Prop} (F : Fr h₀ L s.heap m) (N : News h₀ L s.heap news) (U : UpdF D (listO (us ++ [y]) n) news g) (hz : us.length < 1000)
    (h : ∀ h', Fr h₀ L h' m → News h₀ L h' (g (listO us (n + 1))) → Q y { s with heap := h' }) : wpAny (model prog w) A (call (.builtin "list.pop") [.ref D]) Q E s :=
  kl_pop (its := (us ++ [y]).toArray) F N (by rw [List.toList_toArray]; exact kpa_last y us) (updF_upd U _) (by rw [sizeLine_eq]; simp; k_extra "om") h
theorem pop0_r {us : List Value} {y : Value} {k0 : Tok} {Q : Value → Shared → Prop} (F : Fr h₀ L s.heap m) (N : News h₀ L s.heap news) (U : UpdF D (listO (y :: us) n) news g) (hz : us.length < 1000)
    (h : ∀ h', Fr h₀ L h' m → News h₀ L h' (g (listO us (n + 1))) → Q y { s with heap := h' }) : wpAny (model prog w) A (call (.builtin "list.pop") [.ref D, .int 0 k0]) Q E s :=
  kl_popAt (k := 0) (p := []) (q := us) (y := y) (its := (y :: us).toArray) F N rfl (by simp [seqIndex?]) rfl (updF_upd U _) (by rw [sizeLine_eq]; simp; k_extra "om") h
theorem truthy_r {us : List Value} {y : Value} {Q : Bool → Shared → Prop} (N : News h₀ L s.heap news) (hm : (l, listO (us ++ [y]) n) ∈ news) (hz : us.length < 1000) (h : ∀ tk, Q true { s with toks := tk }) : wpAny (model prog w) A (truthy (.ref l)) Q E s := by
  refine wpAny_truthy_list (News.isList N hm) (by simp; k_extra "om") ?_
  have e : (!(us ++ [y]).toArray.isEmpty) = true := by simp
  rw [e]
  exact h _
end
end
section
/-- what a lexer's dict holds beside the line's number -/
structure LexT where
  (t0 t1 t2 t3 tw : Tok) (x1 pb : Addr)
noncomputable abbrev lexDict (w : World) (T : LexT) (ln : Int) (tl : Tok) : Obj := dictOf [
  { hash := PyData.keyHash w.params (Str.ofString "lineno"), key := .str (Str.ofString "lineno") T.t0, val := .int ln tl },
  { hash := PyData.keyHash w.params (Str.ofString "instream"), key := .str (Str.ofString "instream") T.t1, val := .ref T.x1 },
  { hash := PyData.keyHash w.params (Str.ofString "whitespace"), key := .str (Str.ofString "whitespace") T.t2, val := .str (Str.ofString "\n\t\r ") T.tw },
  { hash := PyData.keyHash w.params (Str.ofString "pushback"), key := .str (Str.ofString "pushback") T.t3, val := .ref T.pb }] 4
noncomputable abbrev streamDict (w : World) (t0 t1 t2 t3 t4 t5 tw : Tok) (pb f : Addr) (n : Nat) : Obj := dictOf [
  { hash := PyData.keyHash w.params (Str.ofString "lineno"), key := .str (Str.ofString "lineno") t0, val := .int 1 t5 },
  { hash := PyData.keyHash w.params (Str.ofString "instream"), key := .str (Str.ofString "instream") t1, val := .none },
  { hash := PyData.keyHash w.params (Str.ofString "whitespace"), key := .str (Str.ofString "whitespace") t2, val := .str (Str.ofString "\n\t\r ") tw },
  { hash := PyData.keyHash w.params (Str.ofString "pushback"), key := .str (Str.ofString "pushback") t3, val := .ref pb },
  { hash := PyData.keyHash w.params (Str.ofString "read"), key := .str (Str.ofString "read") t4, val := .ref f }] n
noncomputable def pieceS : Stmt := match topS 15 with
  | .FunctionDef _ _ b _ _ _ _ _ _ _ => nthS b 2
  | s => s
noncomputable def pieceFn (q : Str) (C : Addr) (doc pm : Value) (c' : Addr) (ctv : Value) : Obj := match pieceS with
  | .FunctionDef n ps b _ _ _ sc _ _ _ => fnMade n q ps b sc [(Str.ofString "signs", C)] doc pm c' ctv
  | _ => default
/-- what of a lexer and its stream stays as it is -/
inductive LexAt (w : World) (r : List (Addr × Obj)) (x d S : Addr) (T : LexT) : Prop
  | mk (d1 f c' C pb1 : Addr) (oc oC : Obj) (q : Str) (t0 t1 t2 t3 t4 t5 tw : Tok) (n1 : Nat) (vs : Array Value) (t9 : Tok) (doc pm ctv : Value)
    (a1 : (x, instObj 245 d) ∈ r) (a2 : (T.x1, instObj 245 d1) ∈ r) (a3 : (d1, streamDict w t0 t1 t2 t3 t4 t5 tw pb1 f n1) ∈ r) (a4 : (f, pieceFn q C doc pm c' ctv) ∈ r) (a5 : (c', oc) ∈ r) (a6 : (C, oC) ∈ r)
    (a7 : oc.data = .fields vs) (a8 : vs[1]? = some (.str q t9)) (a9 : oC.data = .cell (some (.ref S))) : LexAt w r x d S T
theorem LexAt.mono {w : World} {r r' : List (Addr × Obj)} {x d S : Addr} {T : LexT} (h : LexAt w r x d S T) (s : ∀ p ∈ r, p ∈ r') : LexAt w r' x d S T := by
  cases h with
  | mk d1 f c' C pb1 oc oC q t0 t1 t2 t3 t4 t5 tw n1 vs t9 doc pm ctv a1 a2 a3 a4 a5 a6 a7 a8 a9 => exact .mk d1 f c' C pb1 oc oC q t0 t1 t2 t3 t4 t5 tw n1 vs t9 doc pm ctv (s _ a1) (s _ a2) (s _ a3) (s _ a4) (s _ a5) (s _ a6) a7 a8 a9
/-- the signs that are left, the last first -/
noncomputable def LeftIs (vs : List Value) (l : List Nat) : Prop := SigAre vs.reverse l
theorem LeftIs.nil {vs : List Value} (h : LeftIs vs []) : vs = [] := by
  unfold LeftIs at h
  cases e : vs.reverse with
  | nil => simpa using e
  | cons a b => rw [e] at h; cases h
theorem LeftIs.cons {vs : List Value} {c : Nat} {l : List Nat} (h : LeftIs vs (c :: l)) : ∃ us t, vs = us ++ [.str ⟨#[c]⟩ t] ∧ LeftIs us l := by
  unfold LeftIs at h
  cases e : vs.reverse with
  | nil => rw [e] at h; cases h
  | cons a b =>
    rw [e] at h
    cases h with
    | cons c t h =>
      refine ⟨b.reverse, t, ?_, ?_⟩
      · have := congrArg List.reverse e
        rw [List.reverse_reverse, List.reverse_cons] at this
        exact this
      · unfold LeftIs
        rw [List.reverse_reverse]
        exact h
theorem LeftIs.length {vs : List Value} {l : List Nat} (h : LeftIs vs l) : vs.length = l.length := by
  have := SigAre.length h
  rwa [List.length_reverse] at this
/-- a call's end -/
noncomputable abbrev Ret (Q E : Value → Shared → Prop) : Result → Shared → Prop := fun r s' => match r with | .ok (.ret v) => Q v s' | .ok _ => False | .error e => E e s'
theorem any_borrowed {M : Model} {A : Around} {f : Value} {pos : List Value} {Q E : Value → Shared → Prop} {s : Shared} (hc : codeAny M A (.call f ⟨pos, []⟩) (Ret Q E) s) : wpAny M A (callBorrowed f pos) Q E s := fun Γ p hΓ => by
  have h := hc _ p rfl (hΓ.enter (.call f ⟨pos, []⟩) none p (by intro x; cases x))
  unfold callBorrowed
  rw [Sem.wp_call]
  refine Eq.mp ?_ h
  congr 1
  funext r s'
  cases r with
  | error e => rfl
  | ok f => cases f <;> rfl
theorem mem_head_eq {α : Type} {a b : α} {l : List α} (h : a = b) : a ∈ b :: l := h ▸ List.Mem.head _
theorem obj_ext {c c' : Value} {d d' : Option Addr} {e e' : Data} {x x' : Array (Option Value)} (h : c = c') (k : e = e') : ({ cls := c, data := e } : Obj) = { cls := c', data := e' } := by rw [h, k]
noncomputable def nl (c : Nat) : Int := if c = 10 then 1 else 0
noncomputable def nls : List Nat → Int
  | [] => 0
  | c :: l => nl c + nls l
theorem nls_append (l k : List Nat) : nls (l ++ k) = nls l + nls k := by
  induction l with
  | nil => show nls k = 0 + nls k; k_extra "om"
  | cons c l ih => show nl c + nls (l ++ k) = nl c + nls l + nls k; k_extra "om"
theorem nls_le (l : List Nat) : 0 ≤ nls l ∧ nls l ≤ (l.length : Int) := by
  induction l with
  | nil => exact ⟨Int.le_refl _, Int.le_refl _⟩
  | cons c l ih =>
    have e : nls (c :: l) = nl c + nls l := rfl
    have h : nl c = 1 ∨ nl c = 0 := by unfold nl; split <;> simp
    rw [e, List.length_cons]
    k_extra "om"
noncomputable def qf (c : Nat) : List Nat := if c = 34 ∨ c = 92 then [92, c] else [c]
noncomputable def bf (c : Nat) : List Nat := [92, c]
theorem lex_fin {h₀ h : Heap} {L : Addr} {news : List (Addr × Obj)} {a0 a1 a2 a3 a4 a5 a6 a7 a8 a9 a10 a11 : Addr × Obj} (N : News h₀ L h (a0 :: a1 :: a2 :: a3 :: a4 :: a5 :: a6 :: a7 :: a8 :: a9 :: a10 :: a11 :: news)) :
    News h₀ L h (a0 :: a2 :: a8 :: a1 :: a3 :: a4 :: a5 :: a6 :: a7 :: a9 :: a10 :: a11 :: news) := fun p hp => by
  apply N
  simp only [List.mem_cons] at hp ⊢
  rcases hp with h | h | h | h | h | h | h | h | h | h | h | h | h <;> simp [h]
end
section
theorem map_is {m₀ m' : Str → Option Value} {stored : List Str} (ho : Off stored m₀ m') : ∀ {ps : List (Str × Value)}, Has m' ps → m' = kstB (fun z => if stored.contains z then m' z else m₀ z) ps
  | [], _ => by
    funext z
    show m' z = if stored.contains z = true then m' z else m₀ z
    cases hz : stored.contains z with
    | true => rw [if_pos rfl]
    | false => rw [if_neg Bool.false_ne_true]; exact ho z hz
  | p :: r, hk => by
    have ih := map_is ho (ps := r) (fun q hq => hk q (.tail _ hq))
    funext z
    show m' z = if z = p.1 then some p.2 else kstB (fun z => if stored.contains z then m' z else m₀ z) r z
    by_cases h : z = p.1
    · rw [if_pos h, h]; exact hk p (.head _)
    · rw [if_neg h]; exact congrFun ih z
section
variable {prog : Program} {w : World} {A : Around} {E : Value → Shared → Prop} {Q : Flow → Shared → Prop} {s : Shared} {env : Env} {h₀ : Heap} {L : Addr}
theorem for_r {σ : Type} {target : Expr} {it : Value} {body : List Stmt} {m₀ : Str → Option Value} {nx : List (Addr × Obj)} (Led : σ → List (Addr × Obj)) (ps : σ → List (Str × Value)) (stored : List Str) (I : σ → Prop) (μ : σ → Nat) (c₀ : σ)
    (F : Fr h₀ L s.heap m₀) (N : News h₀ L s.heap nx) (hn : ∀ p ∈ Led c₀, p ∈ nx) (hk : Has m₀ (ps c₀)) (hp : I c₀)
    (turn : ∀ (c : σ) (u : Str → Option Value) h tk, I c → Fr h₀ L h (kstB (fun z => if stored.contains z then u z else m₀ z) (ps c)) → News h₀ L h (Led c) →
      wpAny (model prog w) A (pyNext it) (fun r s₁ => match r with
        | none => Q .next s₁
        | some v => wpAny (model prog w) A (letOwnedTupleGo target it v) (fun _ s₂ => wpAny (model prog w) A (assign target env v) (fun _ s₃ =>
          wpAny (model prog w) A (execs body env) (WPost h₀ L s Led ps stored m₀ (fun c' => I c' ∧ μ c' < μ c) Q) E s₃) E s₂) E s₁) E { s with heap := h, toks := tk })
    (hE : PassesOwn (model prog w) A env E := by passes_own) :
    ForAt prog w A env target it body Q E s := by
  have key : ∀ (n : Nat) (c : σ) (m' : Str → Option Value) (h : Heap) (tk : Nat) (nx : List (Addr × Obj)), μ c < n → I c → Fr h₀ L h m' → News h₀ L h nx → (∀ p ∈ Led c, p ∈ nx) → Has m' (ps c) → Off stored m₀ m' →
      ForAt prog w A env target it body Q E { s with heap := h, toks := tk } := by
    intro n
    induction n with
    | zero => intro c m' h tk nx hlt; exact absurd hlt (Nat.not_lt_zero _)
    | succ n ih =>
      intro c m' h tk nx hlt hI F₁ N₁ hn₁ hk₁ ho₁
      rw [map_is ho₁ hk₁] at F₁
      refine for_turn (wpAny_mono (turn c m' h tk hI F₁ (fun p hp => N₁ p (hn₁ p hp))) (fun r s₁ h₁ => ?_) fun _ _ x => x) hE
      cases r with
      | none => exact h₁
      | some v =>
        refine wpAny_mono h₁ (fun _ s₂ h₂ => wpAny_mono h₂ (fun _ s₃ h₃ => wpAny_mono h₃ (fun f s₄ h₄ => ?_) fun _ _ x => x) fun _ _ x => x) fun _ _ x => x
        have fin : WEnd h₀ L s Led ps stored m₀ (fun c' => I c' ∧ μ c' < μ c) s₄ → ForAt prog w A env target it body Q E s₄ := by
          rintro ⟨c', h', tk', m'', nx', rfl, F', N', hn', hk', ho', hI', hm'⟩
          exact ih c' m'' h' tk' nx' (by k_extra "om") hI' F' N' hn' hk' ho'
        cases f with
        | ret v => exact h₄
        | brk => exact h₄
        | next => exact fin h₄
        | cont => exact fin h₄
  exact key (μ c₀ + 1) c₀ m₀ s.heap s.toks nx (Nat.lt_succ_self _) hp F N hn hk Off.refl
/-- the same, what stays of the ledger apart -/
theorem for_rc {σ : Type} {target : Expr} {it : Value} {body : List Stmt} {m₀ : Str → Option Value} {nx : List (Addr × Obj)} (cst : List (Addr × Obj)) (Led : σ → List (Addr × Obj) → List (Addr × Obj)) (ps : σ → List (Str × Value)) (stored : List Str) (I : σ → Prop) (μ : σ → Nat) (c₀ : σ)
    (F : Fr h₀ L s.heap m₀) (N : News h₀ L s.heap nx) (hn : ∀ p ∈ Led c₀ cst, p ∈ nx) (hk : Has m₀ (ps c₀)) (hp : I c₀)
    (turn : ∀ (c : σ) (u : Str → Option Value) h tk, I c → Fr h₀ L h (kstB (fun z => if stored.contains z then u z else m₀ z) (ps c)) → News h₀ L h (Led c cst) →
      wpAny (model prog w) A (pyNext it) (fun r s₁ => match r with
        | none => Q .next s₁
        | some v => wpAny (model prog w) A (letOwnedTupleGo target it v) (fun _ s₂ => wpAny (model prog w) A (assign target env v) (fun _ s₃ =>
          wpAny (model prog w) A (execs body env) (WPost h₀ L s (fun c => Led c cst) ps stored m₀ (fun c' => I c' ∧ μ c' < μ c) Q) E s₃) E s₂) E s₁) E { s with heap := h, toks := tk })
    (hE : PassesOwn (model prog w) A env E := by passes_own) :
    ForAt prog w A env target it body Q E s := for_r (fun c => Led c cst) ps stored I μ c₀ F N hn hk hp turn hE
theorem while_rp {σ : Type} {test : Expr} {body : List Stmt} {pos : Pos} {m₀ : Str → Option Value} {nx : List (Addr × Obj)} (a b : Addr) (Led : σ → Addr → Addr → List (Addr × Obj)) (ps : σ → List (Str × Value)) (stored : List Str) (I : σ → Addr → Addr → Prop) (μ : σ → Nat) (c₀ : σ)
    (F : Fr h₀ L s.heap m₀) (N : News h₀ L s.heap nx) (hn : ∀ p ∈ Led c₀ a b, p ∈ nx) (hk : Has m₀ (ps c₀)) (hp : I c₀ a b)
    (turn : ∀ (c : σ) (u : Str → Option Value) h tk, I c a b → Fr h₀ L h (kstB (fun z => if stored.contains z then u z else m₀ z) (ps c)) → News h₀ L h (Led c a b) →
      wpAny (model prog w) A (isTrue test env (eval test env)) (fun b' s₂ =>
        if b' = true then wpAny (model prog w) A (execs body env) (WPost h₀ L s (fun c => Led c a b) ps stored m₀ (fun c' => I c' a b ∧ μ c' < μ c) Q) E s₂ else Q .next s₂) E { s with heap := h, toks := tk })
    (hE : PassesOwn (model prog w) A env E := by passes_own) :
    wpAny (model prog w) A (exec (.While test body [] pos) env) Q E s := while_r (fun c => Led c a b) ps stored (fun c => I c a b) μ c₀ F N hn hk hp turn hE
end
end
section
/-- a block's ledger between two turns -/
noncomputable abbrev blk (I C D : Addr) (io oC : Obj) (acc : List Value) (n : Nat) (es : List (Addr × Obj)) : List (Addr × Obj) := (I, io) :: (C, oC) :: (D, listO acc n) :: es
/-- the rest's objects are none of the block's -/
noncomputable def Clear (I C D : Addr) (es : List (Addr × Obj)) : Prop := (∀ p ∈ es, p.1 ≠ I) ∧ (∀ p ∈ es, p.1 ≠ C) ∧ (∀ p ∈ es, p.1 ≠ D)
section
variable {prog : Program} {w : World} {A : Around} {E : Value → Shared → Prop} {s : Shared} {h₀ : Heap} {L I C D : Addr} {m : Str → Option Value} {news sub : List (Addr × Obj)}
theorem comp_gen {all : List (Tok → Value)} {scope : Scope} {cl : List (Str × Addr)} {env : Env} {e : PySem.Expr} {dep : Nat} {target : PySem.Expr} {R : Result → Shared → Prop}
    (Body : (Shared → Prop) → Value → Shared → Prop) (Inv : List (Tok → Value) → List Value → List (Addr × Obj) → (Str → Option Value) → Prop)
    (hT : ∀ s, wpAny (model prog w) A (pyNext (.ref I)) (fun r s₁ => match r with
      | none => R (.ok .next) s₁
      | some v => wpAny (model prog w) A (letOwnedTupleGo target (.ref I) v) (fun _ s₂ => Body (CompAt prog w A e dep (.ref I) (.ref D) (compEnvC scope cl C env) R) v s₂) NoE s₁) NoE s → CompAt prog w A e dep (.ref I) (.ref D) (compEnvC scope cl C env) R s)
    (hh : A.handled = none) (hIC : I ≠ C) (hID : I ≠ D) (hCD : C ≠ D)
    (turn : ∀ (KK : Shared → Prop) x r done acc n io oC m₃ es h tk t, done ++ x :: r = all → Inv done acc es m₃ → Clear I C D es → (∀ p ∈ sub, p ∈ es) → Yields prog w sub I r io → LCg.NsObj oC m₃ → Fr h₀ L h m → News h₀ L h (blk I C D io oC acc n es) →
      (∀ io' oC' m₃' acc' n' es' h' tk', Inv (done ++ [x]) acc' es' m₃' → Clear I C D es' → (∀ p ∈ sub, p ∈ es') → io' = io → LCg.NsObj oC' m₃' → Fr h₀ L h' m → News h₀ L h' (blk I C D io' oC' acc' n' es') → KK { s with heap := h', toks := tk' }) →
      Body KK (x t) { s with heap := h, toks := tk }) :
    ∀ (xs done : List (Tok → Value)) (io : Obj) (acc : List Value) (n : Nat) (oC : Obj) (m₃ : Str → Option Value) (es : List (Addr × Obj)) (h : Heap) (tk : Nat), done ++ xs = all → Yields prog w sub I xs io → LCg.NsObj oC m₃ → Inv done acc es m₃ → Clear I C D es → (∀ p ∈ sub, p ∈ es) → Fr h₀ L h m → News h₀ L h (blk I C D io oC acc n es) →
    (∀ acc' n' oC' m₃' es' h' tk', Inv (done ++ xs) acc' es' m₃' → Clear I C D es' → LCg.NsObj oC' m₃' → Fr h₀ L h' m → News h₀ L h' ((C, oC') :: (D, listO acc' n') :: es') → R (.ok .next) { s with heap := h', toks := tk' }) →
    CompAt prog w A e dep (.ref I) (.ref D) (compEnvC scope cl C env) R { s with heap := h, toks := tk }
  | [], done, io, acc, n, oC, m₃, es, h, tk, hall, Y, hC, hI, hcl, hs, F, N, fin => by
    refine hT _ (yi_end Y hh F N (.head ?_) (fun p hp => List.Mem.tail _ (List.Mem.tail _ (List.Mem.tail _ (hs p hp)))) fun h' F' N' => ?_)
    · intro p hp
      rcases List.mem_cons.mp hp with rfl | hp
      · exact Ne.symm hIC
      · rcases List.mem_cons.mp hp with rfl | hp
        · exact Ne.symm hID
        · exact hcl.1 p hp
    · exact fin acc n oC m₃ es h' tk (by rw [List.append_nil]; exact hI) hcl hC F' N'
  | x :: r, done, io, acc, n, oC, m₃, es, h, tk, hall, Y, hC, hI, hcl, hs, F, N, fin => by
    have u1 : ∀ p ∈ ((C, oC) :: (D, listO acc n) :: es : List (Addr × Obj)), p.1 ≠ I := by
      intro p hp
      rcases List.mem_cons.mp hp with rfl | hp
      · exact Ne.symm hIC
      · rcases List.mem_cons.mp hp with rfl | hp
        · exact Ne.symm hID
        · exact hcl.1 p hp
    refine hT _ (yi_next Y hh F N (.head u1) (fun p hp => List.Mem.tail _ (List.Mem.tail _ (List.Mem.tail _ (hs p hp)))) fun io' h' tk' t Y' F' N' => ?_)
    refine yi_own Y' N' (List.Mem.head _) ?_
    refine turn _ x r done acc n io' oC m₃ es h' tk' t hall hI hcl hs Y' hC F' N' fun io2 oC' m₃' acc' n' es' h'' tk'' hI' hcl' hs' hio hC' F'' N'' => ?_
    subst hio
    refine comp_gen Body Inv hT hh hIC hID hCD turn r (done ++ [x]) io2 acc' n' oC' m₃' es' h'' tk'' (by rw [List.append_assoc]; exact hall) Y' hC' hI' hcl' hs' F'' N'' fun acc3 n3 oC3 m3 es3 h3 tk3 a1 a2 a3 a4 a5 => ?_
    exact fin acc3 n3 oC3 m3 es3 h3 tk3 (by rw [List.append_assoc] at a1; exact a1) a2 a3 a4 a5
theorem comp_storeN {scope : Scope} {cl : List (Str × Addr)} {env : Env} {x : Str} {v : Value} {oC : Obj} {m₂ : Str → Option Value} {g : Obj → List (Addr × Obj)} {Q : Unit → Shared → Prop} (F : Fr h₀ L s.heap m) (N : News h₀ L s.heap news) (U : UpdF C oC news g) (hC : LCg.NsObj oC m₂) (hl : (compEnvC scope cl C env).kindOf x = some .local)
    (hp : ((compEnvC scope cl C env).scope.kind == .class || ((compEnvC scope cl C env).scope.kind == .module && (compEnvC scope cl C env).locals != (compEnvC scope cl C env).globals)) = false)
    (h : ∀ oC' h', LCg.NsObj oC' (fun z => if z = x then some v else m₂ z) → Fr h₀ L h' m → News h₀ L h' (g oC') → Q () { s with heap := h', toks := s.toks + 1 }) :
    wpAny (model prog w) A (storeName (compEnvC scope cl C env) x v) Q E s := by
  refine wpAny_storeName_local hl (hC.ns (N _ (updF_mem U)).1) (fun h' hn hs => ?_) hp
  obtain ⟨oC', ho, hC'⟩ := LCg.ns_obj hn
  obtain ⟨F', N'⟩ := news_turn F N U hs ho
  exact h oC' h' hC' F' N'
/-- a block of one loop -/
theorem ind_turn {elt target iter : PySem.Expr} {scope : Scope} {pos : Pos} {cl : List (Str × Addr)} {env : Env} {R : Result → Shared → Prop} {xs : List (Tok → Value)} {io oC : Obj} {acc : List Value} {n : Nat} {m₃ : Str → Option Value} {news r1 r2 es₀ : List (Addr × Obj)}
    (Inv : List (Addr × Obj) → List (Tok → Value) → List Value → List (Addr × Obj) → (Str → Option Value) → Prop)
    (hh : A.handled = none) (F : Fr h₀ L s.heap m) (N : News h₀ L s.heap news) (Y : Yields prog w sub I xs io) (U1 : RemF I io news r1) (hC : LCg.NsObj oC m₃) (U2 : RemF C oC r1 r2) (U3 : RemF D (listO acc n) r2 es₀) (hs : ∀ p ∈ sub, p ∈ es₀)
    (hI : Inv es₀ [] acc es₀ m₃)
    (turn : ∀ (KK : Shared → Prop) x r done acc n io oC m₃ es h tk t, done ++ x :: r = xs → Inv es₀ done acc es m₃ → Clear I C D es → (∀ p ∈ sub, p ∈ es) → Yields prog w sub I r io → LCg.NsObj oC m₃ → Fr h₀ L h m → News h₀ L h (blk I C D io oC acc n es) →
      (∀ io' oC' m₃' acc' n' es' h' tk', Inv es₀ (done ++ [x]) acc' es' m₃' → Clear I C D es' → (∀ p ∈ sub, p ∈ es') → io' = io → LCg.NsObj oC' m₃' → Fr h₀ L h' m → News h₀ L h' (blk I C D io' oC' acc' n' es') → KK { s with heap := h', toks := tk' }) →
      wpAny (model prog w) A (assign target (compEnvC scope cl C env) (x t)) (fun _ s₃ =>
          wpAny (model prog w) A (eval elt (compEnvC scope cl C env)) (fun x s₄ => wpAny (model prog w) A (call (.builtin "list.append") [.ref D, x]) (fun _ s₅ => KK s₅) NoE s₄) NoE s₃) NoE { s with heap := h, toks := tk })
    (fin : ∀ acc' n' oC' m₃' es' h' tk', Inv es₀ xs acc' es' m₃' → Clear I C D es' → LCg.NsObj oC' m₃' → Fr h₀ L h' m → News h₀ L h' ((C, oC') :: (D, listO acc' n') :: es') → R (.ok .next) { s with heap := h', toks := tk' }) :
    CompAt prog w A (.ListComp elt [⟨target, iter, [], 0⟩] scope pos) 0 (.ref I) (.ref D) (compEnvC scope cl C env) R s := by
  have hC1 := remF_mem U2
  have hD2 := remF_mem U3
  have hD1 := remF_sub U2 _ hD2
  have hcl : Clear I C D es₀ := ⟨fun p q => remF_ne U1 p (remF_sub U2 p (remF_sub U3 p q)), fun p q => remF_ne U2 p (remF_sub U3 p q), remF_ne U3⟩
  refine comp_gen (s := s) (fun KK v s₂ => wpAny (model prog w) A (assign target (compEnvC scope cl C env) v) (fun _ s₃ =>
          wpAny (model prog w) A (eval elt (compEnvC scope cl C env)) (fun x s₄ => wpAny (model prog w) A (call (.builtin "list.append") [.ref D, x]) (fun _ s₅ => KK s₅) NoE s₄) NoE s₃) NoE s₂) (Inv es₀) (fun s h => comp_turn h) hh (Ne.symm (remF_ne U1 _ hC1)) (Ne.symm (remF_ne U1 _ hD1)) (Ne.symm (remF_ne U2 _ hD2)) turn
    xs [] io acc n oC m₃ es₀ s.heap s.toks rfl Y hC hI hcl hs F ?_ fin
  intro p hp
  rcases List.mem_cons.mp hp with rfl | hp
  · exact N _ (remF_mem U1)
  · rcases List.mem_cons.mp hp with rfl | hp
    · exact N _ (remF_sub U1 _ hC1)
    · rcases List.mem_cons.mp hp with rfl | hp
      · exact N _ (remF_sub U1 _ hD1)
      · exact N _ (remF_sub U1 _ (remF_sub U2 _ (remF_sub U3 _ hp)))
/-- a block's inner loop's end -/
noncomputable def InnerK (KK : Shared → Prop) (r : Result) (s : Shared) : Prop := match r with
  | .ok _ => KK s
  | .error _ => False
theorem comp_gen_r {scope : Scope} {cl : List (Str × Addr)} {env : Env} {e : PySem.Expr} {dep : Nat} {target : PySem.Expr} {R : Result → Shared → Prop} {xs : List (Tok → Value)} {io oC : Obj} {acc : List Value} {n : Nat} {m₃ : Str → Option Value} {news r1 r2 es₀ : List (Addr × Obj)}
    (Body : (Shared → Prop) → Value → Shared → Prop) (Inv : List (Addr × Obj) → List (Tok → Value) → List Value → List (Addr × Obj) → (Str → Option Value) → Prop)
    (hT : ∀ s, wpAny (model prog w) A (pyNext (.ref I)) (fun r s₁ => match r with
      | none => R (.ok .next) s₁
      | some v => wpAny (model prog w) A (letOwnedTupleGo target (.ref I) v) (fun _ s₂ => Body (CompAt prog w A e dep (.ref I) (.ref D) (compEnvC scope cl C env) R) v s₂) NoE s₁) NoE s → CompAt prog w A e dep (.ref I) (.ref D) (compEnvC scope cl C env) R s)
    (hh : A.handled = none) (F : Fr h₀ L s.heap m) (N : News h₀ L s.heap news) (Y : Yields prog w sub I xs io) (U1 : RemF I io news r1) (hC : LCg.NsObj oC m₃) (U2 : RemF C oC r1 r2) (U3 : RemF D (listO acc n) r2 es₀) (hs : ∀ p ∈ sub, p ∈ es₀)
    (hI : Inv es₀ [] acc es₀ m₃)
    (turn : ∀ (KK : Shared → Prop) x r done acc n io oC m₃ es h tk t, done ++ x :: r = xs → Inv es₀ done acc es m₃ → Clear I C D es → (∀ p ∈ sub, p ∈ es) → Yields prog w sub I r io → LCg.NsObj oC m₃ → Fr h₀ L h m → News h₀ L h (blk I C D io oC acc n es) →
      (∀ io' oC' m₃' acc' n' es' h' tk', Inv es₀ (done ++ [x]) acc' es' m₃' → Clear I C D es' → (∀ p ∈ sub, p ∈ es') → io' = io → LCg.NsObj oC' m₃' → Fr h₀ L h' m → News h₀ L h' (blk I C D io' oC' acc' n' es') → KK { s with heap := h', toks := tk' }) →
      Body KK (x t) { s with heap := h, toks := tk })
    (fin : ∀ acc' n' oC' m₃' es' h' tk', Inv es₀ xs acc' es' m₃' → Clear I C D es' → LCg.NsObj oC' m₃' → Fr h₀ L h' m → News h₀ L h' ((C, oC') :: (D, listO acc' n') :: es') → R (.ok .next) { s with heap := h', toks := tk' }) :
    CompAt prog w A e dep (.ref I) (.ref D) (compEnvC scope cl C env) R s := by
  have hC1 := remF_mem U2
  have hD2 := remF_mem U3
  have hD1 := remF_sub U2 _ hD2
  have hcl : Clear I C D es₀ := ⟨fun p q => remF_ne U1 p (remF_sub U2 p (remF_sub U3 p q)), fun p q => remF_ne U2 p (remF_sub U3 p q), remF_ne U3⟩
  refine comp_gen (s := s) Body (Inv es₀) hT hh (Ne.symm (remF_ne U1 _ hC1)) (Ne.symm (remF_ne U1 _ hD1)) (Ne.symm (remF_ne U2 _ hD2)) turn
    xs [] io acc n oC m₃ es₀ s.heap s.toks rfl Y hC hI hcl hs F ?_ fin
  intro p hp
  rcases List.mem_cons.mp hp with rfl | hp
  · exact N _ (remF_mem U1)
  · rcases List.mem_cons.mp hp with rfl | hp
    · exact N _ (remF_sub U1 _ hC1)
    · rcases List.mem_cons.mp hp with rfl | hp
      · exact N _ (remF_sub U1 _ hD1)
      · exact N _ (remF_sub U1 _ (remF_sub U2 _ (remF_sub U3 _ hp)))
/-- a block's outer loop of two -/
theorem ind_outer {elt t1 i1 t2 i2 : PySem.Expr} {ifs : List PySem.Expr} {scope : Scope} {pos : Pos} {cl : List (Str × Addr)} {env : Env} {R : Result → Shared → Prop} {xs : List (Tok → Value)} {io oC : Obj} {acc : List Value} {n : Nat} {m₃ : Str → Option Value} {news r1 r2 es₀ : List (Addr × Obj)}
    (Inv : List (Addr × Obj) → List (Tok → Value) → List Value → List (Addr × Obj) → (Str → Option Value) → Prop)
    (hh : A.handled = none) (F : Fr h₀ L s.heap m) (N : News h₀ L s.heap news) (Y : Yields prog w sub I xs io) (U1 : RemF I io news r1) (hC : LCg.NsObj oC m₃) (U2 : RemF C oC r1 r2) (U3 : RemF D (listO acc n) r2 es₀) (hs : ∀ p ∈ sub, p ∈ es₀)
    (hI : Inv es₀ [] acc es₀ m₃)
    (turn : ∀ (KK : Shared → Prop) x r done acc n io oC m₃ es h tk t, done ++ x :: r = xs → Inv es₀ done acc es m₃ → Clear I C D es → (∀ p ∈ sub, p ∈ es) → Yields prog w sub I r io → LCg.NsObj oC m₃ → Fr h₀ L h m → News h₀ L h (blk I C D io oC acc n es) →
      (∀ io' oC' m₃' acc' n' es' h' tk', Inv es₀ (done ++ [x]) acc' es' m₃' → Clear I C D es' → (∀ p ∈ sub, p ∈ es') → io' = io → LCg.NsObj oC' m₃' → Fr h₀ L h' m → News h₀ L h' (blk I C D io' oC' acc' n' es') → KK { s with heap := h', toks := tk' }) →
      wpAny (model prog w) A (assign t1 (compEnvC scope cl C env) (x t)) (fun _ s₃ =>
          wpAny (model prog w) A (eval i2 (compEnvC scope cl C env)) (fun x s₄ => wpAny (model prog w) A (pyIter x) (fun it' s₅ =>
            codeAny (model prog w) (A.mark none) (.compStart (.ListComp elt [⟨t1, i1, [], 0⟩, ⟨t2, i2, ifs, 0⟩] scope pos) 1 it' (.ref D) (compEnvC scope cl C env)) (InnerK KK) s₅) NoE s₄) NoE s₃) NoE { s with heap := h, toks := tk })
    (fin : ∀ acc' n' oC' m₃' es' h' tk', Inv es₀ xs acc' es' m₃' → Clear I C D es' → LCg.NsObj oC' m₃' → Fr h₀ L h' m → News h₀ L h' ((C, oC') :: (D, listO acc' n') :: es') → R (.ok .next) { s with heap := h', toks := tk' })
    (hf : ∀ x, foldedSetIterable i2 (compEnvC scope cl C env) x = pure x := by intro _; rfl) :
    CompAt prog w A (.ListComp elt [⟨t1, i1, [], 0⟩, ⟨t2, i2, ifs, 0⟩] scope pos) 0 (.ref I) (.ref D) (compEnvC scope cl C env) R s := by
  refine comp_gen_r (target := t1) (fun KK v s₂ => wpAny (model prog w) A (assign t1 (compEnvC scope cl C env) v) (fun _ s₃ =>
          wpAny (model prog w) A (eval i2 (compEnvC scope cl C env)) (fun x s₄ => wpAny (model prog w) A (pyIter x) (fun it' s₅ =>
            codeAny (model prog w) (A.mark none) (.compStart (.ListComp elt [⟨t1, i1, [], 0⟩, ⟨t2, i2, ifs, 0⟩] scope pos) 1 it' (.ref D) (compEnvC scope cl C env)) (InnerK KK) s₅) NoE s₄) NoE s₃) NoE s₂) Inv (fun s h => comp_outer (wpAny_mono h (fun r s₁ h₁ => ?_) fun _ _ f => f) hf) hh F N Y U1 hC U2 U3 hs hI turn fin
  cases r with
  | none => exact h₁
  | some v =>
    refine wpAny_mono h₁ (fun _ s₂ h₂ => wpAny_mono h₂ (fun _ s₃ h₃ => wpAny_mono h₃ (fun x s₄ h₄ => wpAny_mono h₄ (fun it' s₅ h₅ => codeAny_mono h₅ fun r s₆ h₆ => ?_) fun _ _ f => f) fun _ _ f => f) fun _ _ f => f) fun _ _ f => f
    cases r with
    | ok f => exact h₆
    | error e => exact h₆
/-- a block's inner loop with a test -/
theorem ind_inner_if {elt t1 i1 t2 i2 c : PySem.Expr} {scope : Scope} {pos : Pos} {cl : List (Str × Addr)} {env : Env} {R : Result → Shared → Prop} {xs : List (Tok → Value)} {io oC : Obj} {acc : List Value} {n : Nat} {m₃ : Str → Option Value} {news r1 r2 es₀ : List (Addr × Obj)}
    (Inv : List (Addr × Obj) → List (Tok → Value) → List Value → List (Addr × Obj) → (Str → Option Value) → Prop)
    (hh : A.handled = none) (F : Fr h₀ L s.heap m) (N : News h₀ L s.heap news) (Y : Yields prog w sub I xs io) (U1 : RemF I io news r1) (hC : LCg.NsObj oC m₃) (U2 : RemF C oC r1 r2) (U3 : RemF D (listO acc n) r2 es₀) (hs : ∀ p ∈ sub, p ∈ es₀)
    (hI : Inv es₀ [] acc es₀ m₃)
    (turn : ∀ (KK : Shared → Prop) x r done acc n io oC m₃ es h tk t, done ++ x :: r = xs → Inv es₀ done acc es m₃ → Clear I C D es → (∀ p ∈ sub, p ∈ es) → Yields prog w sub I r io → LCg.NsObj oC m₃ → Fr h₀ L h m → News h₀ L h (blk I C D io oC acc n es) →
      (∀ io' oC' m₃' acc' n' es' h' tk', Inv es₀ (done ++ [x]) acc' es' m₃' → Clear I C D es' → (∀ p ∈ sub, p ∈ es') → io' = io → LCg.NsObj oC' m₃' → Fr h₀ L h' m → News h₀ L h' (blk I C D io' oC' acc' n' es') → KK { s with heap := h', toks := tk' }) →
      wpAny (model prog w) A (assign t2 (compEnvC scope cl C env) (x t)) (fun _ s₃ =>
          wpAny (model prog w) A (isTrue c (compEnvC scope cl C env) (eval c (compEnvC scope cl C env))) (fun ok s₄ => if ok = true then
            wpAny (model prog w) A (eval elt (compEnvC scope cl C env)) (fun x s₄ => wpAny (model prog w) A (call (.builtin "list.append") [.ref D, x]) (fun _ s₅ => KK s₅) NoE s₄) NoE s₄
            else KK s₄) NoE s₃) NoE { s with heap := h, toks := tk })
    (fin : ∀ acc' n' oC' m₃' es' h' tk', Inv es₀ xs acc' es' m₃' → Clear I C D es' → LCg.NsObj oC' m₃' → Fr h₀ L h' m → News h₀ L h' ((C, oC') :: (D, listO acc' n') :: es') → R (.ok .next) { s with heap := h', toks := tk' }) :
    CompAt prog w A (.ListComp elt [⟨t1, i1, [], 0⟩, ⟨t2, i2, [c], 0⟩] scope pos) 1 (.ref I) (.ref D) (compEnvC scope cl C env) R s :=
  comp_gen_r (target := t2) (fun KK v s₂ => wpAny (model prog w) A (assign t2 (compEnvC scope cl C env) v) (fun _ s₃ =>
          wpAny (model prog w) A (isTrue c (compEnvC scope cl C env) (eval c (compEnvC scope cl C env))) (fun ok s₄ => if ok = true then
            wpAny (model prog w) A (eval elt (compEnvC scope cl C env)) (fun x s₄ => wpAny (model prog w) A (call (.builtin "list.append") [.ref D, x]) (fun _ s₅ => KK s₅) NoE s₄) NoE s₄
            else KK s₄) NoE s₃) NoE s₂) Inv (fun s h => comp_inner_if h) hh F N Y U1 hC U2 U3 hs hI turn fin
end
end
section
/-- the values' new objects, each with its word -/
inductive OutL {α : Type} (Out : α → Obj → Prop) (lo : Addr → Prop) : List (Value × α) → List (Addr × Obj) → Prop
  | nil : OutL Out lo [] []
  | cons {p ps e o os} : Out p.2 o → lo e → OutL Out lo ps os → OutL Out lo (p :: ps) ((e, o) :: os)
theorem OutL.snoc {α : Type} {Out : α → Obj → Prop} {lo : Addr → Prop} {ps : List (Value × α)} {os : List (Addr × Obj)} {p : Value × α} {e : Addr} {o : Obj} (h : OutL Out lo ps os) (ho : Out p.2 o) (he : lo e) : OutL Out lo (ps ++ [p]) (os ++ [(e, o)]) := by
  induction h with
  | nil => exact .cons ho he .nil
  | cons a b _ ih => exact .cons a b ih
theorem OutL.peel {α : Type} {Out : α → Obj → Prop} {lo : Addr → Prop} {ps : List (Value × α)} {os : List (Addr × Obj)} {a : α} {r : List α} (h : OutL Out lo ps os) (e : ps.map Prod.snd = a :: r) : ∃ e o ps' os', os = (e, o) :: os' ∧ Out a o ∧ lo e ∧ OutL Out lo ps' os' ∧ ps'.map Prod.snd = r := by
  cases h with
  | nil => cases e
  | cons ho hl h => exact ⟨_, _, _, _, rfl, (List.cons.inj e).1 ▸ ho, hl, h, (List.cons.inj e).2⟩
theorem OutL.done {α : Type} {Out : α → Obj → Prop} {lo : Addr → Prop} {ps : List (Value × α)} {os : List (Addr × Obj)} (h : OutL Out lo ps os) (e : ps.map Prod.snd = []) : os = [] := by
  cases h with
  | nil => rfl
  | cons ho hl h => cases e
inductive OutFour {α : Type} (Out : α → Obj → Prop) (lo : Addr → Prop) (a b c d : α) : List (Addr × Obj) → Prop
  | mk (e0 e1 e2 e3 : Addr) (o0 o1 o2 o3 : Obj) (h0 : Out a o0) (h1 : Out b o1) (h2 : Out c o2) (h3 : Out d o3) (l0 : lo e0) (l1 : lo e1) (l2 : lo e2) (l3 : lo e3) : OutFour Out lo a b c d [(e0, o0), (e1, o1), (e2, o2), (e3, o3)]
theorem outL4 {α : Type} {Out : α → Obj → Prop} {lo : Addr → Prop} {ps : List (Value × α)} {os : List (Addr × Obj)} {a b c d : α} (h : OutL Out lo ps os) (e : ps.map Prod.snd = [a, b, c, d]) : OutFour Out lo a b c d os := by
  obtain ⟨e0, o0, ps1, os1, q0, h0, l0, g1, e1⟩ := h.peel e
  obtain ⟨e1', o1, ps2, os2, q1, h1, l1, g2, e2⟩ := g1.peel e1
  obtain ⟨e2', o2, ps3, os3, q2, h2, l2, g3, e3⟩ := g2.peel e2
  obtain ⟨e3', o3, ps4, os4, q3, h3, l3, g4, e4⟩ := g3.peel e3
  rw [q0, q1, q2, q3, g4.done e4]
  exact .mk _ _ _ _ _ _ _ _ h0 h1 h2 h3 l0 l1 l2 l3
theorem cV_pick {α : Type} : ∀ {ps : List (Value × α)} {done : List (Tok → Value)} {x : Tok → Value} {r : List (Tok → Value)}, done ++ x :: r = cV (ps.map Prod.fst) → ∃ p, p ∈ ps ∧ x = (fun _ => p.1) ∧ ps.take (done.length + 1) = ps.take done.length ++ [p] ∧ done.length < ps.length
  | [], done, x, r, h => by
    cases done <;> exact absurd h (by simp [cV])
  | p :: ps, [], x, r, h => ⟨p, .head _, (List.cons.inj h).1, rfl, Nat.zero_lt_succ _⟩
  | p :: ps, d :: done, x, r, h => by
    obtain ⟨q, a, b, c, d⟩ := cV_pick (ps := ps) (List.cons.inj h).2
    refine ⟨q, .tail _ a, b, ?_, Nat.succ_lt_succ d⟩
    show p :: ps.take (done.length + 1) = p :: ps.take done.length ++ [q]
    rw [c]
    rfl
theorem blk_snoc {I C D e : Addr} {io oC o : Obj} {acc : List Value} {n : Nat} {os es₀ : List (Addr × Obj)} {p : Addr × Obj} (hp : p ∈ blk I C D io oC acc n (os ++ [(e, o)] ++ es₀)) : p ∈ (e, o) :: blk I C D io oC acc n (os ++ es₀) := by
  simp only [blk, List.mem_cons, List.mem_append, List.not_mem_nil, or_false] at hp ⊢
  rcases hp with h | h | h | (h | h) | h
  · exact .inr (.inl h)
  · exact .inr (.inr (.inl h))
  · exact .inr (.inr (.inr (.inl h)))
  · exact .inr (.inr (.inr (.inr (.inl h))))
  · exact .inl h
  · exact .inr (.inr (.inr (.inr (.inr h))))
theorem clear_snoc {I C D e : Addr} {o : Obj} {os es₀ : List (Addr × Obj)} (h : Clear I C D (os ++ es₀)) (h1 : e ≠ I) (h2 : e ≠ C) (h3 : e ≠ D) : Clear I C D (os ++ [(e, o)] ++ es₀) := by
  obtain ⟨a, b, c⟩ := h
  refine ⟨fun p hp => ?_, fun p hp => ?_, fun p hp => ?_⟩ <;> rw [List.append_assoc] at hp <;> rcases List.mem_append.mp hp with hp | hp
  · exact a p (List.mem_append_left _ hp)
  · rcases List.mem_cons.mp hp with rfl | hp
    · exact h1
    · exact a p (List.mem_append_right _ hp)
  · exact b p (List.mem_append_left _ hp)
  · rcases List.mem_cons.mp hp with rfl | hp
    · exact h2
    · exact b p (List.mem_append_right _ hp)
  · exact c p (List.mem_append_left _ hp)
  · rcases List.mem_cons.mp hp with rfl | hp
    · exact h3
    · exact c p (List.mem_append_right _ hp)
section
variable {prog : Program} {w : World} {A : Around} {E : Value → Shared → Prop} {s : Shared} {h₀ : Heap} {L I C D : Addr} {m : Str → Option Value} {news sub : List (Addr × Obj)}
/-- a block of one loop over a list, each turn of which makes one object -/
theorem comp_objs {α : Type} {elt target iter : PySem.Expr} {scope : Scope} {pos : Pos} {cl : List (Str × Addr)} {env : Env} {R : Result → Shared → Prop} {ps : List (Value × α)} {io oC : Obj} {n : Nat} {m₃ : Str → Option Value} {r1 r2 es₀ : List (Addr × Obj)}
    (P : Value × α → Prop) (Out : α → Obj → Prop)
    (hh : A.handled = none) (F : Fr h₀ L s.heap m) (N : News h₀ L s.heap news) (Y : Yields prog w sub I (cV (ps.map Prod.fst)) io) (U1 : RemF I io news r1) (hC : LCg.NsObj oC m₃) (U2 : RemF C oC r1 r2) (U3 : RemF D (listO [] n) r2 es₀) (hs : ∀ p ∈ sub, p ∈ es₀)
    (hP : ∀ p ∈ ps, P p)
    (turn : ∀ (KK : Shared → Prop) (p : Value × α) acc n io oC m₃ es h tk, acc.length < ps.length → P p → (∀ q ∈ es₀, q ∈ es) → (∀ p ∈ es, p.1 ≠ I) → (∀ p ∈ es, p.1 ≠ C) → (∀ p ∈ es, p.1 ≠ D) → LCg.NsObj oC m₃ → Fr h₀ L h m → News h₀ L h ((I, io) :: (C, oC) :: (D, listO acc n) :: es) →
      (∀ oC' m₃' e o n' h' tk', Out p.2 o → (I < e ∧ C < e ∧ D < e ∧ AllLt e es) → LCg.NsObj oC' m₃' → Fr h₀ L h' m → News h₀ L h' ((e, o) :: (I, io) :: (C, oC') :: (D, listO (acc ++ [.ref e]) n') :: es) → KK { s with heap := h', toks := tk' }) →
      wpAny (model prog w) A (assign target (compEnvC scope cl C env) p.1) (fun _ s₃ =>
          wpAny (model prog w) A (eval elt (compEnvC scope cl C env)) (fun x s₄ => wpAny (model prog w) A (call (.builtin "list.append") [.ref D, x]) (fun _ s₅ => KK s₅) NoE s₄) NoE s₃) NoE { s with heap := h, toks := tk })
    (fin : ∀ os n' oC' m₃' h' tk', OutL Out (fun e => AllLt e es₀) ps os → (∀ p ∈ os ++ es₀, p.1 ≠ C) → LCg.NsObj oC' m₃' → Fr h₀ L h' m → News h₀ L h' ((C, oC') :: (D, listO (os.map fun p => .ref p.1) n') :: (os ++ es₀)) → R (.ok .next) { s with heap := h', toks := tk' }) :
    CompAt prog w A (.ListComp elt [⟨target, iter, [], 0⟩] scope pos) 0 (.ref I) (.ref D) (compEnvC scope cl C env) R s := by
  refine ind_turn (fun es₀ done acc es m₃ => ∃ os, es = os ++ es₀ ∧ acc = os.map (fun p => Value.ref p.1) ∧ os.length = done.length ∧ OutL Out (fun e => AllLt e es₀) (ps.take done.length) os) hh F N Y U1 hC U2 U3 hs ⟨[], rfl, rfl, rfl, .nil⟩ ?_ ?_
  · intro KK x r done acc n io oC m₃ es h tk t hall hI hcl hsub Y8 hC8 F8 N8 kont
    obtain ⟨os, rfl, rfl, hl, hO⟩ := hI
    obtain ⟨p, hp, rfl, ht, hlt⟩ := cV_pick hall
    refine turn KK p _ n io oC m₃ _ h tk (by rw [List.length_map, hl]; exact hlt) (hP p hp) (fun q hq => List.mem_append_right _ hq) hcl.1 hcl.2.1 hcl.2.2 hC8 F8 N8 fun oC' m₃' e o n' h' tk' ho hlt' hC' F' N' => ?_
    refine kont io oC' m₃' _ n' (os ++ [(e, o)] ++ es₀) h' tk' ⟨os ++ [(e, o)], rfl, rfl, ?_, ?_⟩ (clear_snoc hcl (Nat.ne_of_gt hlt'.1) (Nat.ne_of_gt hlt'.2.1) (Nat.ne_of_gt hlt'.2.2.1)) (fun p hp => List.mem_append_right _ (hs p hp)) rfl hC' F' ?_
    · rw [List.length_append, List.length_append, hl]; rfl
    · rw [List.length_append]
      show OutL Out _ (List.take (done.length + 1) ps) _
      rw [ht]
      exact hO.snoc ho (allLt_of fun q hq => allLt_lt hlt'.2.2.2 q (List.mem_append_right _ hq))
    · rw [List.map_append]
      exact fun q hq => N' q (blk_snoc hq)
  · intro acc' n' oC' m₃' es' h' tk' hI hcl hC' F' N'
    obtain ⟨os, rfl, rfl, hl, hO⟩ := hI
    have hx : (cV (ps.map Prod.fst)).length = ps.length := by simp [cV]
    rw [hx, List.take_length] at hO
    exact fin os n' oC' m₃' h' tk' hO hcl.2.1 hC' F' N'
/-- four turns -/
theorem comp_four {α : Type} {elt target iter : PySem.Expr} {scope : Scope} {pos : Pos} {cl : List (Str × Addr)} {env : Env} {R : Result → Shared → Prop} {p0 p1 p2 p3 : Value × α} {io oC : Obj} {n : Nat} {m₃ : Str → Option Value} {r1 r2 es₀ : List (Addr × Obj)}
    (P : Value × α → Prop) (Out : α → Obj → Prop)
    (hh : A.handled = none) (F : Fr h₀ L s.heap m) (N : News h₀ L s.heap news) (Y : Yields prog w sub I (cV [p0.1, p1.1, p2.1, p3.1]) io) (U1 : RemF I io news r1) (hC : LCg.NsObj oC m₃) (U2 : RemF C oC r1 r2) (U3 : RemF D (listO [] n) r2 es₀) (hs : ∀ p ∈ sub, p ∈ es₀)
    (hP0 : P p0) (hP1 : P p1) (hP2 : P p2) (hP3 : P p3)
    (turn : ∀ (KK : Shared → Prop) (p : Value × α) acc n io oC m₃ es h tk, acc.length < 4 → P p → (∀ q ∈ es₀, q ∈ es) → (∀ p ∈ es, p.1 ≠ I) → (∀ p ∈ es, p.1 ≠ C) → (∀ p ∈ es, p.1 ≠ D) → LCg.NsObj oC m₃ → Fr h₀ L h m → News h₀ L h ((I, io) :: (C, oC) :: (D, listO acc n) :: es) →
      (∀ oC' m₃' e o n' h' tk', Out p.2 o → (I < e ∧ C < e ∧ D < e ∧ AllLt e es) → LCg.NsObj oC' m₃' → Fr h₀ L h' m → News h₀ L h' ((e, o) :: (I, io) :: (C, oC') :: (D, listO (acc ++ [.ref e]) n') :: es) → KK { s with heap := h', toks := tk' }) →
      wpAny (model prog w) A (assign target (compEnvC scope cl C env) p.1) (fun _ s₃ =>
          wpAny (model prog w) A (eval elt (compEnvC scope cl C env)) (fun x s₄ => wpAny (model prog w) A (call (.builtin "list.append") [.ref D, x]) (fun _ s₅ => KK s₅) NoE s₄) NoE s₃) NoE { s with heap := h, toks := tk })
    (fin : ∀ e0 e1 e2 e3 o0 o1 o2 o3 n' oC' m₃' h' tk', Out p0.2 o0 → Out p1.2 o1 → Out p2.2 o2 → Out p3.2 o3 → AllLt e0 es₀ → AllLt e1 es₀ → AllLt e2 es₀ → AllLt e3 es₀ → (∀ p ∈ (e0, o0) :: (e1, o1) :: (e2, o2) :: (e3, o3) :: es₀, p.1 ≠ C) → LCg.NsObj oC' m₃' → Fr h₀ L h' m →
      News h₀ L h' ((C, oC') :: (D, listO [.ref e0, .ref e1, .ref e2, .ref e3] n') :: (e0, o0) :: (e1, o1) :: (e2, o2) :: (e3, o3) :: es₀) → R (.ok .next) { s with heap := h', toks := tk' }) :
    CompAt prog w A (.ListComp elt [⟨target, iter, [], 0⟩] scope pos) 0 (.ref I) (.ref D) (compEnvC scope cl C env) R s := by
  refine comp_objs (ps := [p0, p1, p2, p3]) P Out hh F N Y U1 hC U2 U3 hs ?_ turn ?_
  · intro p hp
    simp only [List.mem_cons, List.not_mem_nil, or_false] at hp
    rcases hp with rfl | rfl | rfl | rfl <;> assumption
  · intro os n' oC' m₃' h' tk' hO hn hC' F' N'
    obtain ⟨e0, e1, e2, e3, o0, o1, o2, o3, a0, a1, a2, a3, b0, b1, b2, b3⟩ := outL4 hO rfl
    exact fin _ _ _ _ _ _ _ _ n' oC' m₃' h' tk' a0 a1 a2 a3 b0 b1 b2 b3 hn hC' F' N'
end
end
section
section
variable {prog : Program} {w : World} {A : Around} {E : Value → Shared → Prop} {s : Shared} {h₀ : Heap} {L I C D : Addr} {m : Str → Option Value} {news sub : List (Addr × Obj)}
/-- a block's outer loop of two over a list, what it gathers told by a word on the values done -/
theorem comp_fold {α : Type} {elt t1 i1 t2 i2 : PySem.Expr} {ifs : List PySem.Expr} {scope : Scope} {pos : Pos} {cl : List (Str × Addr)} {env : Env} {R : Result → Shared → Prop} {ps : List (Value × α)} {io oC : Obj} {acc : List Value} {n : Nat} {m₃ : Str → Option Value} {r1 r2 es₀ : List (Addr × Obj)}
    (P : Value × α → Prop) (J : List α → List Value → Prop)
    (hh : A.handled = none) (F : Fr h₀ L s.heap m) (N : News h₀ L s.heap news) (Y : Yields prog w sub I (cV (ps.map Prod.fst)) io) (U1 : RemF I io news r1) (hC : LCg.NsObj oC m₃) (U2 : RemF C oC r1 r2) (U3 : RemF D (listO acc n) r2 es₀) (hs : ∀ p ∈ sub, p ∈ es₀)
    (hP : ∀ p ∈ ps, P p) (hJ : J [] acc)
    (turn : ∀ (KK : Shared → Prop) (p : Value × α) done acc n io oC m₃ h tk, P p → J done acc → done.length < ps.length → LCg.NsObj oC m₃ → Fr h₀ L h m → News h₀ L h ((I, io) :: (C, oC) :: (D, listO acc n) :: es₀) →
      (∀ oC' m₃' acc' n' h' tk', J (done ++ [p.2]) acc' → LCg.NsObj oC' m₃' → Fr h₀ L h' m → News h₀ L h' ((I, io) :: (C, oC') :: (D, listO acc' n') :: es₀) → KK { s with heap := h', toks := tk' }) →
      wpAny (model prog w) A (assign t1 (compEnvC scope cl C env) p.1) (fun _ s₃ =>
          wpAny (model prog w) A (eval i2 (compEnvC scope cl C env)) (fun x s₄ => wpAny (model prog w) A (pyIter x) (fun it' s₅ =>
            codeAny (model prog w) (A.mark none) (.compStart (.ListComp elt [⟨t1, i1, [], 0⟩, ⟨t2, i2, ifs, 0⟩] scope pos) 1 it' (.ref D) (compEnvC scope cl C env)) (InnerK KK) s₅) NoE s₄) NoE s₃) NoE { s with heap := h, toks := tk })
    (fin : ∀ acc' n' oC' m₃' h' tk', J (ps.map Prod.snd) acc' → LCg.NsObj oC' m₃' → Fr h₀ L h' m → News h₀ L h' ((C, oC') :: (D, listO acc' n') :: es₀) → R (.ok .next) { s with heap := h', toks := tk' })
    (hf : ∀ x, foldedSetIterable i2 (compEnvC scope cl C env) x = pure x := by intro _; rfl) :
    CompAt prog w A (.ListComp elt [⟨t1, i1, [], 0⟩, ⟨t2, i2, ifs, 0⟩] scope pos) 0 (.ref I) (.ref D) (compEnvC scope cl C env) R s := by
  refine ind_outer (fun es₀ done acc es m₃ => es = es₀ ∧ J ((ps.take done.length).map Prod.snd) acc) hh F N Y U1 hC U2 U3 hs ⟨rfl, hJ⟩ ?_ ?_ hf
  · intro KK x r done acc n io oC m₃ es h tk t hall hI hcl hsub Y8 hC8 F8 N8 kont
    obtain ⟨rfl, hI⟩ := hI
    obtain ⟨p, hp, rfl, ht, hlt⟩ := cV_pick hall
    refine turn KK p _ acc n io oC m₃ h tk (hP p hp) hI (by rw [List.length_map, List.length_take]; k_extra "om") hC8 F8 N8 fun oC' m₃' acc' n' h' tk' hJ' hC' F' N' => ?_
    refine kont io oC' m₃' acc' n' es h' tk' ⟨rfl, ?_⟩ hcl hsub rfl hC' F' N'
    rw [List.length_append]
    show J (List.map Prod.snd (List.take (done.length + 1) ps)) _
    rw [ht, List.map_append]
    exact hJ'
  · intro acc' n' oC' m₃' es' h' tk' hI hcl hC' F' N'
    obtain ⟨rfl, hI⟩ := hI
    have hx : (cV (ps.map Prod.fst)).length = ps.length := by simp [cV]
    rw [hx, List.take_length] at hI
    exact fin acc' n' oC' m₃' h' tk' hI hC' F' N'
end
end
section
noncomputable abbrev rangeO (n : Int) (a b c : Tok) : Obj := { cls := .type "range", data := .fields #[.int 0 a, .int n b, .int 1 c] }
noncomputable abbrev rgI (x : Int) (k : Nat) : Obj := { cls := .type "range_iterator", dict := none, data := .fields #[rawInt x, rawInt (k : Int), rawInt 1], slots := #[] }
noncomputable def cR : Int → Nat → List (Tok → Value)
  | _, 0 => []
  | x, k + 1 => (fun t => .int x t) :: cR (x + 1) k
section
variable {prog : Program} {w : World} {A : Around} {E : Value → Shared → Prop} {s : Shared} {h₀ : Heap} {L I r : Addr} {m : Str → Option Value} {news sub : List (Addr × Obj)}
theorem yields_range : ∀ (k : Nat) (x : Int), Yields prog w sub I (cR x k) (rgI x k)
  | 0, x => by
    refine ⟨⟨⟨_, _, rfl, rfl, by decide⟩, fun A s Q hg hQ => wpAny_pyIter_rangeiter (x := x) (left := ((0 : Nat) : Int)) (step := 1) hg hQ⟩, fun A h₀ L m s news nx Q hh F N U hs h => ?_⟩
    have hI := remF_mem U
    refine wpAny_pyNext_range_end hh (x := x) (left := ((0 : Nat) : Int)) (step := 1) (N _ hI).1 (Int.le_refl _) fun h' hs' => ?_
    obtain ⟨F', N'⟩ := news_lost F N hI hs' (remF_sub U) (remF_ne U)
    exact h h' F' N'
  | k + 1, x => by
    refine ⟨⟨⟨_, _, rfl, rfl, by decide⟩, fun A s Q hg hQ => wpAny_pyIter_rangeiter (x := x) (left := ((k + 1 : Nat) : Int)) (step := 1) hg hQ⟩, fun A h₀ L m s news g Q hh F N U hs h => ?_⟩
    refine wpAny_pyNext_range_item (x := x) (left := ((k + 1 : Nat) : Int)) (step := 1) (N _ (updF_mem U)).1 (by k_extra "om") fun h' hi hs' => ?_
    have e : (((k + 1 : Nat) : Int) - 1) = ((k : Nat) : Int) := by k_extra "om"
    rw [e] at hi
    obtain ⟨F', N'⟩ := news_turn F N U hs' hi
    exact h (rgI (x + 1) k) h' (s.toks + 1) s.toks (yields_range k (x + 1)) F' N'
theorem range_r {n : Nat} {t : Tok} {Q : Value → Shared → Prop} (F : Fr h₀ L s.heap m) (N : News h₀ L s.heap news)
    (h : ∀ D h' tk a c, Fr h₀ L h' m → News h₀ L h' ((D, rangeO (n : Int) a t c) :: news) → (∀ p ∈ news, p.1 < D) → Q (.ref D) { s with heap := h', toks := tk }) :
    wpAny (model prog w) A (call (.type "range") [.int (n : Int) t]) Q E s :=
  call_range_1 (h _ _ _ _ _ (F.push _) (News.push F N _ rfl) fun p hp => Heap.lt_size (N p hp).1)
theorem mk_iter_range {n : Nat} {a b c : Tok} {Q : Value → Shared → Prop} (F : Fr h₀ L s.heap m) (N : News h₀ L s.heap news) (hl : (r, rangeO (n : Int) a b c) ∈ news) (hz : n ≤ 100)
    (h : ∀ I h' io, Yields prog w [] I (cR 0 n) io → Fr h₀ L h' m → News h₀ L h' ((I, io) :: news) → (∀ p ∈ news, p.1 < I) → Q (.ref I) { s with heap := h' }) : wpAny (model prog w) A (pyIter (.ref r)) Q E s := by
  have e : Builtin.Range.rangeSize 0 (n : Int) 1 = (n : Int) := by
    unfold Builtin.Range.rangeSize
    first | (simp; k_extra "om") | simp
  have hs : Builtin.Range.small 0 (n : Int) 1 = true := by
    unfold Builtin.Range.small
    rw [e]
    simp [Builtin.Range.rangeFitsLong]
    k_extra "om"
  refine wpAny_pyIter_range (N _ hl).1 hs ?_
  rw [e]
  exact h _ _ _ (yields_range n 0) (F.push _) (News.push F N _ rfl) fun p hp => Heap.lt_size (N p hp).1
end
end
section
variable {w : World} {mean : ExcName → Option Value} {mg mb : Str → Option Value} {dp un : Nat} {gd : Option (List Code)} {cn : Str} {cs : Scope} {L a : Addr} {ccd : Value} {cl : List (Str × Addr)} {outer : List Env}
   {A₀ : Around} {base h₀ : Heap} {m : Str → Option Value} {s : Shared} {Q E : Value → Shared → Prop}
open G0 G3
noncomputable def octL (n : Int) : List Int := if n < 64 then [n.fmod 64] else [64 + (n.fdiv 64).fmod 64, n.fmod 64]
open G7
theorem octets_c {n : Int} {k0 : Tok} {news : List (Addr × Obj)} (B : Below A₀ base outer h₀) (F : Fr h₀ L s.heap m) (X : (K w.params).In h₀) (N : News h₀ L s.heap news)
   (T : Top topProg LL mean mg mb h₀) (hk : cs.kind = .function) (hdp : dp + 20 < recursionLimit) (hu : un + 160 < cLine) (h0 : 0 ≤ n) (h1 : n < 4096)
   (hret : ∀ D vs k h' tk', IntsAre vs (octL n) → (∀ p ∈ news, p.1 < D) → Fr h₀ L h' m → News h₀ L h' ((D, listO vs k) :: news) → Q (.ref D) { s with heap := h', toks := tk' }) :
   wpAny (model PP w) (ktrTop dp un gd cn cs L a ccd cl outer) (call (.ref 263) [.int n k0]) Q E s := by
  rcases cs with ⟨ck, cnames, cgen, cco, cmore⟩
  cases hk
  by_cases hn : n < 64
  · have e : octL n = [n.fmod 64] := if_pos hn
    have hI : ∀ t1, IntsAre [.int (n.fmod 64) t1] (octL n) := fun t1 => by rw [e]; exact .cons _ _ .nil
    k_steps
    refine Hold.out (while_in (while_turn ?_))
    k_steps
    all_goals first
      | (exfalso; k_extra "om")
      | exact hret _ _ _ _ _ (hI _) (by k_extra "mine below") (by k_asm) (by k_extra "mine news")
  · have e : octL n = [64 + (n.fdiv 64).fmod 64, n.fmod 64] := if_neg hn
    have hI : ∀ t1 t2, IntsAre [.int (64 + (n.fdiv 64).fmod 64) t1, .int (n.fmod 64) t2] (octL n) := fun t1 t2 => by rw [e]; exact .cons _ _ (.cons _ _ .nil)
    have e2 : n.fdiv 64 = n / 64 := Int.fdiv_eq_ediv_of_nonneg _ (by decide)
    have hq : ¬ 63 < n.fdiv 64 := by rw [e2]; k_extra "om"
    k_steps
    refine Hold.out (while_in (while_turn ?_))
    k_steps
    all_goals try (exfalso; k_extra "om")
    show WhileAt _ _ _ _ _ _ _ _ _
    refine while_turn ?_
    k_steps
    all_goals first
      | (exfalso; k_extra "om")
      | exact hret _ _ _ _ _ (hI _ _) (by k_extra "mine below") (by k_asm) (by k_extra "mine news")
end
section
variable {w : World} {mean : ExcName → Option Value} {mg mb : Str → Option Value} {dp un : Nat} {gd : Option (List Code)} {cn : Str} {cs : Scope} {L a : Addr} {ccd : Value} {cl : List (Str × Addr)} {outer : List Env}
   {A₀ : Around} {base h₀ : Heap} {m : Str → Option Value} {s : Shared} {Q E : Value → Shared → Prop}
open G0 G3 G8 G10 G11 G12 G32 G33 G35
noncomputable def wordL (q : Int) (l : List Nat) : List Nat := if q = 0 then (l.map bf).flatten ++ [10] else [34] ++ (l.map qf).flatten ++ [34]
noncomputable def octs (x0 x1 x2 x3 : Int) : List Nat := [] ++ List.map Int.toNat (octL x0) ++ List.map Int.toNat (octL x1) ++ List.map Int.toNat (octL x2) ++ List.map Int.toNat (octL x3)
theorem q_str : Str.ofString "\"" = ⟨([34] : List Nat).toArray⟩ := by decide +kernel
theorem n_str : Str.ofString "\n" = ⟨([10] : List Nat).toArray⟩ := by decide +kernel
theorem octL_bound {n k : Int} (h : k ∈ octL n) : 0 ≤ k ∧ k < 128 := by
  unfold octL at h
  have h1 : n.fmod 64 = n % 64 := Int.fmod_eq_emod_of_nonneg _ (by decide)
  have h3 : (n.fdiv 64).fmod 64 = (n.fdiv 64) % 64 := Int.fmod_eq_emod_of_nonneg _ (by decide)
  split at h
  · simp only [List.mem_singleton] at h
    k_extra "om"
  · simp only [List.mem_cons, List.not_mem_nil, or_false] at h
    rcases h with rfl | rfl <;> k_extra "om"
theorem octL_len (n : Int) : (octL n).length ≤ 2 := by
  unfold octL
  split <;> simp
theorem occ_sign : ∀ c : Fin 128, (Builtin.Str.occurrences (Str.ofString "\"\\") { cps := #[c.val] } 0 (Str.ofString "\"\\").length 1).isEmpty = !decide (c.val = 34 ∨ c.val = 92) := by decide +kernel
theorem bs_add (c : Nat) : Str.ofString "\\" ++ (⟨#[c]⟩ : Str) = ⟨#[92, c]⟩ := by
  have e : Str.ofString "\\" = ⟨#[92]⟩ := by decide +kernel
  rw [e]
  rfl
theorem sig_lt {c : Nat} {x0 x1 x2 x3 : Int} (h : c ∈ octs x0 x1 x2 x3) : c < 128 := by
  simp only [octs, List.nil_append, List.mem_append, List.mem_map] at h
  rcases h with ((⟨k, hk, rfl⟩ | ⟨k, hk, rfl⟩) | ⟨k, hk, rfl⟩) | ⟨k, hk, rfl⟩ <;> (have := octL_bound hk; k_extra "om")
theorem word_c {o1 : Addr} {x0 x1 x2 x3 : Int} {k0 k1 k2 k3 k4 : Tok} {q : Int} {rest : List (Addr × Obj)} (B : Below A₀ base outer h₀) (F : Fr h₀ L s.heap m) (X : (K w.params).In h₀) (N : News h₀ L s.heap ((o1, tupO [.int x0 k0, .int x1 k1, .int x2 k2, .int x3 k3]) :: rest))
   (T : Top topProg LL mean mg mb h₀) (hk : cs.kind = .function) (hdp : dp + 60 < recursionLimit) (hu : un + 480 < cLine)
   (hx0 : 0 ≤ x0) (hx1 : 0 ≤ x1) (hx2 : 0 ≤ x2) (hx3 : 0 ≤ x3) (hy0 : x0 < 4096) (hy1 : x1 < 4096) (hy2 : x2 < 4096) (hy3 : x3 < 4096)
   (hret : ∀ t h' tk', Fr h₀ L h' m → News h₀ L h' ((o1, tupO [.int x0 k0, .int x1 k1, .int x2 k2, .int x3 k3]) :: rest) → Q (.str ⟨(wordL q (octs x0 x1 x2 x3)).toArray⟩ t) { s with heap := h', toks := tk' }) :
   wpAny (model PP w) (ktrTop dp un gd cn cs L a ccd cl outer) (call (.ref 268) [.ref o1, .int q k4]) Q E s := by
  rcases cs with ⟨ck, cnames, cgen, cco, cmore⟩
  cases hk
  (try (refine letA (dp := dp) (un := un) rfl rfl ?_; intro A1 dA1 uA1))
  k_steps
  k_extra "mine held"
  k_extra "mine cassign"
  k_steps
  k_extra "mine held"
  k_extra "mine ytup"
  k_extra "mine cbegin"
  k_dflt (refine' comp_fold (ps := [(.int x0 k0, x0), (.int x1 k1, x1), (.int x2 k2, x2), (.int x3 k3, x3)]) (fun p => (∃ k, p.1 = .int p.2 k) ∧ 0 ≤ p.2 ∧ p.2 < 4096) (fun done acc => SigAre acc ((done.map fun x => (octL x).map Int.toNat).flatten) ∧ acc.length ≤ 2 * done.length) ?v1 ?vF ?vN ?vY ?vU1 ?vC ?vU2 ?vU3 ?vs ?vP ?vJ ?vt ?vf)
  case v1 => exact rfl
  case vF => k_asm
  case vN => k_asm
  case vY => k_asm
  case vU1 => k_extra "mine rem"
  case vC => k_asm
  case vU2 => k_extra "mine rem"
  case vU3 => k_extra "mine rem"
  case vs => k_extra "mine sub"
  case vP =>
    intro p hp
    simp only [List.mem_cons, List.not_mem_nil, or_false] at hp
    rcases hp with rfl | rfl | rfl | rfl
    · exact ⟨⟨_, rfl⟩, hx0, hy0⟩
    · exact ⟨⟨_, rfl⟩, hx1, hy1⟩
    · exact ⟨⟨_, rfl⟩, hx2, hy2⟩
    · exact ⟨⟨_, rfl⟩, hx3, hy3⟩
  case vJ => exact ⟨.nil, Nat.le_refl _⟩
  case vt =>
    clear hx0 hx1 hx2 hx3 hy0 hy1 hy2 hy3 hret
    intro KK p done acc n9 io9 oC9 m9 h9 tk9 hP9 hJ9 hd9 hC9 F9 N9 kont
    obtain ⟨v, x⟩ := p
    obtain ⟨⟨kx, hv⟩, hx0, hy0⟩ := hP9
    dsimp only at hv hx0 hy0 kont ⊢
    subst hv
    obtain ⟨hJ9, hz9⟩ := hJ9
    have hd9 : done.length < 4 := hd9
    k_steps
    k_extra "mine held"
    k_extra "mine ylist"
    k_extra "mine cstart"
    rename IntsAre _ _ => hi0
    k_dflt (refine' comp_map_r (fun x v => ∃ k t0 t1, (∀ t, x t = .int k t0) ∧ v = .str ⟨#[k.toNat]⟩ t1) (fun s h => comp_inner h) ?m0hh ?m0l ?m0p ?m0F ?m0N ?m0U1 ?m0U2 ?m0U3 ?m0Y ?m0C ?m0s ?m0z ?m0e ?_; (case m0hh => exact rfl); (case m0l => exact rfl); (case m0p => exact rfl); (case m0F => k_asm); (case m0N => k_asm); (case m0U1 => k_extra "mine rem"); (case m0U2 => k_extra "mine rem"); (case m0U3 => k_extra "mine rem"); (case m0Y => k_asm); (case m0C => k_asm); (case m0s => k_extra "mine sub"))
    case m0z =>
      have hL := octL_len x
      simp only [List.length_map, hi0.length] at hL ⊢
      k_extra "om"
    case m0e =>
      intro x hx t oC8 io8 acc8 n8 m8 h8 tk8 Q8 c1 c2 c3 F8 N8 ret
      obtain ⟨k, t0, hk9, rfl⟩ := ints_cV hi0 hx
      have c4 : m8 (Str.ofString "octet") = some (.int k t0) := c2
      have hb : 0 ≤ k ∧ k < 128 := octL_bound hk9
      k_steps
      exact ret _ _ _ ⟨k, t0, _, fun _ => rfl, rfl⟩ (by k_asm) (by k_asm)
    intro ys0 oC0 n0 m0 h0 tk0 hP0 c10 c20 F0 N0
    have hs0 := paired_chr hi0 hP0
    show KK _
    refine kont _ _ _ _ _ _ ⟨?_, ?_⟩ c10 F0 (by k_extra "mine news")
    · rw [List.map_append, List.flatten_append]
      have e1 : (List.map (fun x => (octL x).map Int.toNat) [x]).flatten = (octL x).map Int.toNat := by simp
      rw [e1]
      exact hJ9.append hs0
    · have hL := octL_len x
      have hl := hs0.length
      rw [List.length_map] at hl
      rw [List.length_append, List.length_append]
      show _ ≤ 2 * (done.length + 1)
      k_extra "om"
  case vf =>
  intro YS n9 oC9 m9 h9 tk9 hJ9 hC9 F9 N9
  refine comp_use ?_
  k_steps
  k_extra "mine cfin"
  have hLo : (octs x0 x1 x2 x3).length < 1000 := by
    have a0 := octL_len x0
    have a1 := octL_len x1
    have a2 := octL_len x2
    have a3 := octL_len x3
    simp only [octs, List.length_append, List.length_map, List.length_nil]
    k_extra "om"
  have hS : SigAre YS (octs x0 x1 x2 x3) := by
    have h := hJ9.1
    rw [show (List.map (fun x => (octL x).map Int.toNat) (List.map Prod.snd [(Value.int x0 k0, x0), (.int x1 k1, x1), (.int x2 k2, x2), (.int x3 k3, x3)])).flatten = octs x0 x1 x2 x3 by simp [octs, List.append_assoc]] at h
    exact h
  clear hJ9
  k_steps
  all_goals k_extra "mine held"
  all_goals k_extra "mine cexpr"
  all_goals k_steps
  all_goals k_extra "mine held"
  all_goals k_extra "mine ylist"
  all_goals k_extra "mine cbegin"
  · k_dflt (refine' comp_map_r (fun x v => ∃ c t0 t1, (∀ t, x t = Value.str ⟨#[c]⟩ t0) ∧ v = .str ⟨(qf c).toArray⟩ t1) (fun s h => comp_turn h) ?m7hh ?m7l ?m7p ?m7F ?m7N ?m7U1 ?m7U2 ?m7U3 ?m7Y ?m7C ?m7s ?m7z ?m7e ?_; (case m7hh => exact rfl); (case m7l => exact rfl); (case m7p => exact rfl); (case m7F => k_asm); (case m7N => k_asm); (case m7U1 => k_extra "mine rem"); (case m7U2 => k_extra "mine rem"); (case m7U3 => k_extra "mine rem"); (case m7Y => k_asm); (case m7C => k_asm); (case m7s => k_extra "mine sub"))
    case m7z =>
      rw [List.length_nil, List.length_map, hS.length]
      k_extra "om"
    case m7e =>
      intro x hx t oC8 io8 acc8 n8 m8 h8 tk8 Q8 c1 c2 c3 F8 N8 ret
      obtain ⟨c, t0, hk9, rfl⟩ := sig_cV hS hx
      have c4 : m8 (Str.ofString "sign") = some (.str ⟨#[c]⟩ t0) := c2
      have ho := occ_sign ⟨c, sig_lt hk9⟩
      dsimp only at ho
      k_steps
      · rename _ = true => hE
        rw [ho] at hE
        refine ret _ _ _ ⟨c, t0, t0, fun _ => rfl, ?_⟩ (by k_asm) (by k_asm)
        unfold qf
        rw [if_neg (by simpa using hE)]
      · rename _ = false => hE
        rw [ho] at hE
        refine ret _ _ _ ⟨c, t0, ?tq, fun _ => rfl, ?_⟩ (by k_asm) (by k_asm)
        rotate_left
        unfold qf
        rw [if_pos (by rcases Nat.decEq c 34 with h | h; exact .inr ((by simpa using hE : ¬c = 34 → c = 92) h); exact .inl h), bs_add]
    intro ys7 oC7 n7 m7 h7 tk7 hP7 c17 c27 F7 N7
    have hT := paired_tx qf hS hP7
    have hB : ∀ l ∈ (octs x0 x1 x2 x3).map qf, l.length ≤ 1000 := fun l hl => by
      obtain ⟨c, hc, rfl⟩ := List.mem_map.mp hl
      unfold qf
      first | (split <;> simp) | simp
    have hZ : ((octs x0 x1 x2 x3).map qf).length ≤ 1000 := by
      rw [List.length_map]
      exact Nat.le_trans (Nat.le_of_eq rfl) (Nat.le_of_lt hLo)
    have hT' : TxAre ([] ++ ys7) ((octs x0 x1 x2 x3).map qf) := hT
    k_extra "mine cend"
    have hF := flat_le qf (fun c => by unfold qf; split <;> simp) (octs x0 x1 x2 x3)
    rename q ≠ 0 => hq0
    have eW : wordL q (octs x0 x1 x2 x3) = [34] ++ ((octs x0 x1 x2 x3).map qf).flatten ++ [34] := if_neg hq0
    rw [eW] at hret
    k_steps
    rw [q_str, str_app, str_app]
    exact hret _ _ _ (by k_asm) (by k_extra "mine news")
  · k_dflt (refine' comp_map_r (fun x v => ∃ c t0 t1, (∀ t, x t = Value.str ⟨#[c]⟩ t0) ∧ v = .str ⟨(bf c).toArray⟩ t1) (fun s h => comp_turn h) ?m8hh ?m8l ?m8p ?m8F ?m8N ?m8U1 ?m8U2 ?m8U3 ?m8Y ?m8C ?m8s ?m8z ?m8e ?_; (case m8hh => exact rfl); (case m8l => exact rfl); (case m8p => exact rfl); (case m8F => k_asm); (case m8N => k_asm); (case m8U1 => k_extra "mine rem"); (case m8U2 => k_extra "mine rem"); (case m8U3 => k_extra "mine rem"); (case m8Y => k_asm); (case m8C => k_asm); (case m8s => k_extra "mine sub"))
    case m8z =>
      rw [List.length_nil, List.length_map, hS.length]
      k_extra "om"
    case m8e =>
      intro x hx t oC8 io8 acc8 n8 m8 h8 tk8 Q8 c1 c2 c3 F8 N8 ret
      obtain ⟨c, t0, hk9, rfl⟩ := sig_cV hS hx
      have c4 : m8 (Str.ofString "sign") = some (.str ⟨#[c]⟩ t0) := c2
      have ho := occ_sign ⟨c, sig_lt hk9⟩
      dsimp only at ho
      k_steps
      refine ret _ _ _ ⟨c, t0, ?tr, fun _ => rfl, ?_⟩ (by k_asm) (by k_asm)
      rotate_left
      unfold bf
      rw [bs_add]
    intro ys7 oC7 n7 m7 h7 tk7 hP7 c17 c27 F7 N7
    have hT := paired_tx bf hS hP7
    have hB : ∀ l ∈ (octs x0 x1 x2 x3).map bf, l.length ≤ 1000 := fun l hl => by
      obtain ⟨c, hc, rfl⟩ := List.mem_map.mp hl
      unfold bf
      first | (split <;> simp) | simp
    have hZ : ((octs x0 x1 x2 x3).map bf).length ≤ 1000 := by
      rw [List.length_map]
      exact Nat.le_trans (Nat.le_of_eq rfl) (Nat.le_of_lt hLo)
    have hT' : TxAre ([] ++ ys7) ((octs x0 x1 x2 x3).map bf) := hT
    k_extra "mine cend"
    have hF := flat_le bf (fun c => Nat.le_refl _) (octs x0 x1 x2 x3)
    rename q = 0 => hq0
    have eW : wordL q (octs x0 x1 x2 x3) = ((octs x0 x1 x2 x3).map bf).flatten ++ [10] := if_pos hq0
    rw [eW] at hret
    k_steps
    rw [n_str, str_app]
    exact hret _ _ _ (by k_asm) (by k_extra "mine news")
end
section
variable {w : World} {mean : ExcName → Option Value} {mg mb : Str → Option Value} {dp un : Nat} {gd : Option (List Code)} {cn : Str} {cs : Scope} {L a : Addr} {ccd : Value} {cl : List (Str × Addr)} {outer : List Env}
   {A₀ : Around} {base h₀ : Heap} {m : Str → Option Value} {s : Shared} {Q E : Value → Shared → Prop}
open G0 G3 G8 G10 G36
inductive LexF (w : World) (r news : List (Addr × Obj)) (x d S : Addr) (T : LexT) : Prop
  | mk (d1 f c' C pb1 : Addr) (oc oC : Obj) (q : Str) (t0 t1 t2 t3 t4 t5 tw : Tok) (n1 : Nat) (vs : Array Value) (t9 : Tok) (doc pm ctv : Value)
    (m1 : (x, instObj 245 d) ∈ r) (m2 : (T.x1, instObj 245 d1) ∈ r) (m3 : (d1, streamDict w t0 t1 t2 t3 t4 t5 tw pb1 f n1) ∈ r) (m4 : (f, pieceFn q C doc pm c' ctv) ∈ r) (m5 : (c', oc) ∈ r) (m6 : (C, oC) ∈ r)
    (hd : oc.data = .fields vs) (hq : vs[1]? = some (.str q t9)) (hc : oC.data = .cell (some (.ref S))) (f1 : ∀ p ∈ news, p.1 < x) (f2 : ∀ p ∈ news, p.1 < T.x1) (f3 : ∀ p ∈ news, p.1 < d1) (f4 : ∀ p ∈ news, p.1 < f) (f5 : ∀ p ∈ news, p.1 < c') (f6 : ∀ p ∈ news, p.1 < C) : LexF w r news x d S T
theorem LexF.rf {w : World} {r news : List (Addr × Obj)} {x d S : Addr} {T : LexT} {tb : Obj} (h : LexF w r news x d S T) (ht : (251, tb) ∈ r) :
    ∃ rf : List (Addr × Obj), (∀ p ∈ rf, p ∈ r) ∧ LexAt w rf x d S T ∧ (251, tb) ∈ rf ∧ (∀ p ∈ rf, p.1 = 251 ∨ ∀ q ∈ news, q.1 < p.1) := by
  obtain ⟨d1, f, c', C, pb1, oc, oC, q, t0, t1, t2, t3, t4, t5, tw, n1, vs, t9, doc, pm, ctv, m1, m2, m3, m4, m5, m6, hd, hq, hc, f1, f2, f3, f4, f5, f6⟩ := h
  refine ⟨[(x, instObj 245 d), (T.x1, instObj 245 d1), (d1, streamDict w t0 t1 t2 t3 t4 t5 tw pb1 f n1), (f, pieceFn q C doc pm c' ctv), (c', oc), (C, oC), (251, tb)], ?_, ?_, ?_, ?_⟩
  · intro p hp
    simp only [List.mem_cons, List.not_mem_nil, or_false] at hp
    rcases hp with rfl | rfl | rfl | rfl | rfl | rfl | rfl <;> assumption
  · exact ⟨d1, f, c', C, pb1, oc, oC, q, t0, t1, t2, t3, t4, t5, tw, n1, vs, t9, doc, pm, ctv, .head _, .tail _ (.head _), .tail _ (.tail _ (.head _)), .tail _ (.tail _ (.tail _ (.head _))), .tail _ (.tail _ (.tail _ (.tail _ (.head _)))), .tail _ (.tail _ (.tail _ (.tail _ (.tail _ (.head _))))), hd, hq, hc⟩
  · exact .tail _ (.tail _ (.tail _ (.tail _ (.tail _ (.tail _ (.head _))))))
  · intro p hp
    simp only [List.mem_cons, List.not_mem_nil, or_false] at hp
    rcases hp with rfl | rfl | rfl | rfl | rfl | rfl | rfl
    · exact .inr f1
    · exact .inr f2
    · exact .inr f3
    · exact .inr f4
    · exact .inr f5
    · exact .inr f6
    · exact .inl rfl
theorem lexer_c {x : Str} {k0 : Tok} {news : List (Addr × Obj)} (B : Below A₀ base outer h₀) (F : Fr h₀ L s.heap m) (X : (K w.params).In h₀) (N : News h₀ L s.heap ((251, tabObj #[]) :: news))
   (T : Top topProg LL mean mg mb h₀) (hk : cs.kind = .function) (hdp : dp + 60 < recursionLimit) (hu : un + 480 < cLine)
   (CH : CodeHd base 255 251) (h251 : ∀ p ∈ news, p.1 ≠ 251) (hz : x.cps.size ≤ 1000)
   (hret : ∀ (x0 d S : Nat) T vs tl n n2 r h' tk', LexF w r news x0 d S T → LeftIs vs x.cps.toList → (∃ ps, (251, tabObj ps) ∈ r) → (∀ p ∈ news, p ∈ r) → (∀ p ∈ r, p.1 ≠ d) → (∀ p ∈ r, p.1 ≠ S) → (∀ p ∈ r, p.1 ≠ T.pb) → S < d → d < T.pb →
       Fr h₀ L h' m → News h₀ L h' ((T.pb, listO [] n) :: (d, lexDict w T 1 tl) :: (S, listO vs n2) :: r) → Q (.ref x0) { s with heap := h', toks := tk' }) :
   wpAny (model PP w) (ktrTop dp un gd cn cs L a ccd cl outer) (call (.ref 256) [.str x k0]) Q E s := by
  rcases cs with ⟨ck, cnames, cgen, cco, cmore⟩
  cases hk
  (try (refine letA (dp := dp) (un := un) rfl rfl ?_; intro A1 dA1 uA1))
  k_steps
  rename SigAre _ _ => hS
  rename _ = Data.cell _ => hc
  rename _ = Data.fields _ => hd
  rename _ = some (Value.str _ _) => hq
  rename News h₀ _ _ _ => kN
  rename Fr h₀ _ _ _ => kF
  have kN' := lex_fin kN
  refine' hret _ _ _ ⟨_, _, _, _, _, _, _⟩ _ _ _ _ _ _ _ ?lat ?sg ?gr ?sub ?n1 ?n2 ?n3 ?o1 ?o2 kF kN'
  case lat =>
    refine' ⟨_, _, _, _, _, _, _, _, _, _, _, _, _, _, _, _, _, _, _, _, _, ?m1, ?m2, ?m3, ?m4, ?m5, ?m6, hd, hq, hc, ?f1, ?f2, ?f3, ?f4, ?f5, ?f6⟩
    case m1 => k_mem
    case m2 => k_mem
    case m3 => k_mem
    case m4 =>
      refine' List.Mem.tail _ (mem_head_eq ?_)
      unfold pieceFn
      (conv => lhs; rhs; whnf)
    case m5 => k_mem
    case m6 => k_mem
    all_goals try dsimp only
    all_goals first | (refine allLt_lt ?_; k_extra "mine lt24") | (refine allLt_lt (allLt_s ?_); k_extra "mine lt24") | (refine fun p hp => Nat.lt_trans (allLt_lt ?_ p hp) ?lt9; (case lt9 => assumption); k_extra "mine lt24") | (refine fun p hp => Nat.lt_trans (allLt_lt ?_ p hp) ‹_›; k_extra "mine lt24")
  case gr => exact ⟨_, by k_mem⟩
  case sub => k_extra "mine sub"
  case n1 => (dsimp only; (repeat (refine List.forall_mem_cons.mpr ⟨by k_ne, ?_⟩)); exact allLt_ne (by k_extra "mine lt24"))
  case n2 => (dsimp only; (repeat (refine List.forall_mem_cons.mpr ⟨by k_ne, ?_⟩)); exact allLt_ne (by k_extra "mine lt24"))
  case n3 => (dsimp only; (repeat (refine List.forall_mem_cons.mpr ⟨by k_ne, ?_⟩)); exact allLt_ne (by k_extra "mine lt24"))
  case sg =>
    unfold LeftIs
    rw [List.reverse_reverse]
    exact hS
  case o1 => (refine ltN ?_; (try dsimp only); k_extra "om")
  case o2 => (refine ltN ?_; (try dsimp only); k_extra "om")
end
section
variable {w : World} {mean : ExcName → Option Value} {mg mb : Str → Option Value} {dp un : Nat} {gd : Option (List Code)} {cn : Str} {cs : Scope} {L a : Addr} {ccd : Value} {cl : List (Str × Addr)} {outer : List Env}
   {A₀ : Around} {base h₀ : Heap} {m : Str → Option Value} {s : Shared} {Q E : Value → Shared → Prop}
open G0 G3 G8 G10 G38
theorem rc_nilC {x d S : Addr} {LT : LexT} {vs : List Value} {ln : Int} {tl : Tok} {n2 : Nat} {news r0 r1 r2 : List (Addr × Obj)} (B : Below A₀ base outer h₀) (F : Fr h₀ L s.heap m) (X : (K w.params).In h₀) (N : News h₀ L s.heap news)
   (T : Top topProg LL mean mg mb h₀) (hk : cs.kind = .function) (hdp : dp + 60 < recursionLimit) (hu : un + 480 < cLine)
   (LX0 : LexAt w r0 x d S LT) (R1 : RemF d (lexDict w LT ln tl) news r1) (R2 : RemF S (listO vs n2) r1 r2) (LS : ∀ p ∈ r0, p ∈ r2) (hln : 0 ≤ ln) (hlu : ln < 100000) (CH : CodeHd base 255 251) (hl : LeftIs vs [])
   (hret : ∀ t n2 h' tk', Fr h₀ L h' m → News h₀ L h' ((d, lexDict w LT ln tl) :: (S, listO vs n2) :: r2) → Q (.str (Str.ofString "") t) { s with heap := h', toks := tk' }) :
   codeAny (model PP w) (ktrTop dp un gd cn cs L a ccd cl outer) (.call (.ref 228) ⟨[.ref x], []⟩) (Ret Q E) s := by
  (try (refine letA (dp := dp) (un := un) rfl rfl ?_; intro A1 dA1 uA1))
  have LX := LX0.mono LS
  obtain ⟨d1, f, c', C, pb1, oc, oC, q, t0, t1, t2, t3, t4, t5, tw, n3, ws, t9, doc, pm, ctv, a1, a2, a3, a4, a5, a6, a7, a8, a9⟩ := LX
  have eS := remF_ne R2
  have ed : ∀ p ∈ r2, p.1 ≠ d := fun p hp => remF_ne R1 p (remF_sub R2 p hp)
  have edS : @Ne Nat d S := fun e => remF_ne R1 _ (remF_mem R2) e.symm
  have N2 : News h₀ L s.heap ((d, lexDict w LT ln tl) :: (S, listO vs n2) :: (x, instObj 245 d) :: (LT.x1, instObj 245 d1) :: (d1, streamDict w t0 t1 t2 t3 t4 t5 tw pb1 f n3) :: (f, pieceFn q C doc pm c' ctv) :: (c', oc) :: (C, oC) :: r2) := by
    have s2 : ∀ p ∈ r2, p ∈ news := fun p hp => remF_sub R1 p (remF_sub R2 p hp)
    intro p hp
    simp only [List.mem_cons] at hp
    apply N
    rcases hp with h | h | h | h | h | h | h | h | h
    · rw [h]; exact remF_mem R1
    · rw [h]; exact remF_sub R1 _ (remF_mem R2)
    · rw [h]; exact s2 _ a1
    · rw [h]; exact s2 _ a2
    · rw [h]; exact s2 _ a3
    · rw [h]; exact s2 _ a4
    · rw [h]; exact s2 _ a5
    · rw [h]; exact s2 _ a6
    · exact s2 _ h
  have b1 : @Ne Nat x d := ed _ a1
  have b2 : @Ne Nat LT.x1 d := ed _ a2
  have b3 : @Ne Nat d1 d := ed _ a3
  have b4 : @Ne Nat f d := ed _ a4
  have b5 : @Ne Nat c' d := ed _ a5
  have b6 : @Ne Nat C d := ed _ a6
  have g1 : @Ne Nat x S := eS _ a1
  have g2 : @Ne Nat LT.x1 S := eS _ a2
  have g3 : @Ne Nat d1 S := eS _ a3
  have g4 : @Ne Nat f S := eS _ a4
  have g5 : @Ne Nat c' S := eS _ a5
  have g6 : @Ne Nat C S := eS _ a6
  clear N R1 R2
  unfold pieceFn at N2 a4
  (conv at N2 => enter [4, 2, 2, 2, 2, 2, 1, 2]; whnf)
  dsimp only [lexDict, streamDict] at N2
  have e := hl.nil
  subst e
  k_dflt cell_enter
  k_steps
  all_goals exact hret _ _ _ _ (by k_asm) (by k_extra "mine news")
theorem one_nl {c : Nat} (h : c ≠ 10) : (⟨#[c]⟩ : Str) ≠ Str.ofString "\n" := by
  have e : Str.ofString "\n" = ⟨#[10]⟩ := by decide +kernel
  rw [e]
  intro k
  injection k with k
  injection k with k
  injection k with k
  exact h k
theorem rc_consC {x d S : Addr} {LT : LexT} {vs : List Value} {ln : Int} {tl : Tok} {n2 : Nat} {news r0 r1 r2 : List (Addr × Obj)} {c : Nat} {l : List Nat} (B : Below A₀ base outer h₀) (F : Fr h₀ L s.heap m) (X : (K w.params).In h₀) (N : News h₀ L s.heap news)
   (T : Top topProg LL mean mg mb h₀) (hk : cs.kind = .function) (hdp : dp + 60 < recursionLimit) (hu : un + 480 < cLine)
   (LX0 : LexAt w r0 x d S LT) (R1 : RemF d (lexDict w LT ln tl) news r1) (R2 : RemF S (listO vs n2) r1 r2) (LS : ∀ p ∈ r0, p ∈ r2) (hln : 0 ≤ ln) (hlu : ln < 100000) (CH : CodeHd base 255 251) (hl : LeftIs vs (c :: l)) (hz : l.length < 1000)
   (hret : ∀ t tl us n2 h' tk', LeftIs us l → Fr h₀ L h' m → News h₀ L h' ((d, lexDict w LT (ln + nl c) tl) :: (S, listO us n2) :: r2) → Q (.str ⟨#[c]⟩ t) { s with heap := h', toks := tk' }) :
   codeAny (model PP w) (ktrTop dp un gd cn cs L a ccd cl outer) (.call (.ref 228) ⟨[.ref x], []⟩) (Ret Q E) s := by
  (try (refine letA (dp := dp) (un := un) rfl rfl ?_; intro A1 dA1 uA1))
  have LX := LX0.mono LS
  obtain ⟨d1, f, c', C, pb1, oc, oC, q, t0, t1, t2, t3, t4, t5, tw, n3, ws, t9, doc, pm, ctv, a1, a2, a3, a4, a5, a6, a7, a8, a9⟩ := LX
  have eS := remF_ne R2
  have ed : ∀ p ∈ r2, p.1 ≠ d := fun p hp => remF_ne R1 p (remF_sub R2 p hp)
  have edS : @Ne Nat d S := fun e => remF_ne R1 _ (remF_mem R2) e.symm
  have N2 : News h₀ L s.heap ((d, lexDict w LT ln tl) :: (S, listO vs n2) :: (x, instObj 245 d) :: (LT.x1, instObj 245 d1) :: (d1, streamDict w t0 t1 t2 t3 t4 t5 tw pb1 f n3) :: (f, pieceFn q C doc pm c' ctv) :: (c', oc) :: (C, oC) :: r2) := by
    have s2 : ∀ p ∈ r2, p ∈ news := fun p hp => remF_sub R1 p (remF_sub R2 p hp)
    intro p hp
    simp only [List.mem_cons] at hp
    apply N
    rcases hp with h | h | h | h | h | h | h | h | h
    · rw [h]; exact remF_mem R1
    · rw [h]; exact remF_sub R1 _ (remF_mem R2)
    · rw [h]; exact s2 _ a1
    · rw [h]; exact s2 _ a2
    · rw [h]; exact s2 _ a3
    · rw [h]; exact s2 _ a4
    · rw [h]; exact s2 _ a5
    · rw [h]; exact s2 _ a6
    · exact s2 _ h
  have b1 : @Ne Nat x d := ed _ a1
  have b2 : @Ne Nat LT.x1 d := ed _ a2
  have b3 : @Ne Nat d1 d := ed _ a3
  have b4 : @Ne Nat f d := ed _ a4
  have b5 : @Ne Nat c' d := ed _ a5
  have b6 : @Ne Nat C d := ed _ a6
  have g1 : @Ne Nat x S := eS _ a1
  have g2 : @Ne Nat LT.x1 S := eS _ a2
  have g3 : @Ne Nat d1 S := eS _ a3
  have g4 : @Ne Nat f S := eS _ a4
  have g5 : @Ne Nat c' S := eS _ a5
  have g6 : @Ne Nat C S := eS _ a6
  clear N R1 R2
  unfold pieceFn at N2 a4
  (conv at N2 => enter [4, 2, 2, 2, 2, 2, 1, 2]; whnf)
  dsimp only [lexDict, streamDict] at N2
  obtain ⟨us, t, e, hu⟩ := hl.cons
  subst e
  have hz' : us.length < 1000 := by rw [hu.length]; exact hz
  k_dflt cell_enter
  k_steps
  · have hc : c = 10 := by
      rcases Nat.decEq c 10 with h | h
      · exact absurd (eq_of_beq (by assumption)) (one_nl h)
      · exact h
    have e0 : ln + nl c = ln + 1 := by unfold nl; rw [if_pos hc]
    rw [e0] at hret
    exact hret _ _ _ _ _ _ hu (by k_asm) (by k_extra "mine news")
  · have hc : c ≠ 10 := by
      intro h
      subst h
      rename _ = false => hf
      have h2 : ((⟨#[10]⟩ : Str) == Str.ofString "\n") = true := by decide +kernel
      rw [h2] at hf
      cases hf
    have e0 : ln + nl c = ln := by unfold nl; rw [if_neg hc]; k_extra "om"
    rw [e0] at hret
    exact hret _ _ _ _ _ _ hu (by k_asm) (by k_extra "mine news")
end
section
variable {w : World} {mean : ExcName → Option Value} {mg mb : Str → Option Value} {dp un : Nat} {gd : Option (List Code)} {cn : Str} {cs : Scope} {L a : Addr} {ccd : Value} {cl : List (Str × Addr)} {outer : List Env}
   {A₀ : Around} {base h₀ : Heap} {m : Str → Option Value} {s : Shared} {Q E : Value → Shared → Prop}
theorem owner_ci : Manifest.owners.lookup (String.ofList ['r', 'o', 't', 'a', 'r', 'e', 't', 'i', '_', 'e', 'l', 'b', 'a', 'l', 'l', 'a', 'c'].reverse) = some Manifest.sig_callable_iterator := by kernel_rfl
theorem slot_ci_next : Slot "callable_iterator" "__next__" "callable_iterator.__next__" :=
  .of (owner := "callable_iterator") (n := "__next__") (by rw [typeLookup_type, builtinLookup_eq_fast]; kernel_rfl) (by decide +kernel) (by decide +kernel) (by decide +kernel)
    (by first | exact .inl (by decide +kernel) | exact .inr (by decide +kernel)) (by rw [isSubtype_type]; kernel_rfl)
theorem slot_ci_iter : Slot "callable_iterator" "__iter__" "callable_iterator.__iter__" :=
  .of (owner := "callable_iterator") (n := "__iter__") (by rw [typeLookup_type, builtinLookup_eq_fast]; kernel_rfl) (by decide +kernel) (by decide +kernel) (by decide +kernel)
    (by first | exact .inl (by decide +kernel) | exact .inr (by decide +kernel)) (by rw [isSubtype_type]; kernel_rfl)
theorem entry_ci_next : entryFor table "callable_iterator.__next__" = some Builtin.«callable_iterator.__next__» := entryFor_of_tree (by kernel_rfl)
theorem entry_ci_iter : entryFor table "callable_iterator.__iter__" = some Builtin.«dict_keyiterator.__iter__» := entryFor_alias (id' := "dict_keyiterator.__iter__") (by kernel_rfl) rfl (by decide +kernel) (by kernel_rfl)
theorem args_ci_next (a : Value) : argsOk "callable_iterator.__next__" ⟨[a], []⟩ := by
  unfold argsOk; rw [signature?_of (id := "callable_iterator.__next__") (n := ['_', '_', 't', 'x', 'e', 'n', '_', '_']) (o := ['r', 'o', 't', 'a', 'r', 'e', 't', 'i', '_', 'e', 'l', 'b', 'a', 'l', 'l', 'a', 'c']) (by kernel_rfl) owner_ci]; kernel_rfl
theorem args_ci_iter (a : Value) : argsOk "callable_iterator.__iter__" ⟨[a], []⟩ := by
  unfold argsOk; rw [signature?_of (id := "callable_iterator.__iter__") (n := ['_', '_', 'r', 'e', 't', 'i', '_', '_']) (o := ['r', 'o', 't', 'a', 'r', 'e', 't', 'i', '_', 'e', 'l', 'b', 'a', 'l', 'l', 'a', 'c']) (by kernel_rfl) owner_ci]; kernel_rfl
theorem kdk_args_iter2 (a b : Value) : argsOk "iter" ⟨[a, b], []⟩ := by unfold argsOk; kernel_rfl
theorem meth_call : typeLookup (.type "method") (Str.ofString "__call__") = pure (some (.builtin "method.__call__")) := by rw [typeLookup_type, builtinLookup_eq_fast]; kernel_rfl
noncomputable abbrev ciObj (q : Addr) (t : Tok) : Obj := { cls := .type "callable_iterator", data := .fields #[.ref q, .str (Str.ofString "") t, .bool false] }
theorem ci_new {news : List (Addr × Obj)} {q : Addr} {f self : Value} {t : Tok} {A : Around} {prog : Program} (F : Fr h₀ L s.heap m) (N : News h₀ L s.heap news) (hq : (q, methodObj f self) ∈ news)
    (h : ∀ I h', Fr h₀ L h' m → News h₀ L h' ((I, ciObj q t) :: news) → (∀ p ∈ news, p.1 < I) → Q (.ref I) { s with heap := h' }) :
    wpAny (model prog w) A (call (.builtin "iter") [.ref q, .str (Str.ofString "") t]) Q E s := by
  refine call_function_entry (by decide +kernel) (by decide +kernel) kdk_entry_iter (kdk_args_iter2 _ _) ?_
  unfold Builtin.«iter»
  refine wpAny_bind (m := someArgs "iter" 1 2 _) (wpAny_of_eq (a := [Value.ref q, .str (Str.ofString "") t]) (by first | rfl | kernel_rfl!) ?_)
  dsimp only
  refine wpAny_bind (wpAny_specialOf (name := Str.ofString "__call__") (T := "method") ⟨_, (N _ hq).1, rfl⟩ meth_call ?_)
  rw [if_neg (show ¬ ((some (Value.builtin "method.__call__") : Option Value).isNone = true) from Bool.false_ne_true)]
  refine wpAny_bind (wpAny_rule ?_)
  refine wpAny_bind (wpAny_newObj_type (data := .fields #[.ref q, .str (Str.ofString "") t, .bool false]) ?_ (by size_fits))
  exact wpAny_pure ⟨_, rfl, h _ _ (F.push _) (News.push F N _ rfl) fun p hp => Heap.lt_size (N p hp).1⟩
theorem ci_cons {x d S : Addr} {LT : LexT} {vs : List Value} {ln : Int} {tl : Tok} {n2 : Nat} {news r0 r1 r2 : List (Addr × Obj)} {c : Nat} {l : List Nat} {I q : Addr} {t : Tok} {Q : Option Value → Shared → Prop} (B : Below A₀ base outer h₀) (F : Fr h₀ L s.heap m) (X : (K w.params).In h₀) (N : News h₀ L s.heap news)
   (T : Top topProg LL mean mg mb h₀) (hk : cs.kind = .function) (hdp : dp + 61 < recursionLimit) (hu : un + 500 < cLine)
   (LX0 : LexAt w r0 x d S LT) (R1 : RemF d (lexDict w LT ln tl) news r1) (R2 : RemF S (listO vs n2) r1 r2) (LS : ∀ p ∈ r0, p ∈ r2) (hln : 0 ≤ ln) (hlu : ln < 100000) (CH : CodeHd base 255 251) (hl : LeftIs vs (c :: l)) (hz : l.length < 1000) (hI : (I, ciObj q t) ∈ r2) (hq : (q, methodObj (.ref 228) (.ref x)) ∈ r2)
   (hret : ∀ t tl us n2 h' tk', LeftIs us l → Fr h₀ L h' m → News h₀ L h' ((d, lexDict w LT (ln + nl c) tl) :: (S, listO us n2) :: r2) → Q (some (.str ⟨#[c]⟩ t)) { s with heap := h', toks := tk' }) :
   wpAny (model PP w) (ktrTop dp un gd cn cs L a ccd cl outer) (pyNext (.ref I)) Q E s := by
  have sub : ∀ p ∈ r2, p ∈ news := fun p hp => remF_sub R1 p (remF_sub R2 p hp)
  have hIo := (N _ (sub _ hI)).1
  have hqo := (N _ (sub _ hq)).1
  have hty : s.TypeIs (.ref I) "callable_iterator" := ⟨_, hIo, rfl⟩
  unfold pyNext
  refine wpAny_bind (wpAny_attempt (wpAny_callSpecial?_slot (name := Str.ofString "__next__") hty slot_ci_next
    (wpAny_call_entry slot_ci_next hty entry_ci_next ?_ (args_ci_next _))))
  show wpAny _ _ (field (.ref I) 2 >>= _) _ _ s
  refine wpAny_bind (wpAny_field hIo rfl (x := .bool false) rfl ?_)
  show wpAny _ _ (if (Value.bool false == Value.bool true) = true then _ else _) _ _ _
  rw [if_neg (by decide)]
  show wpAny _ _ (field (.ref I) 0 >>= _) _ _ _
  refine wpAny_bind (wpAny_field hIo rfl (x := .ref q) rfl ?_)
  have hbor : ∀ (A : Around) (E : Value → Shared → Prop) (Q : Bool → Shared → Prop), Q true s → wpAny (model PP w) A (borrowsExactly (.ref q)) Q E s := fun A E Q h => by
    have hf := F.keep _ _ (X 228 _ rfl)
    unfold borrowsExactly
    refine wpAny_bind (wpAny_load hqo ?_)
    show wpAny _ _ (if ((Value.type "method") == (Value.type "method")) = true then _ else _) _ _ _
    rw [if_pos (by decide)]
    refine wpAny_bind (wpAny_load hf ?_)
    exact wpAny_pure h
  unfold callOutOfASlot
  refine wpAny_bind (wpAny_attempt (wpAny_bind (hbor _ _ _ ?_)))
  rw [if_pos rfl]
  refine any_borrowed (method_call hqo ?_)
  show codeAny _ (ktrTop dp (un + 1) gd cn cs L a ccd cl outer) _ _ _
  refine rc_consC B F X N T hk (by k_extra "om") (by k_extra "om") LX0 R1 R2 LS hln hlu CH hl hz fun t1 tl1 us m2 h' tk' hu' F' N' => ?_
  have hIo' := (N' _ (.tail _ (.tail _ hI))).1
  show wpAny _ _ (field (.ref I) 2 >>= _) _ _ _
  refine wpAny_bind (wpAny_field hIo' rfl (x := .bool false) rfl ?_)
  show wpAny _ _ (if (Value.bool false == Value.bool true) = true then _ else _) _ _ _
  rw [if_neg (by decide)]
  show wpAny _ _ (field (.ref I) 1 >>= _) _ _ _
  refine wpAny_bind (wpAny_field hIo' rfl (x := .str (Str.ofString "") t) rfl ?_)
  refine wpAny_bind (wpAny_holding (wpAny_eqBool_str ?_))
  have hne : decide (Str.ofString "" = (⟨#[c]⟩ : Str)) = false := by
    have e : Str.ofString "" = ⟨#[]⟩ := by decide +kernel
    rw [e]
    exact decide_eq_false (by intro k; injection k with k; injection k with k; cases k)
  rw [hne]
  exact wpAny_pure ⟨_, rfl, wpAny_pure (hret _ _ _ _ _ _ hu' F' N')⟩
theorem ci_nil {x d S : Addr} {LT : LexT} {vs : List Value} {ln : Int} {tl : Tok} {n2 : Nat} {news r0 r1 r2 : List (Addr × Obj)} {I q : Addr} {t : Tok} {Q : Option Value → Shared → Prop} (B : Below A₀ base outer h₀) (F : Fr h₀ L s.heap m) (X : (K w.params).In h₀) (N : News h₀ L s.heap news)
   (T : Top topProg LL mean mg mb h₀) (hk : cs.kind = .function) (hdp : dp + 61 < recursionLimit) (hu : un + 500 < cLine)
   (LX0 : LexAt w r0 x d S LT) (R1 : RemF d (lexDict w LT ln tl) news r1) (R2 : RemF S (listO vs n2) r1 r2) (LS : ∀ p ∈ r0, p ∈ r2) (hln : 0 ≤ ln) (hlu : ln < 100000) (CH : CodeHd base 255 251) (hl : LeftIs vs []) (hI : (I, ciObj q t) ∈ r2) (hq : (q, methodObj (.ref 228) (.ref x)) ∈ r2) {nx : List (Addr × Obj)} (RI : RemF I (ciObj q t) r2 nx)
   (hret : ∀ n2 h', ∀ tk', Fr h₀ L h' m → News h₀ L h' ((d, lexDict w LT ln tl) :: (S, listO vs n2) :: nx) → Q none { s with heap := h', toks := tk' }) :
   wpAny (model PP w) (ktrTop dp un gd cn cs L a ccd cl outer) (pyNext (.ref I)) Q E s := by
  have sub : ∀ p ∈ r2, p ∈ news := fun p hp => remF_sub R1 p (remF_sub R2 p hp)
  have hIo := (N _ (sub _ hI)).1
  have hqo := (N _ (sub _ hq)).1
  have hty : s.TypeIs (.ref I) "callable_iterator" := ⟨_, hIo, rfl⟩
  unfold pyNext
  refine wpAny_bind (wpAny_attempt (wpAny_callSpecial?_slot (name := Str.ofString "__next__") hty slot_ci_next
    (wpAny_call_entry slot_ci_next hty entry_ci_next ?_ (args_ci_next _))))
  show wpAny _ _ (field (.ref I) 2 >>= _) _ _ s
  refine wpAny_bind (wpAny_field hIo rfl (x := .bool false) rfl ?_)
  show wpAny _ _ (if (Value.bool false == Value.bool true) = true then _ else _) _ _ _
  rw [if_neg (by decide)]
  show wpAny _ _ (field (.ref I) 0 >>= _) _ _ _
  refine wpAny_bind (wpAny_field hIo rfl (x := .ref q) rfl ?_)
  have hbor : ∀ (s : Shared) (A : Around) (E : Value → Shared → Prop) (Q : Bool → Shared → Prop), s.heap.get? q = some (methodObj (.ref 228) (.ref x)) → Fr h₀ L s.heap m → Q true s → wpAny (model PP w) A (borrowsExactly (.ref q)) Q E s := fun s A E Q hqo F h => by
    have hf := F.keep _ _ (X 228 _ rfl)
    unfold borrowsExactly
    refine wpAny_bind (wpAny_load hqo ?_)
    show wpAny _ _ (if ((Value.type "method") == (Value.type "method")) = true then _ else _) _ _ _
    rw [if_pos (by decide)]
    refine wpAny_bind (wpAny_load hf ?_)
    exact wpAny_pure h
  unfold callOutOfASlot
  refine wpAny_bind (wpAny_attempt (wpAny_bind (hbor _ _ _ _ hqo F ?_)))
  rw [if_pos rfl]
  refine any_borrowed (method_call hqo ?_)
  show codeAny _ (ktrTop dp (un + 1) gd cn cs L a ccd cl outer) _ _ _
  refine rc_nilC B F X N T hk (by k_extra "om") (by k_extra "om") LX0 R1 R2 LS hln hlu CH hl fun t1 m2 h' tk' F' N' => ?_
  have hIo' := (N' _ (.tail _ (.tail _ hI))).1
  have hqo' := (N' _ (.tail _ (.tail _ hq))).1
  show wpAny _ _ (field (.ref I) 2 >>= _) _ _ _
  refine wpAny_bind (wpAny_field hIo' rfl (x := .bool false) rfl ?_)
  show wpAny _ _ (if (Value.bool false == Value.bool true) = true then _ else _) _ _ _
  rw [if_neg (by decide)]
  show wpAny _ _ (field (.ref I) 1 >>= _) _ _ _
  refine wpAny_bind (wpAny_field hIo' rfl (x := .str (Str.ofString "") t) rfl ?_)
  refine wpAny_bind (wpAny_holding (wpAny_eqBool_str ?_))
  rw [decide_eq_true rfl]
  show wpAny _ _ (rule _ >>= _) _ _ _
  refine wpAny_bind (wpAny_rule (wpAny_bind ?_))
  show wpAny _ _ (field (.ref I) 0 >>= _) _ _ _
  refine wpAny_bind (wpAny_field hIo' rfl (x := .ref q) rfl ?_)
  refine wpAny_bind ?_
  unfold slotLetsGo
  refine wpAny_bind (hbor _ _ _ _ hqo' F' ?_)
  rw [if_pos rfl]
  refine wpAny_pure ?_
  refine wpAny_bind (wpAny_setField hIo' rfl (by simp) ?_)
  have k1 := Heap.get?_update_self (h := h') (Obj.mapFields (·.setIfInBounds 0 Value.none)) hIo' rfl
  refine wpAny_bind (wpAny_setField k1 rfl (by simp [Obj.mapFields]) ?_)
  have k2 := Heap.get?_update_self (Obj.mapFields (·.setIfInBounds 1 Value.none)) k1 rfl
  refine wpAny_setField k2 rfl (by simp [Obj.mapFields]) ?_
  show wpAny _ _ (newExc (.type "StopIteration") [] >>= _) _ _ _
  refine wpAny_bind ?_
  simp only [newExc, newTuple]
  refine wpAny_bind (wpAny_newObj_type ?_ (by size_fits))
  refine wpAny_bind (m := firstArgMember _ _) (wpAny_of_eq (a := Value.none) (by first | rfl | (simp only [firstArgMember]; rfl)) ?_)
  refine wpAny_newObj_type ?_ (by size_fits)
  simp only [raiseNew]
  refine wpAny_bind (wpAny_handled ?_)
  refine wpAny_bind (wpAny_pure (wpAny_throw ?_))
  refine wpAny_bind (wpAny_isInstance (T := "StopIteration") (b := true) ⟨_, Heap.get?_push_size _ rfl, rfl⟩ isSubtype_stop ?_)
  rw [if_pos rfl]
  have hx : ∀ (o₁ o₂ : Obj) (f₁ f₂ f₃ : Obj → Obj), Heap.ExtBut I h' (((((h'.update I f₁).update I f₂).update I f₃).push o₁).push o₂) := fun o₁ o₂ f₁ f₂ f₃ b o hb e => by
    refine Heap.get?_push_of_some _ (Heap.get?_push_of_some _ ?_)
    rw [Heap.get?_update_other _ _ (Ne.symm hb), Heap.get?_update_other _ _ (Ne.symm hb), Heap.get?_update_other _ _ (Ne.symm hb)]
    exact e
  have sub2 : ∀ p ∈ ((d, lexDict w LT ln tl) :: (S, listO vs m2) :: nx : List (Addr × Obj)), p ∈ ((d, lexDict w LT ln tl) :: (S, listO vs m2) :: r2 : List (Addr × Obj)) := fun p hp => by
    rcases List.mem_cons.mp hp with h | hp
    · rw [h]; exact .head _
    · rcases List.mem_cons.mp hp with h | hp
      · rw [h]; exact .tail _ (.head _)
      · exact .tail _ (.tail _ (remF_sub RI p hp))
  have ne2 : ∀ p ∈ ((d, lexDict w LT ln tl) :: (S, listO vs m2) :: nx : List (Addr × Obj)), p.1 ≠ I := fun p hp => by
    rcases List.mem_cons.mp hp with h | hp
    · rw [h]; exact fun e => remF_ne R1 _ (remF_sub R2 _ hI) e.symm
    · rcases List.mem_cons.mp hp with h | hp
      · rw [h]; exact fun e => remF_ne R2 _ hI e.symm
      · exact remF_ne RI p hp
  obtain ⟨F'', N''⟩ := news_lost F' N' (.tail _ (.tail _ hI)) (hx _ _ _ _ _) sub2 ne2
  exact wpAny_pure (hret _ _ _ F'' N'')
/-- the iterator answers itself to iter -/
theorem ci_self {news : List (Addr × Obj)} {I q : Addr} {t : Tok} {A : Around} {prog : Program} (N : News h₀ L s.heap news) (hI : (I, ciObj q t) ∈ news) (h : Q (.ref I) s) : wpAny (model prog w) A (pyIter (.ref I)) Q E s := by
  have hty : s.TypeIs (.ref I) "callable_iterator" := ⟨_, (N _ hI).1, rfl⟩
  refine wpAny_pyIter_slot hty slot_ci_iter (wpAny_call_entry slot_ci_iter hty entry_ci_iter ?_ (args_ci_iter _))
  show wpAny _ _ (ret (.ref I)) _ _ s
  exact wpAny_pure ⟨_, rfl, "callable_iterator", _, hty, slot_ci_next.lookup, h⟩
theorem ci_own {news : List (Addr × Obj)} {I q : Addr} {t : Tok} {A : Around} {prog : Program} {target : PySem.Expr} {v : Value} {Q : Unit → Shared → Prop} (N : News h₀ L s.heap news) (hI : (I, ciObj q t) ∈ news) (h : Q () s) : wpAny (model prog w) A (letOwnedTupleGo target (.ref I) v) Q E s := by
  have key : ∀ t : Sem Unit, t = (do
      let (.ref r, .ref a) := ((Value.ref I : Value), v) | return
      let o ← load r
      match o.cls, o.data with
      | .type n, .fields vs =>
        if ["enumerate", "zip", "dict_itemiterator", "dict_reverseitemiterator", "odict_iterator", "itertools.zip_longest", "itertools.pairwise"].contains n && vs[0]? == some (rawInt a) then
          rule "for.unpacks-the-owned-tuple"
          updateField r 0 .none
      | _, _ => pure ()) → wpAny (model prog w) A t Q E s := by
    rintro t rfl
    cases v with
    | ref b => exact wpAny_bind (wpAny_load (N _ hI).1 (wpAny_pure h))
    | _ => exact wpAny_pure h
  cases target with
  | Tuple a b c => exact key _ rfl
  | List a b => exact key _ rfl
  | _ => exact wpAny_pure h
end
section
variable {w : World} {mean : ExcName → Option Value} {mg mb : Str → Option Value} {dp un : Nat} {gd : Option (List Code)} {cn : Str} {cs : Scope} {L a : Addr} {ccd : Value} {cl : List (Str × Addr)} {outer : List Env}
   {A₀ : Around} {base h₀ : Heap} {m : Str → Option Value} {s : Shared} {Q E : Value → Shared → Prop}
open G0
theorem begin_c {o : Addr} {x0 x1 : Int} {k0 k1 : Tok} {news : List (Addr × Obj)} (B : Below A₀ base outer h₀) (F : Fr h₀ L s.heap m) (X : (K w.params).In h₀) (N : News h₀ L s.heap news)
   (T : Top topProg LL mean mg mb h₀) (hk : cs.kind = .function) (hdp : dp + 5 < recursionLimit) (hu : un + 40 < cLine)
   (ho : (o, tupO [.int x0 k0, .int x1 k1]) ∈ news)
   (hret : ∀ h' tk', Fr h₀ L h' m → News h₀ L h' news → Q (.int x0 k0) { s with heap := h', toks := tk' }) :
   wpAny (model PP w) (ktrTop dp un gd cn cs L a ccd cl outer) (call (.ref 287) [.ref o]) Q E s := by
  rcases cs with ⟨ck, cnames, cgen, cco, cmore⟩
  cases hk
  (try (refine letA (dp := dp) (un := un) rfl rfl ?_; intro A1 dA1 uA1))
  k_steps
  all_goals exact hret _ _ (by k_asm) (by k_asm)
theorem apart_c {o t : Addr} {x0 x1 y0 y1 : Int} {k0 k1 k2 k3 : Tok} {news : List (Addr × Obj)} (B : Below A₀ base outer h₀) (F : Fr h₀ L s.heap m) (X : (K w.params).In h₀) (N : News h₀ L s.heap news)
   (T : Top topProg LL mean mg mb h₀) (hk : cs.kind = .function) (hdp : dp + 5 < recursionLimit) (hu : un + 40 < cLine)
   (ho : (o, tupO [.int x0 k0, .int x1 k1]) ∈ news) (ht : (t, tupO [.int y0 k2, .int y1 k3]) ∈ news)
   (hret : ∀ h' tk', Fr h₀ L h' m → News h₀ L h' news → Q (.bool (decide (x1 ≤ y0) || decide (y1 ≤ x0))) { s with heap := h', toks := tk' }) :
   wpAny (model PP w) (ktrTop dp un gd cn cs L a ccd cl outer) (call (.ref 280) [.ref o, .ref t]) Q E s := by
  rcases cs with ⟨ck, cnames, cgen, cco, cmore⟩
  cases hk
  (try (refine letA (dp := dp) (un := un) rfl rfl ?_; intro A1 dA1 uA1))
  k_steps
  · have e : decide (x1 ≤ y0) = true := by first | assumption | (apply decide_eq_true; assumption)
    have e2 : Value.bool (decide (x1 ≤ y0)) = Value.bool (decide (x1 ≤ y0) || decide (y1 ≤ x0)) := by rw [e, Bool.true_or]
    rw [e2]
    exact hret _ _ (by k_asm) (by k_asm)
  · have e : decide (x1 ≤ y0) = false := by first | assumption | (apply decide_eq_false; assumption)
    have e2 : Value.bool (decide (y1 ≤ x0)) = Value.bool (decide (x1 ≤ y0) || decide (y1 ≤ x0)) := by rw [e, Bool.false_or]
    rw [e2]
    exact hret _ _ (by k_asm) (by k_asm)
end
section
variable {w : World} {mean : ExcName → Option Value} {mg mb : Str → Option Value} {dp un : Nat} {gd : Option (List Code)} {cn : Str} {cs : Scope} {L a : Addr} {ccd : Value} {cl : List (Str × Addr)} {outer : List Env}
   {A₀ : Around} {base h₀ : Heap} {m : Str → Option Value} {s : Shared} {Q E : Value → Shared → Prop}
open G0 G7 G40
theorem ints_get {vs : List Value} {ns : List Int} (h : IntsAre vs ns) : ∀ i, i < ns.length → ∃ t, vs[i]? = some (.int (ns.getD i 0) t) := by
  induction h with
  | nil => intro i hi; exact absurd hi (Nat.not_lt_zero _)
  | cons k t r ih =>
    intro i hi
    cases i with
    | zero => exact ⟨t, rfl⟩
    | succ i => simpa using ih i (by simpa using hi)
theorem strs_get {vs : List Value} {ns : List Str} (h : StrsAre vs ns) : ∀ i, i < ns.length → ∃ t, vs[i]? = some (.str (ns.getD i Str.empty) t) := by
  induction h with
  | nil => intro i hi; exact absurd hi (Nat.not_lt_zero _)
  | cons k t r ih =>
    intro i hi
    cases i with
    | zero => exact ⟨t, rfl⟩
    | succ i => simpa using ih i (by simpa using hi)
inductive PairsAt (news : List (Addr × Obj)) : List Value → List (Int × Int) → Prop
  | nil : PairsAt news [] []
  | cons {b : Addr} {x y : Int} {k0 k1 : Tok} {vs : List Value} {ps : List (Int × Int)} (h : (b, tupO [.int x k0, .int y k1]) ∈ news) (r : PairsAt news vs ps) : PairsAt news (.ref b :: vs) ((x, y) :: ps)
theorem PairsAt.length {news : List (Addr × Obj)} {vs : List Value} {ps : List (Int × Int)} (h : PairsAt news vs ps) : vs.length = ps.length := by
  induction h with
  | nil => rfl
  | cons _ _ ih => rw [List.length_cons, List.length_cons, ih]
theorem PairsAt.get {news : List (Addr × Obj)} {vs : List Value} {ps : List (Int × Int)} (h : PairsAt news vs ps) : ∀ i, i < ps.length → ∃ b k0 k1, vs[i]? = some (.ref b) ∧ (b, tupO [.int (ps.getD i (0, 0)).1 k0, .int (ps.getD i (0, 0)).2 k1]) ∈ news := by
  induction h with
  | nil => intro i hi; exact absurd hi (Nat.not_lt_zero _)
  | cons hm r ih =>
    intro i hi
    cases i with
    | zero => exact ⟨_, _, _, rfl, hm⟩
    | succ i => simpa using ih i (by simpa using hi)
theorem PairsAt.mono {news news' : List (Addr × Obj)} {vs : List Value} {ps : List (Int × Int)} (h : PairsAt news vs ps) (hs : ∀ p ∈ news, p ∈ news') : PairsAt news' vs ps := by
  induction h with
  | nil => exact .nil
  | cons hm r ih => exact .cons (hs _ hm) ih
section
variable {prog : Program} {A : Around}
theorem item_ints {value slice : PySem.Expr} {l : Addr} {vs : List Value} {ns : List Int} {k : Int} {u : Tok} {Q : Value → Shared → Prop} (hl : s.heap.IsList l vs.toArray) (hi : IntsAre vs ns) (h0 : 0 ≤ k) (h1 : k < (ns.length : Int)) (hz : ns.length < 2 ^ 62) (h : ∀ t, Q (.int (ns.getD k.toNat 0) t) s)
    (hs : subscripted slice false (.ref l) (.int k u) = operate [.ref l, .int k u] (getItem (.ref l) (.int k u)) := by with_unfolding_all rfl) :
    wpAny (model prog w) A (subscriptTail value slice (.ref l) (.int k u)) Q E s := by
  obtain ⟨t, ht⟩ := ints_get hi k.toNat (by k_extra "om")
  exact item_litK hl h0 (by k_extra "om") ht (h t) hs
theorem item_strs {value slice : PySem.Expr} {l : Addr} {vs : List Value} {ns : List Str} {k : Int} {u : Tok} {Q : Value → Shared → Prop} (hl : s.heap.IsList l vs.toArray) (hi : StrsAre vs ns) (h0 : 0 ≤ k) (h1 : k < (ns.length : Int)) (hz : ns.length < 2 ^ 62) (h : ∀ t, Q (.str (ns.getD k.toNat Str.empty) t) s)
    (hs : subscripted slice false (.ref l) (.int k u) = operate [.ref l, .int k u] (getItem (.ref l) (.int k u)) := by with_unfolding_all rfl) :
    wpAny (model prog w) A (subscriptTail value slice (.ref l) (.int k u)) Q E s := by
  obtain ⟨t, ht⟩ := strs_get hi k.toNat (by k_extra "om")
  exact item_litK hl h0 (by k_extra "om") ht (h t) hs
theorem item_pairs {value slice : PySem.Expr} {l : Addr} {vs : List Value} {ps : List (Int × Int)} {news : List (Addr × Obj)} {k : Int} {u : Tok} {Q : Value → Shared → Prop} (hl : s.heap.IsList l vs.toArray) (hi : PairsAt news vs ps) (h0 : 0 ≤ k) (h1 : k < (ps.length : Int)) (hz : ps.length < 2 ^ 62)
    (h : ∀ b k0 k1, (b, tupO [.int (ps.getD k.toNat (0, 0)).1 k0, .int (ps.getD k.toNat (0, 0)).2 k1]) ∈ news → Q (.ref b) s)
    (hs : subscripted slice false (.ref l) (.int k u) = operate [.ref l, .int k u] (getItem (.ref l) (.int k u)) := by with_unfolding_all rfl) :
    wpAny (model prog w) A (subscriptTail value slice (.ref l) (.int k u)) Q E s := by
  obtain ⟨b, k0, k1, ht, hm⟩ := hi.get k.toNat (by k_extra "om")
  exact item_litK hl h0 (by k_extra "om") ht (h b k0 k1 hm) hs
end
/-- lo .. hi is what is left of the search: f holds below, not from hi on -/
noncomputable def cutAt (n : Nat) (f : Nat → Bool) (lo hi : Int) : Prop := 0 ≤ lo ∧ lo ≤ hi ∧ hi ≤ (n : Int) ∧ (∀ i : Nat, (i : Int) < lo → f i = true) ∧ (∀ i : Nat, hi ≤ (i : Int) → i < n → f i = false)
noncomputable def mono (n : Nat) (f : Nat → Bool) : Prop := ∀ i j : Nat, i ≤ j → j < n → f j = true → f i = true
theorem cut_start {n : Nat} {f : Nat → Bool} : cutAt n f 0 n := ⟨Int.le_refl _, Int.natCast_nonneg _, Int.le_refl _, fun i h => absurd h (by k_extra "om"), fun i h1 h2 => absurd h2 (by k_extra "om")⟩
theorem mid_in {n : Nat} {f : Nat → Bool} {lo hi : Int} (h : cutAt n f lo hi) (hlt : lo < hi) : 0 ≤ (lo + hi).fdiv 2 ∧ (lo + hi).fdiv 2 < (n : Int) ∧ lo ≤ (lo + hi).fdiv 2 ∧ (lo + hi).fdiv 2 < hi := by
  have e : (lo + hi).fdiv 2 = (lo + hi) / 2 := Int.fdiv_eq_ediv_of_nonneg _ (by decide)
  rw [e]
  obtain ⟨h1, h2, h3, h4, h5⟩ := h
  exact ⟨by k_extra "om", by k_extra "om", by k_extra "om", by k_extra "om"⟩
theorem cut_hi {n : Nat} {f : Nat → Bool} {lo hi : Int} (hs : mono n f) (h : cutAt n f lo hi) (hlt : lo < hi) (hx : f ((lo + hi).fdiv 2).toNat = false) : cutAt n f lo ((lo + hi).fdiv 2) := by
  have hm := mid_in h hlt
  obtain ⟨h1, h2, h3, h4, h5⟩ := h
  refine ⟨h1, hm.2.2.1, by k_extra "om", h4, fun i hb hl => ?_⟩
  cases q : f i with
  | false => rfl
  | true => rw [hs ((lo + hi).fdiv 2).toNat i (by k_extra "om") hl q] at hx; cases hx
theorem cut_lo {n : Nat} {f : Nat → Bool} {lo hi : Int} (hs : mono n f) (h : cutAt n f lo hi) (hlt : lo < hi) (hx : f ((lo + hi).fdiv 2).toNat = true) : cutAt n f ((lo + hi).fdiv 2 + 1) hi := by
  have hm := mid_in h hlt
  obtain ⟨h1, h2, h3, h4, h5⟩ := h
  exact ⟨by k_extra "om", by k_extra "om", h3, fun i hb => hs i ((lo + hi).fdiv 2).toNat (by k_extra "om") (by k_extra "om") hx, h5⟩
theorem cut_end {n : Nat} {f : Nat → Bool} {lo hi : Int} (h : cutAt n f lo hi) (hge : ¬ lo < hi) : cutAt n f lo lo := by
  have e : hi = lo := by have := h.2.1; k_extra "om"
  rw [e] at h
  exact h
noncomputable abbrev fbisr2 (x : Int) (ns : List Int) (i : Nat) : Bool := !decide (x < ns.getD i 0) 
theorem bisr2 {o : Addr} {x : Int} {k0 k1 : Tok} {ns : List Int} {vs : List Value} {n : Nat} {news : List (Addr × Obj)} (B : Below A₀ base outer h₀) (F : Fr h₀ L s.heap m) (X : (K w.params).In h₀) (N : News h₀ L s.heap news)
   (T : Top topProg LL mean mg mb h₀) (hk : cs.kind = .function) (hdp : dp + 20 < recursionLimit) (hu : un + 160 < cLine)
   (ho : (o, listO vs n) ∈ news) (hi : IntsAre vs ns) (hz : ns.length < 1000) (hso : mono ns.length (fbisr2 x ns))
   (hret : ∀ r t h' tk', cutAt ns.length (fbisr2 x ns) r r → Fr h₀ L h' m → News h₀ L h' news → Q (.int r t) { s with heap := h', toks := tk' }) :
   wpAny (model PP w) (ktrTop dp un gd cn cs L a ccd cl outer) (call (.ref 39) [.ref o, .int x k0]) Q E s := by
  rcases cs with ⟨ck, cnames, cgen, cco, cmore⟩
  cases hk
  (try (refine letA (dp := dp) (un := un) rfl rfl ?_; intro A1 dA1 uA1))
  have hlen : vs.length = ns.length := hi.length
  k_steps
  refine Hold.out ?_
  refine while_r (σ := Int × Int × Tok × Tok) (fun _ => news) (fun c => [(Str.ofString "lo", .int c.1 c.2.2.1), (Str.ofString "hi", .int c.2.1 c.2.2.2)]) [Str.ofString "lo", Str.ofString "hi", Str.ofString "mid"] (fun c => cutAt ns.length (fbisr2 x ns) c.1 c.2.1) (fun c => (c.2.1 - c.1).toNat) (0, ns.length, ?t1, ?t2) (by k_asm) (by k_asm) (fun p h => h) ?hk ?hp ?turn
  case hk => k_extra "mine has"
  case hp => exact cut_start
  case turn =>
    rintro ⟨lo, hi', t1, t2⟩ u h tk hp F1 N1
    dsimp only at hp F1 N1 ⊢
    k_steps
    · refine Hold.out ?_
      have hlt : lo < hi' := by assumption
      have hmid := mid_in hp hlt
      refine item_ints (by is_list) hi hmid.1 hmid.2.1 (by k_extra "om") fun t9 => ?_
      try dsimp only
      k_steps
      · have hx : fbisr2 x ns ((lo + hi').fdiv 2).toNat = false := by simp only [Bool.not_eq_false', decide_eq_true_eq]; assumption
        refine WEnd.intro (lo, (lo + hi').fdiv 2, ?u1, ?v1) (by k_asm) (by k_asm) (fun p hp => hp) ?hk ?ho ⟨cut_hi hso hp hlt hx, ?hm⟩
        case hk => k_extra "mine has"
        case ho => k_extra "mine off"
        case hm => dsimp only; k_extra "om"
      · have hx : fbisr2 x ns ((lo + hi').fdiv 2).toNat = true := by simp only [Bool.not_eq_true', decide_eq_false_iff_not]; assumption
        refine WEnd.intro ((lo + hi').fdiv 2 + 1, hi', ?u2, ?v2) (by k_asm) (by k_asm) (fun p hp => hp) ?hk ?ho ⟨cut_lo hso hp hlt hx, ?hm⟩
        case hk => k_extra "mine has"
        case ho => k_extra "mine off"
        case hm => dsimp only; k_extra "om"
    · have hge : ¬ lo < hi' := by assumption
      exact hret _ _ _ _ (cut_end hp hge) (by k_asm) (by k_asm)
noncomputable abbrev fbisr4 (x : Int) (ns : List Int) (i : Nat) : Bool := !decide (x < ns.getD i 0) 
theorem bisr4 {o : Addr} {x : Int} {k0 k1 : Tok} {ns : List Int} {vs : List Value} {n : Nat} {news : List (Addr × Obj)} (B : Below A₀ base outer h₀) (F : Fr h₀ L s.heap m) (X : (K w.params).In h₀) (N : News h₀ L s.heap news)
   (T : Top topProg LL mean mg mb h₀) (hk : cs.kind = .function) (hdp : dp + 20 < recursionLimit) (hu : un + 160 < cLine)
   (ho : (o, listO vs n) ∈ news) (hi : IntsAre vs ns) (hz : ns.length < 1000) (hso : mono ns.length (fbisr4 x ns))
   (hret : ∀ r t h' tk', cutAt ns.length (fbisr4 x ns) r r → Fr h₀ L h' m → News h₀ L h' news → Q (.int r t) { s with heap := h', toks := tk' }) :
   wpAny (model PP w) (ktrTop dp un gd cn cs L a ccd cl outer) (call (.ref 39) [.ref o, .int x k0, .int 0 k1, .none]) Q E s := by
  rcases cs with ⟨ck, cnames, cgen, cco, cmore⟩
  cases hk
  (try (refine letA (dp := dp) (un := un) rfl rfl ?_; intro A1 dA1 uA1))
  have hlen : vs.length = ns.length := hi.length
  k_steps
  refine Hold.out ?_
  refine while_r (σ := Int × Int × Tok × Tok) (fun _ => news) (fun c => [(Str.ofString "lo", .int c.1 c.2.2.1), (Str.ofString "hi", .int c.2.1 c.2.2.2)]) [Str.ofString "lo", Str.ofString "hi", Str.ofString "mid"] (fun c => cutAt ns.length (fbisr4 x ns) c.1 c.2.1) (fun c => (c.2.1 - c.1).toNat) (0, ns.length, ?t1, ?t2) (by k_asm) (by k_asm) (fun p h => h) ?hk ?hp ?turn
  case hk => k_extra "mine has"
  case hp => exact cut_start
  case turn =>
    rintro ⟨lo, hi', t1, t2⟩ u h tk hp F1 N1
    dsimp only at hp F1 N1 ⊢
    k_steps
    · refine Hold.out ?_
      have hlt : lo < hi' := by assumption
      have hmid := mid_in hp hlt
      refine item_ints (by is_list) hi hmid.1 hmid.2.1 (by k_extra "om") fun t9 => ?_
      try dsimp only
      k_steps
      · have hx : fbisr4 x ns ((lo + hi').fdiv 2).toNat = false := by simp only [Bool.not_eq_false', decide_eq_true_eq]; assumption
        refine WEnd.intro (lo, (lo + hi').fdiv 2, ?u1, ?v1) (by k_asm) (by k_asm) (fun p hp => hp) ?hk ?ho ⟨cut_hi hso hp hlt hx, ?hm⟩
        case hk => k_extra "mine has"
        case ho => k_extra "mine off"
        case hm => dsimp only; k_extra "om"
      · have hx : fbisr4 x ns ((lo + hi').fdiv 2).toNat = true := by simp only [Bool.not_eq_true', decide_eq_false_iff_not]; assumption
        refine WEnd.intro ((lo + hi').fdiv 2 + 1, hi', ?u2, ?v2) (by k_asm) (by k_asm) (fun p hp => hp) ?hk ?ho ⟨cut_lo hso hp hlt hx, ?hm⟩
        case hk => k_extra "mine has"
        case ho => k_extra "mine off"
        case hm => dsimp only; k_extra "om"
    · have hge : ¬ lo < hi' := by assumption
      exact hret _ _ _ _ (cut_end hp hge) (by k_asm) (by k_asm)
noncomputable abbrev fbisl2 (x : Str) (ns : List Str) (i : Nat) : Bool := decide ((ns.getD i Str.empty).cps.toList < x.cps.toList) 
theorem bisl2 {o : Addr} {x : Str} {k0 k1 : Tok} {ns : List Str} {vs : List Value} {n : Nat} {news : List (Addr × Obj)} (B : Below A₀ base outer h₀) (F : Fr h₀ L s.heap m) (X : (K w.params).In h₀) (N : News h₀ L s.heap news)
   (T : Top topProg LL mean mg mb h₀) (hk : cs.kind = .function) (hdp : dp + 20 < recursionLimit) (hu : un + 160 < cLine)
   (ho : (o, listO vs n) ∈ news) (hi : StrsAre vs ns) (hz : ns.length < 1000) (hso : mono ns.length (fbisl2 x ns))
   (hret : ∀ r t h' tk', cutAt ns.length (fbisl2 x ns) r r → Fr h₀ L h' m → News h₀ L h' news → Q (.int r t) { s with heap := h', toks := tk' }) :
   wpAny (model PP w) (ktrTop dp un gd cn cs L a ccd cl outer) (call (.ref 57) [.ref o, .str x k0]) Q E s := by
  rcases cs with ⟨ck, cnames, cgen, cco, cmore⟩
  cases hk
  (try (refine letA (dp := dp) (un := un) rfl rfl ?_; intro A1 dA1 uA1))
  have hlen : vs.length = ns.length := hi.length
  k_steps
  refine Hold.out ?_
  refine while_r (σ := Int × Int × Tok × Tok) (fun _ => news) (fun c => [(Str.ofString "lo", .int c.1 c.2.2.1), (Str.ofString "hi", .int c.2.1 c.2.2.2)]) [Str.ofString "lo", Str.ofString "hi", Str.ofString "mid"] (fun c => cutAt ns.length (fbisl2 x ns) c.1 c.2.1) (fun c => (c.2.1 - c.1).toNat) (0, ns.length, ?t1, ?t2) (by k_asm) (by k_asm) (fun p h => h) ?hk ?hp ?turn
  case hk => k_extra "mine has"
  case hp => exact cut_start
  case turn =>
    rintro ⟨lo, hi', t1, t2⟩ u h tk hp F1 N1
    dsimp only at hp F1 N1 ⊢
    k_steps
    · refine Hold.out ?_
      have hlt : lo < hi' := by assumption
      have hmid := mid_in hp hlt
      refine item_strs (by is_list) hi hmid.1 hmid.2.1 (by k_extra "om") fun t9 => ?_
      try dsimp only
      k_steps
      · have hx : fbisl2 x ns ((lo + hi').fdiv 2).toNat = true := by simp only [decide_eq_true_eq]; assumption
        refine WEnd.intro ((lo + hi').fdiv 2 + 1, hi', ?u1, ?v1) (by k_asm) (by k_asm) (fun p hp => hp) ?hk ?ho ⟨cut_lo hso hp hlt hx, ?hm⟩
        case hk => k_extra "mine has"
        case ho => k_extra "mine off"
        case hm => dsimp only; k_extra "om"
      · have hx : fbisl2 x ns ((lo + hi').fdiv 2).toNat = false := by simp only [decide_eq_false_iff_not]; assumption
        refine WEnd.intro (lo, (lo + hi').fdiv 2, ?u2, ?v2) (by k_asm) (by k_asm) (fun p hp => hp) ?hk ?ho ⟨cut_hi hso hp hlt hx, ?hm⟩
        case hk => k_extra "mine has"
        case ho => k_extra "mine off"
        case hm => dsimp only; k_extra "om"
    · have hge : ¬ lo < hi' := by assumption
      exact hret _ _ _ _ (cut_end hp hge) (by k_asm) (by k_asm)
noncomputable abbrev fbisl4 (x : Str) (ns : List Str) (i : Nat) : Bool := decide ((ns.getD i Str.empty).cps.toList < x.cps.toList) 
theorem bisl4 {o : Addr} {x : Str} {k0 k1 : Tok} {ns : List Str} {vs : List Value} {n : Nat} {news : List (Addr × Obj)} (B : Below A₀ base outer h₀) (F : Fr h₀ L s.heap m) (X : (K w.params).In h₀) (N : News h₀ L s.heap news)
   (T : Top topProg LL mean mg mb h₀) (hk : cs.kind = .function) (hdp : dp + 20 < recursionLimit) (hu : un + 160 < cLine)
   (ho : (o, listO vs n) ∈ news) (hi : StrsAre vs ns) (hz : ns.length < 1000) (hso : mono ns.length (fbisl4 x ns))
   (hret : ∀ r t h' tk', cutAt ns.length (fbisl4 x ns) r r → Fr h₀ L h' m → News h₀ L h' news → Q (.int r t) { s with heap := h', toks := tk' }) :
   wpAny (model PP w) (ktrTop dp un gd cn cs L a ccd cl outer) (call (.ref 57) [.ref o, .str x k0, .int 0 k1, .none]) Q E s := by
  rcases cs with ⟨ck, cnames, cgen, cco, cmore⟩
  cases hk
  (try (refine letA (dp := dp) (un := un) rfl rfl ?_; intro A1 dA1 uA1))
  have hlen : vs.length = ns.length := hi.length
  k_steps
  refine Hold.out ?_
  refine while_r (σ := Int × Int × Tok × Tok) (fun _ => news) (fun c => [(Str.ofString "lo", .int c.1 c.2.2.1), (Str.ofString "hi", .int c.2.1 c.2.2.2)]) [Str.ofString "lo", Str.ofString "hi", Str.ofString "mid"] (fun c => cutAt ns.length (fbisl4 x ns) c.1 c.2.1) (fun c => (c.2.1 - c.1).toNat) (0, ns.length, ?t1, ?t2) (by k_asm) (by k_asm) (fun p h => h) ?hk ?hp ?turn
  case hk => k_extra "mine has"
  case hp => exact cut_start
  case turn =>
    rintro ⟨lo, hi', t1, t2⟩ u h tk hp F1 N1
    dsimp only at hp F1 N1 ⊢
    k_steps
    · refine Hold.out ?_
      have hlt : lo < hi' := by assumption
      have hmid := mid_in hp hlt
      refine item_strs (by is_list) hi hmid.1 hmid.2.1 (by k_extra "om") fun t9 => ?_
      try dsimp only
      k_steps
      · have hx : fbisl4 x ns ((lo + hi').fdiv 2).toNat = true := by simp only [decide_eq_true_eq]; assumption
        refine WEnd.intro ((lo + hi').fdiv 2 + 1, hi', ?u1, ?v1) (by k_asm) (by k_asm) (fun p hp => hp) ?hk ?ho ⟨cut_lo hso hp hlt hx, ?hm⟩
        case hk => k_extra "mine has"
        case ho => k_extra "mine off"
        case hm => dsimp only; k_extra "om"
      · have hx : fbisl4 x ns ((lo + hi').fdiv 2).toNat = false := by simp only [decide_eq_false_iff_not]; assumption
        refine WEnd.intro (lo, (lo + hi').fdiv 2, ?u2, ?v2) (by k_asm) (by k_asm) (fun p hp => hp) ?hk ?ho ⟨cut_hi hso hp hlt hx, ?hm⟩
        case hk => k_extra "mine has"
        case ho => k_extra "mine off"
        case hm => dsimp only; k_extra "om"
    · have hge : ¬ lo < hi' := by assumption
      exact hret _ _ _ _ (cut_end hp hge) (by k_asm) (by k_asm)
end
section
variable {w : World} {mean : ExcName → Option Value} {mg mb : Str → Option Value} {dp un : Nat} {gd : Option (List Code)} {cn : Str} {cs : Scope} {L a : Addr} {ccd : Value} {cl : List (Str × Addr)} {outer : List Env}
   {A₀ : Around} {base h₀ : Heap} {m : Str → Option Value} {s : Shared} {Q E : Value → Shared → Prop}
open G0 G7 G14 G40
theorem len_mem {prog : Program} {A : Around} {l : Addr} {vs : List Value} {Q : Value → Shared → Prop} (hl : s.heap.IsList l vs.toArray) (hfit : vs.length < 2 ^ 62)
    (h : Q (.int vs.length (s.toks + 1)) { s with toks := s.toks + 1 + 1 }) : wpAny (model prog w) A (call (.builtin "len") [.ref l]) Q E s := by
  refine Calls.call_len_list hl (by rw [List.size_toArray]; k_extra "om") ?_
  rw [List.size_toArray]
  exact h
open G1
noncomputable abbrev fbisrk (x : Int) (ns : List (Int × Int)) (i : Nat) : Bool := !decide (x < (ns.getD i (0, 0)).1) 
theorem bisrk {o : Addr} {x : Int} {k0 k1 : Tok} {ns : List (Int × Int)} {vs : List Value} {n : Nat} {news : List (Addr × Obj)} (B : Below A₀ base outer h₀) (F : Fr h₀ L s.heap m) (X : (K w.params).In h₀) (N : News h₀ L s.heap news)
   (T : Top topProg LL mean mg mb h₀) (hk : cs.kind = .function) (hdp : dp + 20 < recursionLimit) (hu : un + 160 < cLine)
   (ho : (o, listO vs n) ∈ news) (hi : PairsAt news vs ns) (hz : ns.length < 1000) (hso : mono ns.length (fbisrk x ns))
   (hret : ∀ r t h' tk', cutAt ns.length (fbisrk x ns) r r → Fr h₀ L h' m → News h₀ L h' news → Q (.int r t) { s with heap := h', toks := tk' }) :
   wpAny (model PP w) (ktrTop dp un gd cn cs L a ccd cl outer) (call (.ref 39) [.ref o, .int x k0, .int 0 k1, .none] [(Str.ofString "key", .ref 287)]) Q E s := by
  rcases cs with ⟨ck, cnames, cgen, cco, cmore⟩
  cases hk
  (try (refine letA (dp := dp) (un := un) rfl rfl ?_; intro A1 dA1 uA1))
  have hlen : vs.length = ns.length := hi.length
  k_steps
  refine Hold.out ?_
  refine while_r (σ := Int × Int × Tok × Tok) (fun _ => news) (fun c => [(Str.ofString "lo", .int c.1 c.2.2.1), (Str.ofString "hi", .int c.2.1 c.2.2.2)]) [Str.ofString "lo", Str.ofString "hi", Str.ofString "mid"] (fun c => cutAt ns.length (fbisrk x ns) c.1 c.2.1) (fun c => (c.2.1 - c.1).toNat) (0, vs.length, ?t1, ?t2) (by k_asm) (by k_asm) (fun p h => h) ?hk ?hp ?turn
  case hk => k_extra "mine has"
  case hp => rw [hlen]; exact cut_start
  case turn =>
    rintro ⟨lo, hi', t1, t2⟩ u h tk hp F1 N1
    dsimp only at hp F1 N1 ⊢
    k_steps
    · refine Hold.out ?_
      have hlt : lo < hi' := by assumption
      have hmid := mid_in hp hlt
      refine item_pairs (by is_list) hi hmid.1 hmid.2.1 (by k_extra "om") fun b9 k90 k91 hm9 => ?_
      try dsimp only
      k_steps
      · have hx : fbisrk x ns ((lo + hi').fdiv 2).toNat = false := by simp only [Bool.not_eq_false', decide_eq_true_eq]; assumption
        refine WEnd.intro (lo, (lo + hi').fdiv 2, ?u1, ?v1) (by k_asm) (by k_asm) (fun p hp => hp) ?hk ?ho ⟨cut_hi hso hp hlt hx, ?hm⟩
        case hk => k_extra "mine has"
        case ho => k_extra "mine off"
        case hm => dsimp only; k_extra "om"
      · have hx : fbisrk x ns ((lo + hi').fdiv 2).toNat = true := by simp only [Bool.not_eq_true', decide_eq_false_iff_not]; assumption
        refine WEnd.intro ((lo + hi').fdiv 2 + 1, hi', ?u2, ?v2) (by k_asm) (by k_asm) (fun p hp => hp) ?hk ?ho ⟨cut_lo hso hp hlt hx, ?hm⟩
        case hk => k_extra "mine has"
        case ho => k_extra "mine off"
        case hm => dsimp only; k_extra "om"
    · have hge : ¬ lo < hi' := by assumption
      exact hret _ _ _ _ (cut_end hp hge) (by k_asm) (by k_asm)
end
section
variable {w : World} {mean : ExcName → Option Value} {mg mb : Str → Option Value} {dp un : Nat} {gd : Option (List Code)} {cn : Str} {cs : Scope} {L a : Addr} {ccd : Value} {cl : List (Str × Addr)} {outer : List Env}
   {A₀ : Around} {base h₀ : Heap} {m : Str → Option Value} {s : Shared} {Q E : Value → Shared → Prop}
open G0
theorem pairs_upd {h₀ h : Heap} {L o : Addr} {vs us : List Value} {n : Nat} {ps : List (Int × Int)} {news : List (Addr × Obj)} {g : Obj → List (Addr × Obj)} {o' : Obj} (N : News h₀ L h news) (U : UpdF o (listO us n) news g) (hp : PairsAt news vs ps) : PairsAt (g o') vs ps := by
  induction hp with
  | nil => exact .nil
  | cons hm r ih => exact .cons (updF_keep U _ hm (news_ne N hm (updF_mem U) tup_list)) ih
open G13 G14
theorem insr {o : Addr} {x : Int} {k0 : Tok} {ns : List Int} {vs : List Value} {n : Nat} {news : List (Addr × Obj)} {g : Obj → List (Addr × Obj)} (B : Below A₀ base outer h₀) (F : Fr h₀ L s.heap m) (X : (K w.params).In h₀) (N : News h₀ L s.heap news)
   (T : Top topProg LL mean mg mb h₀) (hk : cs.kind = .function) (hdp : dp + 40 < recursionLimit) (hu : un + 320 < cLine)
   (U : UpdF o (listO vs n) news g)  (hi : IntsAre vs ns) (hz : ns.length < 1000) (hso : mono ns.length (fbisr4 x ns))
   (hret : ∀ (r : Int) h' tk', cutAt ns.length (fbisr4 x ns) r r → Fr h₀ L h' m → News h₀ L h' (g (listO (vs.take r.toNat ++ .int x k0 :: vs.drop r.toNat) (n + 1))) → Q .none { s with heap := h', toks := tk' }) :
   wpAny (model PP w) (ktrTop dp un gd cn cs L a ccd cl outer) (call (.ref 30) [.ref o, .int x k0]) Q E s := by
  rcases cs with ⟨ck, cnames, cgen, cco, cmore⟩
  cases hk
  (try (refine letA (dp := dp) (un := un) rfl rfl ?_; intro A1 dA1 uA1))
  have hmem := updF_mem U
  k_steps
  refine Hold.out ?_
  rename cutAt _ _ _ _ => hcut
  have hlen : vs.length = ns.length := hi.length
  have h1 := hcut.1
  have h2 := hcut.2.2.1
  refine insert_r (by k_asm) (by k_asm) (updF_upd U _) (Int.toNat_of_nonneg hcut.1).symm (by k_extra "om") (by k_extra "om") ?_
  intro h8 F8 N8
  try dsimp only
  k_steps
  all_goals exact hret _ _ _ hcut (by k_asm) (by k_asm)
theorem insl {o : Addr} {x : Str} {k0 : Tok} {ns : List Str} {vs : List Value} {n : Nat} {news : List (Addr × Obj)} {g : Obj → List (Addr × Obj)} (B : Below A₀ base outer h₀) (F : Fr h₀ L s.heap m) (X : (K w.params).In h₀) (N : News h₀ L s.heap news)
   (T : Top topProg LL mean mg mb h₀) (hk : cs.kind = .function) (hdp : dp + 40 < recursionLimit) (hu : un + 320 < cLine)
   (U : UpdF o (listO vs n) news g)  (hi : StrsAre vs ns) (hz : ns.length < 1000) (hso : mono ns.length (fbisl4 x ns))
   (hret : ∀ (r : Int) h' tk', cutAt ns.length (fbisl4 x ns) r r → Fr h₀ L h' m → News h₀ L h' (g (listO (vs.take r.toNat ++ .str x k0 :: vs.drop r.toNat) (n + 1))) → Q .none { s with heap := h', toks := tk' }) :
   wpAny (model PP w) (ktrTop dp un gd cn cs L a ccd cl outer) (call (.ref 48) [.ref o, .str x k0]) Q E s := by
  rcases cs with ⟨ck, cnames, cgen, cco, cmore⟩
  cases hk
  (try (refine letA (dp := dp) (un := un) rfl rfl ?_; intro A1 dA1 uA1))
  have hmem := updF_mem U
  k_steps
  refine Hold.out ?_
  rename cutAt _ _ _ _ => hcut
  have hlen : vs.length = ns.length := hi.length
  have h1 := hcut.1
  have h2 := hcut.2.2.1
  refine insert_r (by k_asm) (by k_asm) (updF_upd U _) (Int.toNat_of_nonneg hcut.1).symm (by k_extra "om") (by k_extra "om") ?_
  intro h8 F8 N8
  try dsimp only
  k_steps
  all_goals exact hret _ _ _ hcut (by k_asm) (by k_asm)
theorem insrk {o : Addr} {b : Addr} {x y : Int} {k0 k1 : Tok} {ns : List (Int × Int)} {vs : List Value} {n : Nat} {news : List (Addr × Obj)} {g : Obj → List (Addr × Obj)} (B : Below A₀ base outer h₀) (F : Fr h₀ L s.heap m) (X : (K w.params).In h₀) (N : News h₀ L s.heap news)
   (T : Top topProg LL mean mg mb h₀) (hk : cs.kind = .function) (hdp : dp + 40 < recursionLimit) (hu : un + 320 < cLine)
   (U : UpdF o (listO vs n) news g) (hb : (b, tupO [.int x k0, .int y k1]) ∈ news) (hi : PairsAt news vs ns) (hz : ns.length < 1000) (hso : mono ns.length (fbisrk x ns))
   (hret : ∀ (r : Int) h' tk', cutAt ns.length (fbisrk x ns) r r → Fr h₀ L h' m → News h₀ L h' (g (listO (vs.take r.toNat ++ .ref b :: vs.drop r.toNat) (n + 1))) → Q .none { s with heap := h', toks := tk' }) :
   wpAny (model PP w) (ktrTop dp un gd cn cs L a ccd cl outer) (call (.ref 30) [.ref o, .ref b] [(Str.ofString "key", .ref 287)]) Q E s := by
  rcases cs with ⟨ck, cnames, cgen, cco, cmore⟩
  cases hk
  (try (refine letA (dp := dp) (un := un) rfl rfl ?_; intro A1 dA1 uA1))
  have hmem := updF_mem U
  k_steps
  refine Hold.out ?_
  rename cutAt _ _ _ _ => hcut
  have hlen : vs.length = ns.length := hi.length
  have h1 := hcut.1
  have h2 := hcut.2.2.1
  refine insert_r (by k_asm) (by k_asm) (updF_upd U _) (Int.toNat_of_nonneg hcut.1).symm (by k_extra "om") (by k_extra "om") ?_
  intro h8 F8 N8
  try dsimp only
  k_steps
  all_goals exact hret _ _ _ hcut (by k_asm) (by k_asm)
end
section
/-! plain: sorted lists, insertion -/
theorem take_filter {α : Type} (p : α → Bool) : ∀ (l : List α) (r : Nat), r ≤ l.length → (∀ i (h : i < l.length), i < r → p l[i] = true) → (∀ i (h : i < l.length), r ≤ i → p l[i] = false) → l.take r = l.filter p ∧ l.drop r = l.filter (fun a => !p a)
  | [], r, h, _, _ => by simp
  | x :: l, 0, h, _, h2 => by
    have e : ∀ a ∈ x :: l, p a = false := fun a ha => by
      obtain ⟨i, hi, rfl⟩ := List.getElem_of_mem ha
      exact h2 i hi (Nat.zero_le _)
    refine ⟨?_, ?_⟩
    · rw [List.take_zero, eq_comm, List.filter_eq_nil_iff]
      exact fun a ha => by rw [e a ha]; exact Bool.false_ne_true
    · rw [List.drop_zero, eq_comm, List.filter_eq_self]
      exact fun a ha => by rw [e a ha]; rfl
  | x :: l, r + 1, h, h1, h2 => by
    have hx : p x = true := h1 0 (Nat.succ_pos _) (Nat.succ_pos _)
    have ih := take_filter p l r (Nat.le_of_succ_le_succ h) (fun i hi hr => h1 (i + 1) (Nat.succ_lt_succ hi) (Nat.succ_lt_succ hr)) (fun i hi hr => h2 (i + 1) (Nat.succ_lt_succ hi) (Nat.succ_le_succ hr))
    refine ⟨?_, ?_⟩
    · rw [List.take_succ_cons, ih.1, List.filter_cons, if_pos hx]
    · rw [List.drop_succ_cons, ih.2, List.filter_cons, if_neg (by rw [hx]; exact Bool.false_ne_true)]
theorem getD_at {α : Type} {l : List α} {d : α} {i : Nat} (h : i < l.length) : l.getD i d = l[i] := by
  rw [List.getD_eq_getElem?_getD, List.getElem?_eq_getElem h]; rfl
noncomputable def insI (y : Int) (l : List Int) : List Int := l.filter (fun q => !decide (y < q)) ++ y :: l.filter (fun q => !(!decide (y < q)))
noncomputable def insK (p : Int × Int) (l : List (Int × Int)) : List (Int × Int) := l.filter (fun q => !decide (p.1 < q.1)) ++ p :: l.filter (fun q => !(!decide (p.1 < q.1)))
noncomputable def sortI (l : List Int) : Prop := l.Pairwise (· ≤ ·)
noncomputable def sortK (l : List (Int × Int)) : Prop := l.Pairwise (fun a b => a.1 ≤ b.1)
theorem insI_length (y : Int) (l : List Int) : (insI y l).length = l.length + 1 := by
  have h : ∀ l : List Int, (l.filter (fun q => !decide (y < q))).length + (l.filter (fun q => !(!decide (y < q)))).length = l.length := by
    intro l
    induction l with
    | nil => rfl
    | cons a l ih => cases q : decide (y < a) <;> simp only [List.filter_cons, q, Bool.not_false, Bool.not_true, if_true, if_false, Bool.false_eq_true, List.length_cons] <;> k_extra "om"
  rw [insI, List.length_append, List.length_cons]
  have := h l
  k_extra "om"
theorem insK_length (y : Int × Int) (l : List (Int × Int)) : (insK y l).length = l.length + 1 := by
  have h : ∀ l : List (Int × Int), (l.filter (fun q => !decide (y.1 < q.1))).length + (l.filter (fun q => !(!decide (y.1 < q.1)))).length = l.length := by
    intro l
    induction l with
    | nil => rfl
    | cons a l ih => cases q : decide (y.1 < a.1) <;> simp only [List.filter_cons, q, Bool.not_false, Bool.not_true, if_true, if_false, Bool.false_eq_true, List.length_cons] <;> k_extra "om"
  rw [insK, List.length_append, List.length_cons]
  have := h l
  k_extra "om"
theorem insI_sort {y : Int} {l : List Int} (h : sortI l) : sortI (insI y l) := by
  refine List.pairwise_append.mpr ⟨h.filter _, List.pairwise_cons.mpr ⟨fun a ha => ?_, h.filter _⟩, fun a ha b hb => ?_⟩
  · have := (List.mem_filter.mp ha).2
    simp only [Bool.not_not, decide_eq_true_eq] at this
    exact Int.le_of_lt this
  · have h1 := (List.mem_filter.mp ha).2
    simp only [Bool.not_eq_true', decide_eq_false_iff_not, Int.not_lt] at h1
    rcases List.mem_cons.mp hb with rfl | hb
    · exact h1
    · have h2 := (List.mem_filter.mp hb).2
      simp only [Bool.not_not, decide_eq_true_eq] at h2
      exact Int.le_trans h1 (Int.le_of_lt h2)
theorem insK_sort {y : Int × Int} {l : List (Int × Int)} (h : sortK l) : sortK (insK y l) := by
  refine List.pairwise_append.mpr ⟨h.filter _, List.pairwise_cons.mpr ⟨fun a ha => ?_, h.filter _⟩, fun a ha b hb => ?_⟩
  · have := (List.mem_filter.mp ha).2
    simp only [Bool.not_not, decide_eq_true_eq] at this
    exact Int.le_of_lt this
  · have h1 := (List.mem_filter.mp ha).2
    simp only [Bool.not_eq_true', decide_eq_false_iff_not, Int.not_lt] at h1
    rcases List.mem_cons.mp hb with rfl | hb
    · exact h1
    · have h2 := (List.mem_filter.mp hb).2
      simp only [Bool.not_not, decide_eq_true_eq] at h2
      exact Int.le_trans h1 (Int.le_of_lt h2)
theorem monoI {x : Int} {l : List Int} (h : sortI l) : mono l.length (fbisr4 x l) := fun i j hij hj hf => by
  simp only [fbisr4, Bool.not_eq_true', decide_eq_false_iff_not, Int.not_lt] at hf ⊢
  rcases Nat.eq_or_lt_of_le hij with rfl | hlt
  · exact hf
  · rw [getD_at hj] at hf
    rw [getD_at (Nat.lt_trans hlt hj)]
    exact Int.le_trans (List.pairwise_iff_getElem.mp h i j _ _ hlt) hf
theorem monoK {x : Int} {l : List (Int × Int)} (h : sortK l) : mono l.length (fbisrk x l) := fun i j hij hj hf => by
  simp only [fbisrk, Bool.not_eq_true', decide_eq_false_iff_not, Int.not_lt] at hf ⊢
  rcases Nat.eq_or_lt_of_le hij with rfl | hlt
  · exact hf
  · rw [getD_at hj] at hf
    rw [getD_at (Nat.lt_trans hlt hj)]
    exact Int.le_trans (List.pairwise_iff_getElem.mp h i j _ _ hlt) hf
theorem cutI {x : Int} {l : List Int} {r : Int} (h : cutAt l.length (fbisr4 x l) r r) : l.take r.toNat = l.filter (fun q => !decide (x < q)) ∧ l.drop r.toNat = l.filter (fun q => !(!decide (x < q))) := by
  obtain ⟨h1, h2, h3, h4, h5⟩ := h
  refine take_filter (fun q => !decide (x < q)) l r.toNat (by k_extra "om") (fun i hi hr => ?_) fun i hi hr => ?_
  · have := h4 i (by k_extra "om")
    simp only [fbisr4, getD_at hi] at this
    exact this
  · have := h5 i (by k_extra "om") hi
    simp only [fbisr4, getD_at hi] at this
    exact this
theorem cutK {x : Int} {l : List (Int × Int)} {r : Int} (h : cutAt l.length (fbisrk x l) r r) : l.take r.toNat = l.filter (fun q => !decide (x < q.1)) ∧ l.drop r.toNat = l.filter (fun q => !(!decide (x < q.1))) := by
  obtain ⟨h1, h2, h3, h4, h5⟩ := h
  refine take_filter (fun q => !decide (x < q.1)) l r.toNat (by k_extra "om") (fun i hi hr => ?_) fun i hi hr => ?_
  · have := h4 i (by k_extra "om")
    simp only [fbisrk, getD_at hi] at this
    exact this
  · have := h5 i (by k_extra "om") hi
    simp only [fbisrk, getD_at hi] at this
    exact this
theorem cutI_len {x : Int} {l : List Int} {r : Int} (h : cutAt l.length (fbisr2 x l) r r) : r = ((l.filter (fun q => !decide (x < q))).length : Int) := by
  have e := (cutI (x := x) h).1
  obtain ⟨h1, h2, h3, h4, h5⟩ := h
  rw [← e, List.length_take]
  k_extra "om"
theorem ints_take {vs : List Value} {ns : List Int} (h : IntsAre vs ns) : ∀ r, IntsAre (vs.take r) (ns.take r) := by
  induction h with
  | nil => intro r; simp; exact .nil
  | cons k t r ih =>
    intro r
    cases r with
    | zero => exact .nil
    | succ r => exact .cons k t (ih r)
theorem ints_drop {vs : List Value} {ns : List Int} (h : IntsAre vs ns) : ∀ r, IntsAre (vs.drop r) (ns.drop r) := by
  induction h with
  | nil => intro r; simp; exact .nil
  | cons k t r ih =>
    intro q
    cases q with
    | zero => exact .cons k t r
    | succ q => exact ih q
theorem ints_app {vs us : List Value} {ns ms : List Int} (h : IntsAre vs ns) (h2 : IntsAre us ms) : IntsAre (vs ++ us) (ns ++ ms) := by
  induction h with
  | nil => exact h2
  | cons k t r ih => exact .cons k t ih
theorem ints_ins {vs : List Value} {ns : List Int} {x : Int} {t : Tok} (h : IntsAre vs ns) (r : Int) (hc : cutAt ns.length (fbisr4 x ns) r r) : IntsAre (vs.take r.toNat ++ .int x t :: vs.drop r.toNat) (insI x ns) := by
  rw [insI, ← (cutI hc).1, ← (cutI hc).2]
  exact ints_app (ints_take h _) (.cons x t (ints_drop h _))
section
variable {news : List (Addr × Obj)} {vs us : List Value} {ns ms : List (Int × Int)}
theorem pairs_take (h : PairsAt news vs ns) : ∀ r, PairsAt news (vs.take r) (ns.take r) := by
  induction h with
  | nil => intro r; simp; exact .nil
  | cons hm r ih =>
    intro r
    cases r with
    | zero => exact .nil
    | succ r => exact .cons hm (ih r)
theorem pairs_drop (h : PairsAt news vs ns) : ∀ r, PairsAt news (vs.drop r) (ns.drop r) := by
  induction h with
  | nil => intro r; simp; exact .nil
  | cons hm r ih =>
    intro q
    cases q with
    | zero => exact .cons hm r
    | succ q => exact ih q
theorem pairs_app (h : PairsAt news vs ns) (h2 : PairsAt news us ms) : PairsAt news (vs ++ us) (ns ++ ms) := by
  induction h with
  | nil => exact h2
  | cons hm r ih => exact .cons hm ih
theorem pairs_ins {b : Addr} {x y : Int} {k0 k1 : Tok} (h : PairsAt news vs ns) (hb : (b, tupO [.int x k0, .int y k1]) ∈ news) (r : Int) (hc : cutAt ns.length (fbisrk x ns) r r) : PairsAt news (vs.take r.toNat ++ .ref b :: vs.drop r.toNat) (insK (x, y) ns) := by
  rw [insK, ← (cutK hc).1, ← (cutK hc).2]
  exact pairs_app (pairs_take h _) (.cons hb (pairs_drop h _))
end
/-- what _law_ways reckons -/
noncomputable def stepW (st : List Int × Int) (p : Int × Int) : List Int × Int := (insI p.2 st.1, st.2 * (1 + (st.1.length : Int) - ((st.1.filter (fun q => !decide (p.1 < q))).length : Int)))
noncomputable def waysP (l : List (Int × Int)) : Int := ((l.foldl (fun o p => insK p o) []).foldl stepW ([], 1)).2
end
section
variable {w : World} {mean : ExcName → Option Value} {mg mb : Str → Option Value} {dp un : Nat} {gd : Option (List Code)} {cn : Str} {cs : Scope} {L a : Addr} {ccd : Value} {cl : List (Str × Addr)} {outer : List Env}
   {A₀ : Around} {base h₀ : Heap} {m : Str → Option Value} {s : Shared} {Q E : Value → Shared → Prop}
open G0 G3 G10 G41
theorem insK_c {o b : Addr} {x y : Int} {k0 k1 : Tok} {ns : List (Int × Int)} {vs : List Value} {n : Nat} {news : List (Addr × Obj)} {g : Obj → List (Addr × Obj)} (B : Below A₀ base outer h₀) (F : Fr h₀ L s.heap m) (X : (K w.params).In h₀) (N : News h₀ L s.heap news)
   (T : Top topProg LL mean mg mb h₀) (hk : cs.kind = .function) (hdp : dp + 40 < recursionLimit) (hu : un + 320 < cLine)
   (U : UpdF o (listO vs n) news g) {sub : List (Addr × Obj)} (hi : PairsAt sub vs ns) (hsub : ∀ p ∈ sub, p ∈ news) (hb : (b, tupO [.int x k0, .int y k1]) ∈ sub) (hz : ns.length < 1000) (hso : sortK ns)
   (hret : ∀ vs' h' tk', PairsAt sub vs' (insK (x, y) ns) → sortK (insK (x, y) ns) → Fr h₀ L h' m → News h₀ L h' (g (listO vs' (n + 1))) → Q .none { s with heap := h', toks := tk' }) :
   wpAny (model PP w) (ktrTop dp un gd cn cs L a ccd cl outer) (call (.ref 30) [.ref o, .ref b] [(Str.ofString "key", .ref 287)]) Q E s := by
  refine insrk B F X N T hk hdp hu U (hsub _ hb) (hi.mono hsub) hz (monoK hso) fun r h' tk' hc F' N' => ?_
  refine hret _ _ _ (pairs_ins hi hb r hc) (insK_sort hso) F' N'
theorem insI_c {o : Addr} {x : Int} {k0 : Tok} {ns : List Int} {vs : List Value} {n : Nat} {news : List (Addr × Obj)} {g : Obj → List (Addr × Obj)} (B : Below A₀ base outer h₀) (F : Fr h₀ L s.heap m) (X : (K w.params).In h₀) (N : News h₀ L s.heap news)
   (T : Top topProg LL mean mg mb h₀) (hk : cs.kind = .function) (hdp : dp + 40 < recursionLimit) (hu : un + 320 < cLine)
   (U : UpdF o (listO vs n) news g) (hi : IntsAre vs ns) (hz : ns.length < 1000) (hso : sortI ns)
   (hret : ∀ vs' h' tk', IntsAre vs' (insI x ns) → sortI (insI x ns) → Fr h₀ L h' m → News h₀ L h' (g (listO vs' (n + 1))) → Q .none { s with heap := h', toks := tk' }) :
   wpAny (model PP w) (ktrTop dp un gd cn cs L a ccd cl outer) (call (.ref 30) [.ref o, .int x k0]) Q E s := by
  refine insr B F X N T hk hdp hu U hi hz (monoI hso) fun r h' tk' hc F' N' => ?_
  exact hret _ _ _ (ints_ins hi r hc) (insI_sort hso) F' N'
theorem bisI_c {o : Addr} {x : Int} {k0 : Tok} {ns : List Int} {vs : List Value} {n : Nat} {news : List (Addr × Obj)} (B : Below A₀ base outer h₀) (F : Fr h₀ L s.heap m) (X : (K w.params).In h₀) (N : News h₀ L s.heap news)
   (T : Top topProg LL mean mg mb h₀) (hk : cs.kind = .function) (hdp : dp + 20 < recursionLimit) (hu : un + 160 < cLine)
   (ho : (o, listO vs n) ∈ news) (hi : IntsAre vs ns) (hz : ns.length < 1000) (hso : sortI ns)
   (hret : ∀ t h' tk', Fr h₀ L h' m → News h₀ L h' news → Q (.int ((ns.filter (fun q => !decide (x < q))).length : Int) t) { s with heap := h', toks := tk' }) :
   wpAny (model PP w) (ktrTop dp un gd cn cs L a ccd cl outer) (call (.ref 39) [.ref o, .int x k0]) Q E s := by
  refine bisr2 (k1 := 0) B F X N T hk hdp hu ho hi hz (monoI hso) fun r t h' tk' hc F' N' => ?_
  rw [cutI_len hc]
  exact hret _ _ _ F' N'
open G15
theorem fac_ok {a : Int} {ns : List Int} {p : Int → Bool} (h : ns.length < 1000) : IntMulOk a (1 + (ns.length : Int) - ((ns.filter p).length : Int)) := by
  have := List.length_filter_le p ns
  exact .of_right (intBits_le_64 (by k_extra "om") (by k_extra "om"))
open G2
theorem name1 {h₀ h : Heap} {L a : Addr} {oa : Obj} {r : List (Addr × Obj)} (N : News h₀ L h ((a, oa) :: r)) : ∃ a', a' = a := ⟨_, rfl⟩
theorem name3 {h₀ h : Heap} {L a b c d : Addr} {oa ob oc od : Obj} {r : List (Addr × Obj)} (N : News h₀ L h ((a, oa) :: (b, ob) :: (c, oc) :: (d, od) :: r)) : ∃ a' c' d', a' = a ∧ c' = c ∧ d' = d := ⟨_, _, _, rfl, rfl, rfl⟩
structure WaysS where
  io : Obj
  rv : List Value
  lr : List (Int × Int)
  ks : List (Int × Int)
  vo : List Value
  no : Nat
structure WaysT where
  io : Obj
  rv : List Value
  lr : List (Int × Int)
  es : List Int
  ve : List Value
  ne : Nat
  w : Int
  t : Tok
theorem ways_g {o : Addr} {vs : List Value} {n : Nat} {bl : List (Int × Int)} {RR : List (Addr × Obj)} (B : Below A₀ base outer h₀) (F : Fr h₀ L s.heap m) (X : (K w.params).In h₀) (N : News h₀ L s.heap RR)
   (T : Top topProg LL mean mg mb h₀) (hk : cs.kind = .function) (hdp : dp + 60 < recursionLimit) (hu : un + 480 < cLine)
   (hm : (o, listO vs n) ∈ RR) (hb : PairsAt RR vs bl) (hz : bl.length ≤ 100)
   (hret : ∀ t h' tk', Fr h₀ L h' m → News h₀ L h' RR → Q (.int (waysP bl) t) { s with heap := h', toks := tk' }) :
   wpAny (model PP w) (ktrTop dp un gd cn cs L a ccd cl outer) (call (.ref 294) [.ref o]) Q E s := by
  rcases cs with ⟨ck, cnames, cgen, cco, cmore⟩
  cases hk
  (try (refine letA (dp := dp) (un := un) rfl rfl ?_; intro A1 dA1 uA1))
  have hnilI : sortI [] := List.Pairwise.nil
  have hnilK : sortK [] := List.Pairwise.nil
  k_steps
  refine Hold.out (for_in ?_)
  k_steps
  refine Hold.out ?_
  k_extra "mine ylist"
  rename News _ _ _ _ => N1
  obtain ⟨I1, E1, O1, rfl, rfl, rfl⟩ := name3 N1
  rename Yields _ _ _ _ _ _ => Y1
  k_dflt (refine for_r (σ := WaysS) (fun c => (I1, c.io) :: (O1, listO c.vo c.no) :: (E1, listO [] 0) :: RR) (fun c => []) [Str.ofString "block"] (fun c => Yields PP w [(o, listO vs n)] I1 (cV c.rv) c.io ∧ PairsAt RR c.rv c.lr ∧ PairsAt RR c.vo c.ks ∧ sortK c.ks ∧ c.lr.foldl (fun q p => insK p q) c.ks = bl.foldl (fun q p => insK p q) [] ∧ c.ks.length + c.lr.length ≤ 100) (fun c => c.lr.length) ⟨_, vs, bl, [], [], 0⟩ (by k_asm) N1 (by k_extra "mine sub") (by k_extra "mine has") ⟨Y1, hb, .nil, hnilK, rfl, by rw [List.length_nil, Nat.zero_add]; exact hz⟩ ?turn)
  rintro ⟨io, rv, lr, ks, vo, no⟩ u h tk ⟨Y, hr, ho, hs, hf, hz1⟩ Fc Nc
  dsimp only at Y hr ho hs hf hz1 Fc Nc ⊢
  clear N1 Y1
  rcases hr with _ | @⟨b, x, y, k0, k1, rv, lr, hbm, hr⟩
  · have Y' : Yields PP w [(o, listO vs n)] I1 [] io := Y
    have hw : (ks.foldl stepW ([], 1)).2 = waysP bl := by
      unfold waysP
      rw [← hf]
      rfl
    clear Y hf
    k_extra "mine yend"
    k_steps
    refine Hold.out (for_in ?_)
    k_steps
    refine Hold.out ?_
    k_extra "mine ylist"
    rename News _ _ _ _ => N2
    obtain ⟨I2, rfl⟩ := name1 N2
    rename Yields _ _ _ _ _ _ => Y2
    k_dflt (refine for_r (σ := WaysT) (fun c => (I2, c.io) :: (E1, listO c.ve c.ne) :: (O1, listO vo no) :: RR) (fun c => [(Str.ofString "ways", .int c.w c.t)]) [Str.ofString "begin", Str.ofString "end", Str.ofString "ways"] (fun c => Yields PP w [(O1, listO vo no)] I2 (cV c.rv) c.io ∧ PairsAt RR c.rv c.lr ∧ IntsAre c.ve c.es ∧ sortI c.es ∧ (c.lr.foldl stepW (c.es, c.w)).2 = waysP bl ∧ c.es.length + c.lr.length ≤ 100) (fun c => c.lr.length) ⟨_, vo, ks, [], [], 0, 1, _⟩ (by k_asm) N2 (by k_extra "mine sub") (by k_extra "mine has") ⟨Y2, ho, .nil, hnilI, hw, by rw [List.length_nil, Nat.zero_add]; exact hz1⟩ ?turn2)
    clear Fc Nc hz1 hw hs ho Y'
    rintro ⟨io2, rv, lr, es, ve, ne, w9, t9⟩ u h tk ⟨Y, hr, hi, hs, hf, hz1⟩ Fc Nc
    dsimp only at Y hr hi hs hf hz1 Fc Nc ⊢
    clear N2 Y2
    rcases hr with _ | @⟨b, x, y, k0, k1, rv, lr, hbm, hr⟩
    · have Y' : Yields PP w [(O1, listO vo no)] I2 [] io2 := Y
      have hw : w9 = waysP bl := hf
      subst hw
      clear Y hf
      k_extra "mine yend"
      k_steps
      exact hret _ _ _ (by k_asm) (by k_extra "mine news")
    · have Y' : Yields PP w [(O1, listO vo no)] I2 ((fun _ => .ref b) :: cV rv) io2 := Y
      clear Y
      rw [List.length_cons] at hz1
      have hes : es.length < 1000 := by k_extra "om"
      k_extra "mine ynext"
      k_steps
      refine WEnd.intro ⟨_, rv, lr, insI y es, _, ne + 1, _, _⟩ (by k_asm) (by k_asm) (fun p h => h) (by k_extra "mine has") (by k_extra "mine off") ⟨⟨by assumption, hr, by assumption, insI_sort hs, hf, by rw [insI_length]; show es.length + 1 + lr.length ≤ 100; k_extra "om"⟩, Nat.lt_succ_self _⟩
  · have Y' : Yields PP w [(o, listO vs n)] I1 ((fun _ => .ref b) :: cV rv) io := Y
    clear Y
    rw [List.length_cons] at hz1
    have hks : ks.length < 1000 := by k_extra "om"
    k_extra "mine ynext"
    k_steps
    refine WEnd.intro ⟨_, rv, lr, insK (x, y) ks, _, no + 1⟩ (by k_asm) (by k_asm) (fun p h => h) (by k_extra "mine has") (by k_extra "mine off") ⟨⟨by assumption, hr, by assumption, insK_sort hs, hf, by rw [insK_length]; show ks.length + 1 + lr.length ≤ 100; k_extra "om"⟩, Nat.lt_succ_self _⟩
theorem ways_c {o b0 b1 b2 b3 : Addr} {x0 x1 x2 x3 y0 y1 y2 y3 : Int} {n : Nat} {k0 k1 k2 k3 k4 k5 k6 k7 : Tok} {rest : List (Addr × Obj)} (B : Below A₀ base outer h₀) (F : Fr h₀ L s.heap m) (X : (K w.params).In h₀) (N : News h₀ L s.heap ((o, listO [.ref b0, .ref b1, .ref b2, .ref b3] n) :: (b0, tupO [.int x0 k0, .int y0 k1]) :: (b1, tupO [.int x1 k2, .int y1 k3]) :: (b2, tupO [.int x2 k4, .int y2 k5]) :: (b3, tupO [.int x3 k6, .int y3 k7]) :: rest))
   (T : Top topProg LL mean mg mb h₀) (hk : cs.kind = .function) (hdp : dp + 60 < recursionLimit) (hu : un + 480 < cLine)
   (hret : ∀ t h' tk', Fr h₀ L h' m → News h₀ L h' ((o, listO [.ref b0, .ref b1, .ref b2, .ref b3] n) :: (b0, tupO [.int x0 k0, .int y0 k1]) :: (b1, tupO [.int x1 k2, .int y1 k3]) :: (b2, tupO [.int x2 k4, .int y2 k5]) :: (b3, tupO [.int x3 k6, .int y3 k7]) :: rest) → Q (.int (waysP [(x0, y0), (x1, y1), (x2, y2), (x3, y3)]) t) { s with heap := h', toks := tk' }) :
   wpAny (model PP w) (ktrTop dp un gd cn cs L a ccd cl outer) (call (.ref 294) [.ref o]) Q E s :=
  ways_g B F X N T hk hdp hu (.head _) (.cons (.tail _ (.head _)) (.cons (.tail _ (.tail _ (.head _))) (.cons (.tail _ (.tail _ (.tail _ (.head _)))) (.cons (.tail _ (.tail _ (.tail _ (.tail _ (.head _))))) .nil)))) (Nat.le_of_ble_eq_true rfl) hret
end
section
variable {w : World} {mean : ExcName → Option Value} {mg mb : Str → Option Value} {dp un : Nat} {gd : Option (List Code)} {cn : Str} {cs : Scope} {L a : Addr} {ccd : Value} {cl : List (Str × Addr)} {outer : List Env}
   {A₀ : Around} {base h₀ : Heap} {m : Str → Option Value} {s : Shared} {Q E : Value → Shared → Prop}
open G0 G3 G8 G10 G42
theorem gt_end {x d S : Addr} {LT : LexT} {vs ps : List Value} {ln : Int} {tl : Tok} {n2 n3 : Nat} {news r0 r1 r2 r3 : List (Addr × Obj)} (B : Below A₀ base outer h₀) (F : Fr h₀ L s.heap m) (X : (K w.params).In h₀) (N : News h₀ L s.heap news)
   (T : Top topProg LL mean mg mb h₀) (hk : cs.kind = .function) (hdp : dp + 80 < recursionLimit) (hu : un + 800 < cLine)
   (LX0 : LexAt w r0 x d S LT) (R1 : RemF LT.pb (listO ps n3) news r1) (R2 : RemF d (lexDict w LT ln tl) r1 r2) (R3 : RemF S (listO vs n2) r2 r3) (LS : ∀ p ∈ r0, p ∈ r3) (hln : 0 ≤ ln) (hlu : ln < 50000) (CH : CodeHd base 255 251) (hl : LeftIs vs []) (hp0 : ps = [])
   (hret : ∀ t n2 n3 h' tk', Fr h₀ L h' m → News h₀ L h' ((LT.pb, listO [] n3) :: (d, lexDict w LT ln tl) :: (S, listO vs n2) :: r3) → Q (.str (Str.ofString "") t) { s with heap := h', toks := tk' }) :
   wpAny (model PP w) (ktrTop dp un gd cn cs L a ccd cl outer) (call (.ref 235) [.ref x]) Q E s := by
  rcases cs with ⟨ck, cnames, cgen, cco, cmore⟩
  cases hk
  (try (refine letA (dp := dp) (un := un) rfl rfl ?_; intro A1 dA1 uA1))
  have LX := LX0.mono LS
  have LX' := LX
  clear LX0 LS
  obtain ⟨d1, f, c', C, pb1, oc, oC, q, t0, t1, t2, t3, t4, t5, tw, n4, ws, t9, doc, pm, ctv, a1, a2, a3, a4, a5, a6, a7, a8, a9⟩ := LX
  have eS : ∀ p ∈ r3, p.1 ≠ S := remF_ne R3
  have ed : ∀ p ∈ r3, p.1 ≠ d := fun p hp => remF_ne R2 p (remF_sub R3 p hp)
  have ep : ∀ p ∈ r3, p.1 ≠ LT.pb := fun p hp => remF_ne R1 p (remF_sub R2 p (remF_sub R3 p hp))
  have edS : @Ne Nat d S := fun e => remF_ne R2 _ (remF_mem R3) e.symm
  have epd : @Ne Nat LT.pb d := fun e => remF_ne R1 _ (remF_mem R2) e.symm
  have epS : @Ne Nat LT.pb S := fun e => remF_ne R1 _ (remF_sub R2 _ (remF_mem R3)) e.symm
  have N2 : News h₀ L s.heap ((LT.pb, listO ps n3) :: (d, lexDict w LT ln tl) :: (S, listO vs n2) :: (x, instObj 245 d) :: r3) := by
    have s1 : ∀ p ∈ r1, p ∈ news := remF_sub R1
    have s2 : ∀ p ∈ r2, p ∈ news := fun p hp => s1 p (remF_sub R2 p hp)
    have s3 : ∀ p ∈ r3, p ∈ news := fun p hp => s2 p (remF_sub R3 p hp)
    intro p hp
    simp only [List.mem_cons] at hp
    apply N
    rcases hp with h | h | h | h | h
    · rw [h]; exact remF_mem R1
    · rw [h]; exact s1 _ (remF_mem R2)
    · rw [h]; exact s2 _ (remF_mem R3)
    · rw [h]; exact s3 _ a1
    · exact s3 _ h
  have b1 : @Ne Nat x d := ed _ a1
  have g1 : @Ne Nat x S := eS _ a1
  have i1 : @Ne Nat x LT.pb := ep _ a1
  clear N R1 R2 R3
  dsimp only [lexDict] at N2
  subst hp0
  k_steps
  k_extra "mine loop"
  refine for_turn ?_
  k_dflt (refine' ci_nil ?u1B ?u1F ?u1X ?u1N ?u1T ?u1K ?u1d ?u1u ?u1q0 ?u1q1 ?u1q2 ?u1q3 ?u1q4 ?u1q5 ?u1q6 ?u1q7 ?u1q8 ?u1q9 ?u1q10 ?_; (case u1B => k_asm); (case u1F => k_asm); (case u1X => k_asm); (case u1N => k_asm); (case u1T => k_asm); (case u1K => first | exact rfl | assumption); (case u1d => k_room); (case u1u => k_units); (case u1q0 => assumption); (case u1q1 => k_extra "mine rem"); (case u1q2 => k_extra "mine rem"); (case u1q3 => k_extra "mine sub"); (case u1q4 => assumption); (case u1q5 => k_extra "om"); (case u1q6 => k_asm); (case u1q7 => assumption); (case u1q8 => k_extra "mine mem"); (case u1q9 => k_extra "mine mem"); (case u1q10 => k_extra "mine rem"); intro n9 h9 tk9 F9 N9); (try dsimp only)
  k_steps
  all_goals exact hret _ _ _ _ _ (by k_asm) (by k_extra "mine news")
theorem truthy_c {A : Around} {prog : Program} {l : Addr} {n : Nat} {news : List (Addr × Obj)} {us : List Value} {y : Value} {Q : Bool → Shared → Prop} (N : News h₀ L s.heap news) (hm : (l, listO (y :: us) n) ∈ news) (hz : us.length < 1000) (h : ∀ tk, Q true { s with toks := tk }) : wpAny (model prog w) A (truthy (.ref l)) Q E s := by
  refine wpAny_truthy_list (News.isList N hm) (by simp; k_extra "om") ?_
  have e : (!(y :: us).toArray.isEmpty) = true := by simp
  rw [e]
  exact h _
open G9 G39
theorem gt_push {x d S : Addr} {LT : LexT} {vs ps : List Value} {ln : Int} {tl : Tok} {n2 n3 : Nat} {news r0 r1 r2 r3 : List (Addr × Obj)} {y : Value} {qs : List Value} (B : Below A₀ base outer h₀) (F : Fr h₀ L s.heap m) (X : (K w.params).In h₀) (N : News h₀ L s.heap news)
   (T : Top topProg LL mean mg mb h₀) (hk : cs.kind = .function) (hdp : dp + 80 < recursionLimit) (hu : un + 800 < cLine)
   (LX0 : LexAt w r0 x d S LT) (R1 : RemF LT.pb (listO ps n3) news r1) (R2 : RemF d (lexDict w LT ln tl) r1 r2) (R3 : RemF S (listO vs n2) r2 r3) (LS : ∀ p ∈ r0, p ∈ r3) (hln : 0 ≤ ln) (hlu : ln < 50000) (hp0 : ps = y :: qs) (hz : qs.length < 1000)
   (hret : ∀ n2 n3 h' tk', Fr h₀ L h' m → News h₀ L h' ((LT.pb, listO qs n3) :: (d, lexDict w LT ln tl) :: (S, listO vs n2) :: r3) → Q y { s with heap := h', toks := tk' }) :
   wpAny (model PP w) (ktrTop dp un gd cn cs L a ccd cl outer) (call (.ref 235) [.ref x]) Q E s := by
  rcases cs with ⟨ck, cnames, cgen, cco, cmore⟩
  cases hk
  (try (refine letA (dp := dp) (un := un) rfl rfl ?_; intro A1 dA1 uA1))
  have LX := LX0.mono LS
  have LX' := LX
  clear LX0 LS
  obtain ⟨d1, f, c', C, pb1, oc, oC, q, t0, t1, t2, t3, t4, t5, tw, n4, ws, t9, doc, pm, ctv, a1, a2, a3, a4, a5, a6, a7, a8, a9⟩ := LX
  have eS : ∀ p ∈ r3, p.1 ≠ S := remF_ne R3
  have ed : ∀ p ∈ r3, p.1 ≠ d := fun p hp => remF_ne R2 p (remF_sub R3 p hp)
  have ep : ∀ p ∈ r3, p.1 ≠ LT.pb := fun p hp => remF_ne R1 p (remF_sub R2 p (remF_sub R3 p hp))
  have edS : @Ne Nat d S := fun e => remF_ne R2 _ (remF_mem R3) e.symm
  have epd : @Ne Nat LT.pb d := fun e => remF_ne R1 _ (remF_mem R2) e.symm
  have epS : @Ne Nat LT.pb S := fun e => remF_ne R1 _ (remF_sub R2 _ (remF_mem R3)) e.symm
  have N2 : News h₀ L s.heap ((LT.pb, listO ps n3) :: (d, lexDict w LT ln tl) :: (S, listO vs n2) :: (x, instObj 245 d) :: r3) := by
    have s1 : ∀ p ∈ r1, p ∈ news := remF_sub R1
    have s2 : ∀ p ∈ r2, p ∈ news := fun p hp => s1 p (remF_sub R2 p hp)
    have s3 : ∀ p ∈ r3, p ∈ news := fun p hp => s2 p (remF_sub R3 p hp)
    intro p hp
    simp only [List.mem_cons] at hp
    apply N
    rcases hp with h | h | h | h | h
    · rw [h]; exact remF_mem R1
    · rw [h]; exact s1 _ (remF_mem R2)
    · rw [h]; exact s2 _ (remF_mem R3)
    · rw [h]; exact s3 _ a1
    · exact s3 _ h
  have b1 : @Ne Nat x d := ed _ a1
  have g1 : @Ne Nat x S := eS _ a1
  have i1 : @Ne Nat x LT.pb := ep _ a1
  clear N R1 R2 R3
  dsimp only [lexDict] at N2
  subst hp0
  k_steps
  all_goals exact hret _ _ _ _ (by k_asm) (by k_extra "mine news")
theorem pt_c {x d S : Addr} {LT : LexT} {vs ps : List Value} {ln : Int} {tl : Tok} {n2 n3 : Nat} {news r0 r1 r2 r3 : List (Addr × Obj)} {y : Value} (B : Below A₀ base outer h₀) (F : Fr h₀ L s.heap m) (X : (K w.params).In h₀) (N : News h₀ L s.heap news)
   (T : Top topProg LL mean mg mb h₀) (hk : cs.kind = .function) (hdp : dp + 80 < recursionLimit) (hu : un + 800 < cLine)
   (LX0 : LexAt w r0 x d S LT) (R1 : RemF LT.pb (listO ps n3) news r1) (R2 : RemF d (lexDict w LT ln tl) r1 r2) (R3 : RemF S (listO vs n2) r2 r3) (LS : ∀ p ∈ r0, p ∈ r3) (hln : 0 ≤ ln) (hlu : ln < 50000) (hz : ps.length < 1000)
   (hret : ∀ n2 n3 h' tk', Fr h₀ L h' m → News h₀ L h' ((LT.pb, listO (ps ++ [y]) n3) :: (d, lexDict w LT ln tl) :: (S, listO vs n2) :: r3) → Q .none { s with heap := h', toks := tk' }) :
   wpAny (model PP w) (ktrTop dp un gd cn cs L a ccd cl outer) (call (.ref 242) [.ref x, y]) Q E s := by
  rcases cs with ⟨ck, cnames, cgen, cco, cmore⟩
  cases hk
  (try (refine letA (dp := dp) (un := un) rfl rfl ?_; intro A1 dA1 uA1))
  have LX := LX0.mono LS
  have LX' := LX
  clear LX0 LS
  obtain ⟨d1, f, c', C, pb1, oc, oC, q, t0, t1, t2, t3, t4, t5, tw, n4, ws, t9, doc, pm, ctv, a1, a2, a3, a4, a5, a6, a7, a8, a9⟩ := LX
  have eS : ∀ p ∈ r3, p.1 ≠ S := remF_ne R3
  have ed : ∀ p ∈ r3, p.1 ≠ d := fun p hp => remF_ne R2 p (remF_sub R3 p hp)
  have ep : ∀ p ∈ r3, p.1 ≠ LT.pb := fun p hp => remF_ne R1 p (remF_sub R2 p (remF_sub R3 p hp))
  have edS : @Ne Nat d S := fun e => remF_ne R2 _ (remF_mem R3) e.symm
  have epd : @Ne Nat LT.pb d := fun e => remF_ne R1 _ (remF_mem R2) e.symm
  have epS : @Ne Nat LT.pb S := fun e => remF_ne R1 _ (remF_sub R2 _ (remF_mem R3)) e.symm
  have N2 : News h₀ L s.heap ((LT.pb, listO ps n3) :: (d, lexDict w LT ln tl) :: (S, listO vs n2) :: (x, instObj 245 d) :: r3) := by
    have s1 : ∀ p ∈ r1, p ∈ news := remF_sub R1
    have s2 : ∀ p ∈ r2, p ∈ news := fun p hp => s1 p (remF_sub R2 p hp)
    have s3 : ∀ p ∈ r3, p ∈ news := fun p hp => s2 p (remF_sub R3 p hp)
    intro p hp
    simp only [List.mem_cons] at hp
    apply N
    rcases hp with h | h | h | h | h
    · rw [h]; exact remF_mem R1
    · rw [h]; exact s1 _ (remF_mem R2)
    · rw [h]; exact s2 _ (remF_mem R3)
    · rw [h]; exact s3 _ a1
    · exact s3 _ h
  have b1 : @Ne Nat x d := ed _ a1
  have g1 : @Ne Nat x S := eS _ a1
  have i1 : @Ne Nat x LT.pb := ep _ a1
  clear N R1 R2 R3
  dsimp only [lexDict] at N2
  k_steps
  all_goals exact hret _ _ _ _ (by k_asm) (by k_extra "mine news")
end
section
variable {w : World} {mean : ExcName → Option Value} {mg mb : Str → Option Value} {dp un : Nat} {gd : Option (List Code)} {cn : Str} {cs : Scope} {L a : Addr} {ccd : Value} {cl : List (Str × Addr)} {outer : List Env}
   {A₀ : Around} {base h₀ : Heap} {m : Str → Option Value} {s : Shared} {Q E : Value → Shared → Prop}
open G0 G3 G8 G10 G42
theorem any_call {M : Model} {A : Around} {f : Value} {pos : List Value} {Q E : Value → Shared → Prop} {s : Shared} (hc : codeAny M A (.call f ⟨pos, []⟩) (Ret Q E) s) : wpAny M A (call f pos) Q E s := by
  refine wpAny_call (codeAny_mono hc fun r s' h => ?_)
  cases r with
  | error e => exact h
  | ok f => cases f <;> exact h
open G16
theorem occ_q : (Builtin.Str.occurrences (Str.ofString "\n\t\r ") (Str.ofString "\"") 0 (Str.ofString "\n\t\r ").length 1).isEmpty = true := by decide +kernel
theorem one_q {c : Nat} (h : c ≠ 34) : ((⟨#[c]⟩ : Str) == Str.ofString "\"") = false := by
  have e : Str.ofString "\"" = ⟨#[34]⟩ := by decide +kernel
  rw [e]
  exact beq_false_of_ne (by intro k; injection k with k; injection k with k; injection k with k; exact h k)
theorem one_b {c : Nat} (h : c ≠ 92) : ((⟨#[c]⟩ : Str) == Str.ofString "\\") = false := by
  have e : Str.ofString "\\" = ⟨#[92]⟩ := by decide +kernel
  rw [e]
  exact beq_false_of_ne (by intro k; injection k with k; injection k with k; injection k with k; exact h k)
theorem str_snoc (acc : List Nat) (c : Nat) : (⟨acc.toArray⟩ : Str) ++ (⟨#[c]⟩ : Str) = ⟨(acc ++ [c]).toArray⟩ := str_app acc [c]
theorem nls_snoc (acc : List Nat) (c : Nat) : nls (acc ++ [c]) = nls acc + nl c := by
  rw [nls_append]
  show nls acc + (nl c + 0) = _
  k_extra "om"
structure LoopS where
  (k acc : List Nat) (txt : Str) (tt : Tok) (ln : Int) (tl : Tok) (us : List Value) (n : Nat)
theorem gt_q {x d S : Addr} {LT : LexT} {vs ps : List Value} {ln : Int} {tl : Tok} {n2 n3 : Nat} {news r0 r1 r2 r3 : List (Addr × Obj)} {os rest : List Nat} (B : Below A₀ base outer h₀) (F : Fr h₀ L s.heap m) (X : (K w.params).In h₀) (N : News h₀ L s.heap news)
   (T : Top topProg LL mean mg mb h₀) (hk : cs.kind = .function) (hdp : dp + 80 < recursionLimit) (hu : un + 800 < cLine)
   (LX0 : LexAt w r0 x d S LT) (R1 : RemF LT.pb (listO ps n3) news r1) (R2 : RemF d (lexDict w LT ln tl) r1 r2) (R3 : RemF S (listO vs n2) r2 r3) (LS : ∀ p ∈ r0, p ∈ r3) (hln : 0 ≤ ln) (hlu : ln < 50000) (CH : CodeHd base 255 251) (hp0 : ps = []) (hl : LeftIs vs (34 :: ((os.map qf).flatten ++ 34 :: rest))) (hz : os.length ≤ 100) (hz2 : rest.length ≤ 500)
   (hret : ∀ t tl us n2 n3 h' tk', LeftIs us rest → Fr h₀ L h' m → News h₀ L h' ((d, lexDict w LT (ln + nls os) tl) :: (S, listO us n2) :: (LT.pb, listO [] n3) :: r3) → Q (.str ⟨os.toArray⟩ t) { s with heap := h', toks := tk' }) :
   wpAny (model PP w) (ktrTop dp un gd cn cs L a ccd cl outer) (call (.ref 235) [.ref x]) Q E s := by
  rcases cs with ⟨ck, cnames, cgen, cco, cmore⟩
  cases hk
  (try (refine letA (dp := dp) (un := un) rfl rfl ?_; intro A1 dA1 uA1))
  have LX := LX0.mono LS
  have LX' := LX
  clear LX0 LS
  obtain ⟨d1, f, c', C, pb1, oc, oC, q, t0, t1, t2, t3, t4, t5, tw, n4, ws, t9, doc, pm, ctv, a1, a2, a3, a4, a5, a6, a7, a8, a9⟩ := LX
  have eS : ∀ p ∈ r3, p.1 ≠ S := remF_ne R3
  have ed : ∀ p ∈ r3, p.1 ≠ d := fun p hp => remF_ne R2 p (remF_sub R3 p hp)
  have ep : ∀ p ∈ r3, p.1 ≠ LT.pb := fun p hp => remF_ne R1 p (remF_sub R2 p (remF_sub R3 p hp))
  have edS : @Ne Nat d S := fun e => remF_ne R2 _ (remF_mem R3) e.symm
  have epd : @Ne Nat LT.pb d := fun e => remF_ne R1 _ (remF_mem R2) e.symm
  have epS : @Ne Nat LT.pb S := fun e => remF_ne R1 _ (remF_sub R2 _ (remF_mem R3)) e.symm
  have N2 : News h₀ L s.heap ((LT.pb, listO ps n3) :: (d, lexDict w LT ln tl) :: (S, listO vs n2) :: (x, instObj 245 d) :: r3) := by
    have s1 : ∀ p ∈ r1, p ∈ news := remF_sub R1
    have s2 : ∀ p ∈ r2, p ∈ news := fun p hp => s1 p (remF_sub R2 p hp)
    have s3 : ∀ p ∈ r3, p ∈ news := fun p hp => s2 p (remF_sub R3 p hp)
    intro p hp
    simp only [List.mem_cons] at hp
    apply N
    rcases hp with h | h | h | h | h
    · rw [h]; exact remF_mem R1
    · rw [h]; exact s1 _ (remF_mem R2)
    · rw [h]; exact s2 _ (remF_mem R3)
    · rw [h]; exact s3 _ a1
    · exact s3 _ h
  have b1 : @Ne Nat x d := ed _ a1
  have g1 : @Ne Nat x S := eS _ a1
  have i1 : @Ne Nat x LT.pb := ep _ a1
  clear N R1 R2 R3
  dsimp only [lexDict] at N2
  subst hp0
  have hfl := flat_le qf (fun c => by unfold qf; split <;> simp) os
  k_steps
  k_extra "mine loop"
  refine for_turn ?_
  k_dflt (refine' ci_cons ?u1B ?u1F ?u1X ?u1N ?u1T ?u1K ?u1d ?u1u ?u1q0 ?u1q1 ?u1q2 ?u1q3 ?u1q4 ?u1q5 ?u1q6 ?u1q7 ?u1q8 ?u1q9 ?u1q10 ?_; (case u1B => k_asm); (case u1F => k_asm); (case u1X => k_asm); (case u1N => k_asm); (case u1T => k_asm); (case u1K => first | exact rfl | assumption); (case u1d => k_room); (case u1u => k_units); (case u1q0 => assumption); (case u1q1 => k_extra "mine rem"); (case u1q2 => k_extra "mine rem"); (case u1q3 => k_extra "mine sub"); (case u1q4 => k_extra "om"); (case u1q5 => k_extra "om"); (case u1q6 => k_asm); (case u1q7 => assumption); (case u1q8 => (simp only [List.length_append, List.length_cons]; k_extra "om")); (case u1q9 => k_extra "mine mem"); (case u1q10 => k_extra "mine mem"); intro t1 tl1 us1 n1 h1 tk1 hu1 F1 N1); (try dsimp only)
  refine ci_own (by k_asm) (by k_extra "mine mem") ?_
  have e34 : nl 34 = 0 := rfl
  simp only [e34, Int.add_zero] at N1
  k_steps
  rotate_left
  · rename _ = false => hF
    rw [occ_q] at hF
    cases hF
  clear hl
  k_extra "mine loop"
  k_dflt (refine for_rc (σ := LoopS) _ (fun c cst => (d, lexDict w LT c.ln c.tl) :: (S, listO c.us c.n) :: cst) (fun c => [(Str.ofString "token", .str c.txt c.tt)]) [Str.ofString "ch", Str.ofString "token"] (fun c => LeftIs c.us ((c.k.map qf).flatten ++ 34 :: rest) ∧ c.acc ++ c.k = os ∧ c.ln = ln + nls c.acc ∧ c.txt = ⟨c.acc.toArray⟩) (fun c => c.k.length) ⟨os, [], _, _, ln, _, us1, _⟩ (by k_asm) (by k_asm) (fun p h => h) (by k_extra "mine has") ⟨hu1, rfl, (by show ln = ln + 0; k_extra "om"), str_none⟩ ?turn)
  rintro ⟨k, acc, txt, tt, lnc, tlc, us, nc⟩ u h tk ⟨hl, hacc, hlnc, htxt⟩ Fc Nc
  dsimp only at hl hacc hlnc htxt Fc Nc ⊢
  subst htxt
  have hna := nls_le acc
  have hla : acc.length + k.length = os.length := by rw [← hacc, List.length_append]
  have hfk := flat_le qf (fun c => by unfold qf; split <;> simp) k
  cases k with
  | nil =>
    have hl' : LeftIs us (34 :: rest) := hl
    clear hl
    k_dflt (refine' ci_cons ?u2B ?u2F ?u2X ?u2N ?u2T ?u2K ?u2d ?u2u ?u2q0 ?u2q1 ?u2q2 ?u2q3 ?u2q4 ?u2q5 ?u2q6 ?u2q7 ?u2q8 ?u2q9 ?u2q10 ?_; (case u2B => k_asm); (case u2F => k_asm); (case u2X => k_asm); (case u2N => k_asm); (case u2T => k_asm); (case u2K => first | exact rfl | assumption); (case u2d => k_room); (case u2u => k_units); (case u2q0 => assumption); (case u2q1 => k_extra "mine rem"); (case u2q2 => k_extra "mine rem"); (case u2q3 => k_extra "mine sub"); (case u2q4 => k_extra "om"); (case u2q5 => k_extra "om"); (case u2q6 => k_asm); (case u2q7 => assumption); (case u2q8 => k_extra "om"); (case u2q9 => k_extra "mine mem"); (case u2q10 => k_extra "mine mem"); intro t2 tl2 us2 n2 h2 tk2 hu2 F2 N2); (try dsimp only)
    refine ci_own (by k_asm) (by k_extra "mine mem") ?_
    simp only [e34, Int.add_zero] at N2
    k_steps
    (try dsimp only [WPost, ForPost])
    k_steps
    (try dsimp only [WPost, ForPost])
    k_steps
    rw [List.append_nil] at hacc
    subst hacc
    subst hlnc
    exact hret _ _ _ _ _ _ _ hu2 (by k_asm) (by k_extra "mine news")
  | cons c k =>
    have hfk := flat_le qf (fun c => by unfold qf; split <;> simp) k
    rw [List.length_cons] at hla
    have hnc : 0 ≤ nl c ∧ nl c ≤ 1 := by unfold nl; split <;> simp
    by_cases hs : c = 34 ∨ c = 92
    · have hl' : LeftIs us (92 :: (c :: ((k.map qf).flatten ++ 34 :: rest))) := by
        have e : qf c = [92, c] := if_pos hs
        rw [List.map_cons, List.flatten_cons, e] at hl
        exact hl
      clear hl
      k_dflt (refine' ci_cons ?u3B ?u3F ?u3X ?u3N ?u3T ?u3K ?u3d ?u3u ?u3q0 ?u3q1 ?u3q2 ?u3q3 ?u3q4 ?u3q5 ?u3q6 ?u3q7 ?u3q8 ?u3q9 ?u3q10 ?_; (case u3B => k_asm); (case u3F => k_asm); (case u3X => k_asm); (case u3N => k_asm); (case u3T => k_asm); (case u3K => first | exact rfl | assumption); (case u3d => k_room); (case u3u => k_units); (case u3q0 => assumption); (case u3q1 => k_extra "mine rem"); (case u3q2 => k_extra "mine rem"); (case u3q3 => k_extra "mine sub"); (case u3q4 => k_extra "om"); (case u3q5 => k_extra "om"); (case u3q6 => k_asm); (case u3q7 => assumption); (case u3q8 => (simp only [List.length_append, List.length_cons]; k_extra "om")); (case u3q9 => k_extra "mine mem"); (case u3q10 => k_extra "mine mem"); intro t2 tl2 us2 n2 h2 tk2 hu2 F2 N2); (try dsimp only)
      refine ci_own (by k_asm) (by k_extra "mine mem") ?_
      have e92 : nl 92 = 0 := rfl
      simp only [e92, Int.add_zero] at N2
      k_steps
      all_goals (
        refine WEnd.intro ⟨k, acc ++ [c], _, _, _, _, _, _⟩ (by k_asm) (by k_asm) (fun p h => h) (by k_extra "mine has") (by k_extra "mine off") ⟨⟨by assumption, ?_, ?_, ?_⟩, Nat.lt_succ_self _⟩
        · dsimp only; rw [List.append_assoc]; exact hacc
        · dsimp only; rw [nls_snoc]; k_extra "om"
        · exact str_snoc acc c)
    · have hl' : LeftIs us (c :: ((k.map qf).flatten ++ 34 :: rest)) := by
        have e : qf c = [c] := if_neg hs
        rw [List.map_cons, List.flatten_cons, e] at hl
        exact hl
      clear hl
      k_dflt (refine' ci_cons ?u4B ?u4F ?u4X ?u4N ?u4T ?u4K ?u4d ?u4u ?u4q0 ?u4q1 ?u4q2 ?u4q3 ?u4q4 ?u4q5 ?u4q6 ?u4q7 ?u4q8 ?u4q9 ?u4q10 ?_; (case u4B => k_asm); (case u4F => k_asm); (case u4X => k_asm); (case u4N => k_asm); (case u4T => k_asm); (case u4K => first | exact rfl | assumption); (case u4d => k_room); (case u4u => k_units); (case u4q0 => assumption); (case u4q1 => k_extra "mine rem"); (case u4q2 => k_extra "mine rem"); (case u4q3 => k_extra "mine sub"); (case u4q4 => k_extra "om"); (case u4q5 => k_extra "om"); (case u4q6 => k_asm); (case u4q7 => assumption); (case u4q8 => (simp only [List.length_append, List.length_cons]; k_extra "om")); (case u4q9 => k_extra "mine mem"); (case u4q10 => k_extra "mine mem"); intro t2 tl2 us2 n2 h2 tk2 hu2 F2 N2); (try dsimp only)
      refine ci_own (by k_asm) (by k_extra "mine mem") ?_
      have hb1 := one_q (c := c) (fun e => hs (.inl e))
      have hb2 := one_b (c := c) (fun e => hs (.inr e))
      k_steps
      all_goals (
        refine WEnd.intro ⟨k, acc ++ [c], _, _, _, _, _, _⟩ (by k_asm) (by k_asm) (fun p h => h) (by k_extra "mine has") (by k_extra "mine off") ⟨⟨by assumption, ?_, ?_, ?_⟩, Nat.lt_succ_self _⟩
        · dsimp only; rw [List.append_assoc]; exact hacc
        · dsimp only; rw [nls_snoc]; k_extra "om"
        · exact str_snoc acc c)
theorem occ_w92 : (Builtin.Str.occurrences (Str.ofString "\n\t\r ") (Str.ofString "\\") 0 (Str.ofString "\n\t\r ").length 1).isEmpty = true := by decide +kernel
theorem occ_w10 : (Builtin.Str.occurrences (Str.ofString "\n\t\r ") (Str.ofString "\n") 0 (Str.ofString "\n\t\r ").length 1).isEmpty = false := by decide +kernel
theorem gt_b {x d S : Addr} {LT : LexT} {vs ps : List Value} {ln : Int} {tl : Tok} {n2 n3 : Nat} {news r0 r1 r2 r3 : List (Addr × Obj)} {c0 : Nat} {os rest : List Nat} (B : Below A₀ base outer h₀) (F : Fr h₀ L s.heap m) (X : (K w.params).In h₀) (N : News h₀ L s.heap news)
   (T : Top topProg LL mean mg mb h₀) (hk : cs.kind = .function) (hdp : dp + 80 < recursionLimit) (hu : un + 800 < cLine)
   (LX0 : LexAt w r0 x d S LT) (R1 : RemF LT.pb (listO ps n3) news r1) (R2 : RemF d (lexDict w LT ln tl) r1 r2) (R3 : RemF S (listO vs n2) r2 r3) (LS : ∀ p ∈ r0, p ∈ r3) (hln : 0 ≤ ln) (hlu : ln < 50000) (CH : CodeHd base 255 251) (hp0 : ps = []) (hl : LeftIs vs (92 :: c0 :: ((os.map bf).flatten ++ 10 :: rest))) (hz : os.length ≤ 100) (hz2 : rest.length ≤ 500)
   (hret : ∀ t tl us n2 n3 h' tk', LeftIs us rest → Fr h₀ L h' m → News h₀ L h' ((d, lexDict w LT (ln + nls (c0 :: os) + 1) tl) :: (S, listO us n2) :: (LT.pb, listO [] n3) :: r3) → Q (.str ⟨(c0 :: os).toArray⟩ t) { s with heap := h', toks := tk' }) :
   wpAny (model PP w) (ktrTop dp un gd cn cs L a ccd cl outer) (call (.ref 235) [.ref x]) Q E s := by
  rcases cs with ⟨ck, cnames, cgen, cco, cmore⟩
  cases hk
  (try (refine letA (dp := dp) (un := un) rfl rfl ?_; intro A1 dA1 uA1))
  have LX := LX0.mono LS
  have LX' := LX
  clear LX0 LS
  obtain ⟨d1, f, c', C, pb1, oc, oC, q, t0, t1, t2, t3, t4, t5, tw, n4, ws, t9, doc, pm, ctv, a1, a2, a3, a4, a5, a6, a7, a8, a9⟩ := LX
  have eS : ∀ p ∈ r3, p.1 ≠ S := remF_ne R3
  have ed : ∀ p ∈ r3, p.1 ≠ d := fun p hp => remF_ne R2 p (remF_sub R3 p hp)
  have ep : ∀ p ∈ r3, p.1 ≠ LT.pb := fun p hp => remF_ne R1 p (remF_sub R2 p (remF_sub R3 p hp))
  have edS : @Ne Nat d S := fun e => remF_ne R2 _ (remF_mem R3) e.symm
  have epd : @Ne Nat LT.pb d := fun e => remF_ne R1 _ (remF_mem R2) e.symm
  have epS : @Ne Nat LT.pb S := fun e => remF_ne R1 _ (remF_sub R2 _ (remF_mem R3)) e.symm
  have N2 : News h₀ L s.heap ((LT.pb, listO ps n3) :: (d, lexDict w LT ln tl) :: (S, listO vs n2) :: (x, instObj 245 d) :: r3) := by
    have s1 : ∀ p ∈ r1, p ∈ news := remF_sub R1
    have s2 : ∀ p ∈ r2, p ∈ news := fun p hp => s1 p (remF_sub R2 p hp)
    have s3 : ∀ p ∈ r3, p ∈ news := fun p hp => s2 p (remF_sub R3 p hp)
    intro p hp
    simp only [List.mem_cons] at hp
    apply N
    rcases hp with h | h | h | h | h
    · rw [h]; exact remF_mem R1
    · rw [h]; exact s1 _ (remF_mem R2)
    · rw [h]; exact s2 _ (remF_mem R3)
    · rw [h]; exact s3 _ a1
    · exact s3 _ h
  have b1 : @Ne Nat x d := ed _ a1
  have g1 : @Ne Nat x S := eS _ a1
  have i1 : @Ne Nat x LT.pb := ep _ a1
  clear N R1 R2 R3
  dsimp only [lexDict] at N2
  subst hp0
  have hfl := flat_le bf (fun c => Nat.le_refl _) os
  k_steps
  k_extra "mine loop"
  refine for_turn ?_
  k_dflt (refine' ci_cons ?u5B ?u5F ?u5X ?u5N ?u5T ?u5K ?u5d ?u5u ?u5q0 ?u5q1 ?u5q2 ?u5q3 ?u5q4 ?u5q5 ?u5q6 ?u5q7 ?u5q8 ?u5q9 ?u5q10 ?_; (case u5B => k_asm); (case u5F => k_asm); (case u5X => k_asm); (case u5N => k_asm); (case u5T => k_asm); (case u5K => first | exact rfl | assumption); (case u5d => k_room); (case u5u => k_units); (case u5q0 => assumption); (case u5q1 => k_extra "mine rem"); (case u5q2 => k_extra "mine rem"); (case u5q3 => k_extra "mine sub"); (case u5q4 => k_extra "om"); (case u5q5 => k_extra "om"); (case u5q6 => k_asm); (case u5q7 => assumption); (case u5q8 => (simp only [List.length_append, List.length_cons]; k_extra "om")); (case u5q9 => k_extra "mine mem"); (case u5q10 => k_extra "mine mem"); intro t1 tl1 us1 n1 h1 tk1 hu1 F1 N1); (try dsimp only)
  refine ci_own (by k_asm) (by k_extra "mine mem") ?_
  have e92 : nl 92 = 0 := rfl
  have e10 : nl 10 = 1 := rfl
  have hn0 : 0 ≤ nl c0 ∧ nl c0 ≤ 1 := by unfold nl; split <;> simp
  simp only [e92, Int.add_zero] at N1
  k_steps
  rotate_left
  · rename _ = false => hF
    rw [occ_w92] at hF
    cases hF
  clear hl
  rename LeftIs _ ((os.map bf).flatten ++ 10 :: rest) => hu3
  k_extra "mine loop"
  k_dflt (refine for_rc (σ := LoopS) _ (fun c cst => (d, lexDict w LT c.ln c.tl) :: (S, listO c.us c.n) :: cst) (fun c => [(Str.ofString "token", .str c.txt c.tt)]) [Str.ofString "ch", Str.ofString "token"] (fun c => LeftIs c.us ((c.k.map bf).flatten ++ 10 :: rest) ∧ c.acc ++ c.k = c0 :: os ∧ c.ln = ln + nls c.acc ∧ c.txt = ⟨c.acc.toArray⟩) (fun c => c.k.length) ⟨os, [c0], _, _, ln + nl c0, _, _, _⟩ (by k_asm) (by k_asm) (fun p h => h) (by k_extra "mine has") ⟨hu3, rfl, (by show ln + nl c0 = ln + (nl c0 + 0); k_extra "om"), str_snoc [] c0⟩ ?turn)
  rintro ⟨k, acc, txt, tt, lnc, tlc, us, nc⟩ u h tk ⟨hl, hacc, hlnc, htxt⟩ Fc Nc
  dsimp only at hl hacc hlnc htxt Fc Nc ⊢
  subst htxt
  have hna := nls_le acc
  have hla : acc.length + k.length = os.length + 1 := by
    have := congrArg List.length hacc
    rwa [List.length_append, List.length_cons] at this
  cases k with
  | nil =>
    have hl' : LeftIs us (10 :: rest) := hl
    clear hl
    k_dflt (refine' ci_cons ?u6B ?u6F ?u6X ?u6N ?u6T ?u6K ?u6d ?u6u ?u6q0 ?u6q1 ?u6q2 ?u6q3 ?u6q4 ?u6q5 ?u6q6 ?u6q7 ?u6q8 ?u6q9 ?u6q10 ?_; (case u6B => k_asm); (case u6F => k_asm); (case u6X => k_asm); (case u6N => k_asm); (case u6T => k_asm); (case u6K => first | exact rfl | assumption); (case u6d => k_room); (case u6u => k_units); (case u6q0 => assumption); (case u6q1 => k_extra "mine rem"); (case u6q2 => k_extra "mine rem"); (case u6q3 => k_extra "mine sub"); (case u6q4 => k_extra "om"); (case u6q5 => k_extra "om"); (case u6q6 => k_asm); (case u6q7 => assumption); (case u6q8 => k_extra "om"); (case u6q9 => k_extra "mine mem"); (case u6q10 => k_extra "mine mem"); intro t2 tl2 us2 n2 h2 tk2 hu2 F2 N2); (try dsimp only)
    refine ci_own (by k_asm) (by k_extra "mine mem") ?_
    simp only [e10] at N2
    k_steps
    · rename _ = true => hF
      rw [occ_w10] at hF
      cases hF
    (try dsimp only [WPost, ForPost])
    k_steps
    (try dsimp only [WPost, ForPost])
    k_steps
    rw [List.append_nil] at hacc
    subst hacc
    subst hlnc
    exact hret _ _ _ _ _ _ _ hu2 (by k_asm) (by k_extra "mine news")
  | cons c k =>
    have hfk := flat_le bf (fun c => Nat.le_refl _) k
    rw [List.length_cons] at hla
    have hnc : 0 ≤ nl c ∧ nl c ≤ 1 := by unfold nl; split <;> simp
    have hl' : LeftIs us (92 :: (c :: ((k.map bf).flatten ++ 10 :: rest))) := hl
    clear hl
    k_dflt (refine' ci_cons ?u7B ?u7F ?u7X ?u7N ?u7T ?u7K ?u7d ?u7u ?u7q0 ?u7q1 ?u7q2 ?u7q3 ?u7q4 ?u7q5 ?u7q6 ?u7q7 ?u7q8 ?u7q9 ?u7q10 ?_; (case u7B => k_asm); (case u7F => k_asm); (case u7X => k_asm); (case u7N => k_asm); (case u7T => k_asm); (case u7K => first | exact rfl | assumption); (case u7d => k_room); (case u7u => k_units); (case u7q0 => assumption); (case u7q1 => k_extra "mine rem"); (case u7q2 => k_extra "mine rem"); (case u7q3 => k_extra "mine sub"); (case u7q4 => k_extra "om"); (case u7q5 => k_extra "om"); (case u7q6 => k_asm); (case u7q7 => assumption); (case u7q8 => (simp only [List.length_append, List.length_cons]; k_extra "om")); (case u7q9 => k_extra "mine mem"); (case u7q10 => k_extra "mine mem"); intro t2 tl2 us2 n2 h2 tk2 hu2 F2 N2); (try dsimp only)
    refine ci_own (by k_asm) (by k_extra "mine mem") ?_
    simp only [e92, Int.add_zero] at N2
    k_steps
    rotate_left
    · rename _ = false => hF
      rw [occ_w92] at hF
      cases hF
    refine WEnd.intro ⟨k, acc ++ [c], _, _, _, _, _, _⟩ (by k_asm) (by k_asm) (fun p h => h) (by k_extra "mine has") (by k_extra "mine off") ⟨⟨by assumption, ?_, ?_, ?_⟩, Nat.lt_succ_self _⟩
    · dsimp only; rw [List.append_assoc]; exact hacc
    · dsimp only; rw [nls_snoc]; k_extra "om"
    · exact str_snoc acc c
end
section
/-- bytes by their figures, an iterator over them: what is left -/
noncomputable def BiLeft (o : Obj) (l : List Nat) : Prop := ∃ (b : Array UInt8) (t : Tok) (i : Nat), o.cls = .type "bytes_iterator" ∧ o.data = .fields #[.bytes b t, .int i 0] ∧ (b.toList.drop i).map (·.toNat) = l
section
variable {prog : Program} {w : World} {A : Around} {E : Value → Shared → Prop} {s : Shared} {h₀ : Heap} {L I l : Addr} {m : Str → Option Value} {news nx : List (Addr × Obj)} {g : Obj → List (Addr × Obj)} {io : Obj} {n : Nat}
theorem bytes_r {vs : List Value} {ns : List Int} {Q : Value → Shared → Prop} (hh : A.handled = none) (F : Fr h₀ L s.heap m) (N : News h₀ L s.heap news) (hl : (l, listO vs n) ∈ news) (hi : IntsAre vs ns) (hr : ∀ n ∈ ns, 0 ≤ n ∧ n < 256) (hz : ns.length ≤ 1000)
    (h : ∀ b t h' tk, b.toList.map (·.toNat) = ns.map Int.toNat → Fr h₀ L h' m → News h₀ L h' news → Q (.bytes b t) { s with heap := h', toks := tk }) :
    wpAny (model prog w) A (call (.type "bytes") [.ref l]) Q E s := by
  refine call_bytes_ints (News.isList N hl) hi hr (by rw [hi.length, sizeLine_eq]; k_extra "om") hh fun h' t k hk => ?_
  refine h _ t h' k ?_ (F.keeps hk) (fun p hp => ⟨hk _ _ (N p hp).1, (N p hp).2⟩)
  have key : ∀ ns : List Int, (∀ n ∈ ns, 0 ≤ n ∧ n < 256) → (ns.map fun n => n.toNat.toUInt8).map (·.toNat) = ns.map Int.toNat := by
    intro ns
    induction ns with
    | nil => intro _; rfl
    | cons a r ih =>
      intro hr
      rw [List.map_cons, List.map_cons, List.map_cons, ih fun n hn => hr n (.tail _ hn)]
      congr 1
      have := hr a (.head _)
      show a.toNat.toUInt8.toNat = a.toNat
      have h2 : a.toNat < 256 := by k_extra "om"
      simp [Nat.mod_eq_of_lt h2]
  exact key ns hr
theorem bi_new {b : Array UInt8} {t : Tok} {Q : Value → Shared → Prop} (F : Fr h₀ L s.heap m) (N : News h₀ L s.heap news)
    (h : ∀ I io h', BiLeft io (b.toList.map (·.toNat)) → Fr h₀ L h' m → News h₀ L h' ((I, io) :: news) → (∀ p ∈ news, p.1 < I) → Q (.ref I) { s with heap := h' }) :
    wpAny (model prog w) A (call (.builtin "iter") [.bytes b t]) Q E s := by
  refine call_function_entry (by decide +kernel) (by decide +kernel) kdk_entry_iter (kdk_args_iter _) ?_
  unfold Builtin.«iter»
  refine wpAny_bind (m := someArgs "iter" 1 2 _) (wpAny_of_eq (a := [Value.bytes b t]) (by first | rfl | kernel_rfl!) ?_)
  show wpAny _ _ (pyIter (.bytes b t) >>= _) _ _ _
  refine wpAny_bind (KBw.pyIter_bytes ?_)
  exact wpAny_pure ⟨_, rfl, h _ _ _ ⟨b, t, 0, rfl, rfl, rfl⟩ (F.push _) (News.push F N _ rfl) fun q hq => Heap.lt_size (N q hq).1⟩
theorem bi_next {c : Nat} {r : List Nat} {Q : Value → Shared → Prop} (F : Fr h₀ L s.heap m) (N : News h₀ L s.heap news) (U : UpdF I io news g) (hi : BiLeft io (c :: r))
    (h : ∀ io' h' tk t, BiLeft io' r → Fr h₀ L h' m → News h₀ L h' (g io') → Q (.int (c : Int) t) { s with heap := h', toks := tk }) :
    wpAny (model prog w) A (call (.builtin "next") [.ref I]) Q E s := by
  obtain ⟨b, t, i, hc, hd, hl⟩ := hi
  have hm := N (I, io) (updF_mem U)
  have hit : KBw.IsBytesIter s.heap I b t i := ⟨io, hm.1, hc, hd⟩
  have hlt : i < b.toList.length := by
    rcases Nat.lt_or_ge i b.toList.length with h | h
    · exact h
    · rw [List.drop_eq_nil_of_le h] at hl; cases hl
  rw [List.drop_eq_getElem_cons hlt, List.map_cons] at hl
  injection hl with h1 h2
  have hb : b[i]? = some b.toList[i] := by rw [← Array.getElem?_toList, List.getElem?_eq_getElem hlt]
  refine call_function_entry (by decide +kernel) (by decide +kernel) kdk_entry_next (kdk_args_next _) ?_
  unfold Builtin.«next»
  refine wpAny_bind (m := someArgs "next" 1 2 _) (wpAny_of_eq (a := [Value.ref I]) (by first | rfl | kernel_rfl!) ?_)
  dsimp only
  refine wpAny_bind (wpAny_specialOf (name := Str.ofString "__next__") (KBw.iter_typeIs hit) KBw.slot_next.lookup ?_)
  refine wpAny_ite_split (fun hab => absurd hab (by decide)) (fun _ => ?_)
  refine wpAny_bind (wpAny_callSpecial?_slot (name := Str.ofString "__next__") (KBw.iter_typeIs hit) KBw.slot_next
    (wpAny_call_entry KBw.slot_next (KBw.iter_typeIs hit) KBw.entry_next ?_ (KBw.args_next _)))
  show wpAny _ _ (field (.ref I) 0 >>= _) _ _ s
  refine wpAny_bind (wpAny_field hm.1 hd (x := .bytes b t) rfl ?_)
  show wpAny _ _ (if (Value.bytes b t == Value.none) = true then _ else _) _ _ s
  rw [if_neg (show ¬ ((Value.bytes b t == Value.none) = true) from Bool.false_ne_true)]
  show wpAny _ _ (field (.ref I) 1 >>= _) _ _ s
  refine wpAny_bind (wpAny_field hm.1 hd (x := .int i 0) rfl ?_)
  refine wpAny_bind (wpAny_of_eq (a := b) rfl ?_)
  simp only [Int.toNat_natCast, hb]
  have hup := Heap.get?_update_self (Obj.mapFields (·.setIfInBounds 1 (rawInt ((i : Int) + 1)))) hm.1 (Obj.isFreed_of_fields (Obj.data_mapFields hd _))
  obtain ⟨F', N'⟩ := news_turn F N U (Heap.SameBut.update ..) hup
  refine wpAny_bind (wpAny_setField hm.1 hd (by simp) (wpAny_bind (wpAny_mkInt (wpAny_pure ⟨_, rfl, wpAny_pure ⟨_, rfl, ?_⟩⟩))))
  rw [h1]
  refine h _ _ _ _ ⟨b, t, i + 1, (Obj.cls_mapFields ..).trans hc, ?_, h2⟩ F' N'
  rw [Obj.data_mapFields hd]; simp [rawInt]
theorem own_stop : ownMembersOf (.type "StopIteration") [] = #[] := by
  unfold ownMembersOf
  split <;> first | rfl | (rename_i h; revert h; decide) | simp_all
theorem bi_end {Q : Value → Shared → Prop} (hh : A.handled = none) (F : Fr h₀ L s.heap m) (N : News h₀ L s.heap news) (U : RemF I io news nx) (hi : BiLeft io [])
    (h : ∀ h₁ h' e, Fr h₀ L h₁ m → News h₀ L h₁ nx → Heap.NewExc h₁ h' e "StopIteration" → E (.ref e) { s with heap := h' }) :
    wpAny (model prog w) A (call (.builtin "next") [.ref I]) Q E s := by
  obtain ⟨b, t, i, hc, hd, hl⟩ := hi
  have hm := N (I, io) (remF_mem U)
  have hit : KBw.IsBytesIter s.heap I b t i := ⟨io, hm.1, hc, hd⟩
  have hle : b.toList.length ≤ i := by
    have := congrArg List.length hl
    rw [List.length_map, List.length_drop, List.length_nil] at this
    k_extra "om"
  have hb : b[i]? = none := by rw [← Array.getElem?_toList, List.getElem?_eq_none hle]
  refine call_function_entry (by decide +kernel) (by decide +kernel) kdk_entry_next (kdk_args_next _) ?_
  unfold Builtin.«next»
  refine wpAny_bind (m := someArgs "next" 1 2 _) (wpAny_of_eq (a := [Value.ref I]) (by first | rfl | kernel_rfl!) ?_)
  dsimp only
  refine wpAny_bind (wpAny_specialOf (name := Str.ofString "__next__") (KBw.iter_typeIs hit) KBw.slot_next.lookup ?_)
  refine wpAny_ite_split (fun hab => absurd hab (by decide)) (fun _ => ?_)
  refine wpAny_bind (wpAny_callSpecial?_slot (name := Str.ofString "__next__") (KBw.iter_typeIs hit) KBw.slot_next
    (wpAny_call_entry KBw.slot_next (KBw.iter_typeIs hit) KBw.entry_next ?_ (KBw.args_next _)))
  show wpAny _ _ (field (.ref I) 0 >>= _) _ _ s
  refine wpAny_bind (wpAny_field hm.1 hd (x := .bytes b t) rfl ?_)
  show wpAny _ _ (if (Value.bytes b t == Value.none) = true then _ else _) _ _ s
  rw [if_neg (show ¬ ((Value.bytes b t == Value.none) = true) from Bool.false_ne_true)]
  show wpAny _ _ (field (.ref I) 1 >>= _) _ _ s
  refine wpAny_bind (wpAny_field hm.1 hd (x := .int i 0) rfl ?_)
  refine wpAny_bind (wpAny_of_eq (a := b) rfl ?_)
  simp only [Int.toNat_natCast, hb]
  refine wpAny_bind (wpAny_rule (wpAny_bind (wpAny_setField hm.1 hd (by simp) ?_)))
  obtain ⟨F', N'⟩ := news_lost F N (remF_mem U) ((Heap.SameBut.update (h := s.heap) (a := I) (f := Obj.mapFields (·.setIfInBounds 0 Value.none))).extBut) (remF_sub U) (remF_ne U)
  show wpAny _ _ (newExc (.type "StopIteration") [] >>= _) _ _ _
  refine wpAny_bind ?_
  simp only [newExc, newTuple]
  refine wpAny_bind (wpAny_newObj_type ?_ (by size_fits))
  refine wpAny_bind (m := firstArgMember _ _) (wpAny_of_eq (a := Value.none) (by first | rfl | (simp only [firstArgMember]; rfl)) ?_)
  rw [own_stop]
  refine wpAny_newObj_type ?_ (by size_fits)
  simp only [raiseNew]
  refine wpAny_bind (wpAny_handled ?_)
  rw [show A.in1.in1.handled = none from hh]
  refine wpAny_bind (wpAny_pure (wpAny_throw ?_))
  refine h _ _ _ F' N' ⟨fun b o hb => Heap.get?_push_of_some _ (Heap.get?_push_of_some _ hb), Heap.get?_none_of_le (by simp), _, _, Heap.get?_push_size _ rfl, rfl, by rw [Array.append_empty]⟩
end
end
section
variable {w : World} {mean : ExcName → Option Value} {mg mb : Str → Option Value} {dp un : Nat} {gd : Option (List Code)} {cn : Str} {cs : Scope} {L a : Addr} {ccd : Value} {cl : List (Str × Addr)} {outer : List Env}
   {A₀ : Around} {base h₀ : Heap} {m : Str → Option Value} {s : Shared} {Q E : Value → Shared → Prop}
open G0 G3 G8 G10 G43
theorem ba63 : ∀ c : Fin 64, Builtin.bitAnd ((c.val : Nat) : Int) 63 = ((c.val : Nat) : Int) := by decide +kernel
theorem ba64 : ∀ c : Fin 64, Builtin.bitAnd ((c.val : Nat) : Int) 64 = 0 := by decide +kernel
theorem bg63 : ∀ c : Fin 64, Builtin.bitAnd ((64 + c.val : Nat) : Int) 63 = ((c.val : Nat) : Int) := by decide +kernel
theorem bg64 : ∀ c : Fin 64, Builtin.bitAnd ((64 + c.val : Nat) : Int) 64 = 64 := by decide +kernel
theorem bor6 : ∀ a c : Fin 64, Builtin.bitOr (((a.val : Nat) : Int) * 2 ^ Int.toNat 6) ((c.val : Nat) : Int) = ((64 * a.val + c.val : Nat) : Int) := by decide +kernel
theorem oct_lo : ∀ c : Fin 64, (octL ((c.val : Nat) : Int)).map Int.toNat = [c.val] := by decide +kernel
theorem oct_hi : ∀ a c : Fin 64, a.val ≠ 0 → (octL ((64 * a.val + c.val : Nat) : Int)).map Int.toNat = [64 + a.val, c.val] := by decide +kernel
theorem oct_cases {n : Int} (h0 : 0 ≤ n) (h1 : n < 4096) : (∃ c : Fin 64, n = ((c.val : Nat) : Int)) ∨ ∃ a c : Fin 64, a.val ≠ 0 ∧ n = ((64 * a.val + c.val : Nat) : Int) := by
  obtain ⟨k, rfl⟩ := Int.eq_ofNat_of_zero_le h0
  have h1 : k < 4096 := Int.ofNat_lt.mp h1
  rcases Nat.lt_or_ge k 64 with h | h
  · exact .inl ⟨⟨k, h⟩, rfl⟩
  · refine .inr ⟨⟨k / 64, Nat.div_lt_of_lt_mul h1⟩, ⟨k % 64, Nat.mod_lt _ (by decide)⟩, Nat.ne_of_gt (Nat.div_pos h (by decide)), ?_⟩
    rw [Nat.div_add_mod]
theorem varint_c {I : Addr} {io : Obj} {n : Int} {rest : List Nat} {news : List (Addr × Obj)} {r : List (Addr × Obj)} (B : Below A₀ base outer h₀) (F : Fr h₀ L s.heap m) (X : (K w.params).In h₀) (N : News h₀ L s.heap news)
   (T : Top topProg LL mean mg mb h₀) (hk : cs.kind = .function) (hdp : dp + 20 < recursionLimit) (hu : un + 160 < cLine)
   (R : RemF I io news r) (hi : BiLeft io ((octL n).map Int.toNat ++ rest)) (h0 : 0 ≤ n) (h1 : n < 4096)
   (hret : ∀ io' t h' tk', BiLeft io' rest → Fr h₀ L h' m → News h₀ L h' ((I, io') :: r) → Q (.int n t) { s with heap := h', toks := tk' }) :
   wpAny (model PP w) (ktrTop dp un gd cn cs L a ccd cl outer) (call (.ref 200) [.ref I]) Q E s := by
  rcases cs with ⟨ck, cnames, cgen, cco, cmore⟩
  cases hk
  (try (refine letA (dp := dp) (un := un) rfl rfl ?_; intro A1 dA1 uA1))
  have hne := remF_ne R
  have N2 : News h₀ L s.heap ((I, io) :: r) := fun p hp => by
    rcases List.mem_cons.mp hp with h | hp
    · rw [h]; exact N _ (remF_mem R)
    · exact N _ (remF_sub R p hp)
  clear N R
  rcases oct_cases h0 h1 with ⟨c, rfl⟩ | ⟨a9, c, ha, rfl⟩ <;> clear h0 h1
  · rw [oct_lo] at hi
    have f63 := ba63 c
    have f64 := ba64 c
    k_steps
    refine Hold.out (while_in (while_turn ?_))
    open Gaug in
    k_steps
    · exact absurd f64 (by assumption)
    · rw [f63]
      exact hret _ _ _ _ (by assumption) (by k_asm) (by k_extra "mine news")
  · skip
    rw [oct_hi _ _ ha] at hi
    have g63 := bg63 a9
    have g64 := bg64 a9
    have f63 := ba63 c
    have f64 := ba64 c
    k_steps
    refine Hold.out (while_in (while_turn ?_))
    k_steps
    rotate_left
    · rename Builtin.bitAnd _ 64 = 0 => h8; rw [g64] at h8; exact absurd h8 (by decide)
    show WhileAt _ _ _ _ _ _ _ _ _
    refine while_turn ?_
    open Gaug in
    k_steps
    · exact absurd f64 (by assumption)
    · rw [g63, f63, bor6]
      exact hret _ _ _ _ (by assumption) (by k_asm) (by k_extra "mine news")
end
section
section
variable {w : World} {A : Around} {Q E : Value → Shared → Prop} {s : Shared} {h₀ : Heap} {L : Addr} {m : Str → Option Value} {news : List (Addr × Obj)}
theorem e_call {h : Heap} (X : (K w.params).In h) : Looks (model PP w) h (specialOf (.ref 190) (Str.ofString "__call__")) (some (.builtin "type.__call__")) := looks_specialIn X (by kernel_rfl)
theorem e_typ {h : Heap} (X : (K w.params).In h) : Looks (model PP w) h (isInstance (.ref 190) (.type "type")) true := looks_instIn X (by kernel_rfl)
theorem e_mro {h : Heap} (X : (K w.params).In h) : Looks (model PP w) h (mroOf (.ref 190)) [.ref 190, .ref 177, .type "tuple", .type "object"] := Looks.of_peek X (by kernel_rfl)
theorem e_made {h : Heap} (X : (K w.params).In h) : Looks (model PP w) h (Bind.madeBy (.ref 190)) none := Looks.of_peek X (by kernel_rfl)
theorem e_sub {h : Heap} (X : (K w.params).In h) : Looks (model PP w) h (isSubtype (.ref 190) (.ref 190)) true := Looks.of_peek X (by kernel_rfl)
theorem e_subT {h : Heap} (X : (K w.params).In h) : Looks (model PP w) h (isSubtype (.ref 190) (.type "tuple")) true := Looks.of_peek X (by kernel_rfl)
theorem e_init {h : Heap} (X : (K w.params).In h) : Looks (model PP w) h (typeLookup (.ref 190) (Str.ofString "__init__")) (some (.builtin "object.__init__")) := looks_findIn X (by kernel_rfl)
theorem e_isT {h : Heap} (X : (K w.params).In h) : Looks (model PP w) h (isType (.ref 190)) true := Looks.of_peek X (by kernel_rfl)
theorem e_here {h : Heap} (X : (K w.params).In h) : Looks (model PP w) h (Bind.madeHere "tuple.__new__" (.ref 190)) () := Looks.of_peek X (by kernel_rfl)
theorem e_reads (P : Params) : readsIn (K P) 190 (.type "type") = true := by kernel_rfl
theorem e_new (P : Params) : findCls (K P) (.ref 190) (.type "type") (Str.ofString "__new__") = some (.get (.builtin "staticmethod.__get__") (.ref 178) .none (.ref 190)) := by kernel_rfl
theorem e_sm (P : Params) : ∃ r, recIn (K P) 178 "staticmethod" = some (.ref 118 :: r) := by
  have h : (recIn (K P) 178 "staticmethod").bind List.head? = some (.ref 118) := by kernel_rfl
  cases e : recIn (K P) 178 "staticmethod" with
  | none => rw [e] at h; cases h
  | some l =>
    rw [e] at h
    cases l with
    | nil => cases h
    | cons a r =>
      have h2 : some a = some (Value.ref 118) := h
      cases h2
      exact ⟨r, rfl⟩
theorem oi_args5 (a b c d e f : Value) : argsOk "object.__init__" ⟨[a, b, c, d, e, f], []⟩ := by unfold argsOk; kernel_rfl
/-- what a call of the named tuple's class asks of its __new__ -/
noncomputable def NewBack (P : Params) (R : Result → Shared → Prop) : Result → Shared → Prop := fun r s' => match r with
  | .ok (.ret v) => ∃ x o, v = .ref x ∧ s'.heap.get? x = some o ∧ o.cls = .ref 190 ∧ (K P).In s'.heap ∧ R (.ok (.ret (.ref x))) s'
  | .ok _ => False
  | .error e => R (.error e) s'
theorem ent_make {R : Result → Shared → Prop} {a b c d e : Value} (X : (K w.params).In s.heap)
    (h : ∀ tk, codeAny (model PP w) (A.under (.builtin "type.__call__" ⟨[.ref 190, a, b, c, d, e], []⟩)) (.call (.ref 118) ⟨[.ref 190, a, b, c, d, e], []⟩) (NewBack w.params R) { s with toks := tk }) :
    codeAny (model PP w) A (.call (.ref 190) ⟨[a, b, c, d, e], []⟩) R s := by
  obtain ⟨hp, g, dr, t, os⟩ := s
  dsimp only at X h
  have hC : hp.get? 190 = some _ := X 190 _ rfl
  have call := e_call X
  have typ := e_typ X
  have mro := e_mro X
  have made := e_made X
  refine codeAny_of_tree ?_
  show wpAny _ _ (callAny (.ref 190) _) _ _ _
  refine nd_load hC ?_
  show wpAny _ _ (callAny.viaDunder (.ref 190) _) _ _ _
  unfold callAny.viaDunder
  refine wpAny_bind (call.at ?_)
  dsimp only
  rw [tc_bind]
  refine wpAny_bind (wpAny_pure (wpAny_bind (wpAny_pure ?_)))
  refine wpAny_pure (a := Fin.again (.call (.builtin "type.__call__") ⟨.ref 190 :: [a, b, c, d, e], []⟩)) (And.intro rfl ?_)
  refine codeAny_call_builtin_at (Code.quiet_builtin _ (by decide +kernel)) entry_typeCall (check_slot tc_kind tc_split typ (tc_args _ _ _) ?_)
  unfold Builtin.«type.__call__»
  dsimp only
  rw [if_neg (show ¬ ((Value.ref 190 == Value.type "type") = true) from Bool.false_ne_true)]
  refine wpAny_bind (mro.at ?_)
  rw [if_neg (show ¬ (List.isEmpty [Value.ref 190, .ref 177, .type "tuple", .type "object"] = true) from Bool.false_ne_true)]
  refine wpAny_bind (made.at ?_)
  dsimp only
  refine wpAny_bind (cls_bind X (e_reads _) (e_new _) ?_)
  obtain ⟨r, hr⟩ := e_sm w.params
  refine wpAny_call (sm_get X hr ?_)
  refine handed_on (by rfl) ?_
  refine wpAny_bind (wpAny_holding (wpAny_call (codeAny_mono (h _) fun r s' z => ?_)))
  rcases r with er | (v | _ | _ | _) <;> first | exact z | exact z.elim | skip
  obtain ⟨x, o, rfl, ho, hoc, X', hR⟩ := z
  obtain ⟨oc, od, odt, osl⟩ := o
  cases hoc
  have t1 : Looks (model PP w) s'.heap (typeOf (.ref x)) (.ref 190) := (Looks.ld ho).andThen .now
  have t2 : Looks (model PP w) s'.heap (isInstance (.ref x) (.type "object")) true := t1.andThen (Looks.of_peek X' (by kernel_rfl))
  refine wpAny_bind ((t1.andThen (e_sub X') : Looks (model PP w) s'.heap (isInstance (.ref x) (.ref 190)) true).here ?_)
  rw [if_neg (by decide)]
  refine wpAny_bind (wpAny_holding ?_)
  unfold callSpecial? specialOf
  refine wpAny_bind (wpAny_bind (t1.here ((e_init X').here ?_)))
  dsimp only
  rw [oi_bind]
  refine wpAny_holding (wpAny_bind (wpAny_pure ?_))
  refine wpAny_bind (wpAny_call ?_)
  refine codeAny_call_builtin oi_plain entry_oi (@check_slot (model PP w) _ _ _ "object.__init__" "object" "__init__" (.ref x) [a, b, c, d, e] [] _ oi_kind oi_split t2 (oi_args5 (.ref x) a b c d e) ?_)
  unfold Builtin.«object.__init__»
  dsimp only
  refine wpAny_bind (t1.here (wpAny_bind ((e_init X').here (wpAny_bind ((e_made X').here ?_)))))
  rw [if_neg (show ¬ ((some (Value.builtin "object.__init__") != some (Value.builtin "object.__init__")) = true) by decide)]
  rw [if_neg (by decide)]
  refine wpAny_pure (wpAny_pure ?_)
  dsimp only
  rw [if_neg (by decide)]
  exact wpAny_pure hR
end
end
section
section
variable {w : World} {A : Around} {Q E : Value → Shared → Prop} {s : Shared} {h₀ : Heap} {L : Addr} {m : Str → Option Value} {news : List (Addr × Obj)}
noncomputable abbrev entO (dx : Addr) (vs : List Value) : Obj := { cls := .ref 190, dict := some dx, data := .seq vs.toArray 0 }
theorem tn_entry : entryFor table "tuple.__new__" = some Builtin.«tuple.__new__» := by first | exact entryFor_of_fast (by kernel_rfl) | exact entryFor_of_tree (by kernel_rfl)
theorem tn_check {h : Heap} {t : Addr} (X : (K w.params).In h) : Looks (model PP w) h (checkBuiltinCall "tuple.__new__" ⟨[.ref 190, .ref t], []⟩) () := Looks.of_peek X (by kernel_rfl)
theorem tn_plain : plainId "tuple.__new__" = true := by decide +kernel
theorem e_del {h : Heap} (X : (K w.params).In h) : Looks (model PP w) h (classHasDel 190) false := Looks.of_peek X (by kernel_rfl)
theorem ent_new {t : Addr} {vs : List Value} (F : Fr h₀ L s.heap m) (N : News h₀ L s.heap news) (X₀ : (K w.params).In h₀) (ht : (t, tupO vs) ∈ news) (hz : vs.length ≤ 100)
    (h : ∀ x dx h', Fr h₀ L h' m → News h₀ L h' ((x, entO dx vs) :: (dx, dictOf [] 0) :: news) → (∀ p ∈ news, p.1 < dx) → dx < x → Q (.ref x) { s with heap := h' }) :
    wpAny (model PP w) A (call (.builtin "tuple.__new__") [.ref 190, .ref t]) Q E s := by
  have X : (K w.params).In s.heap := X₀.keeps F.keep
  refine wpAny_call ?_
  refine codeAny_call_builtin tn_plain tn_entry ((tn_check X).here ?_)
  unfold Builtin.«tuple.__new__»
  dsimp only
  refine wpAny_bind ((e_isT X).here ?_)
  rw [if_neg (by decide)]
  refine wpAny_bind ((e_subT X).here ?_)
  rw [if_neg (by decide)]
  refine wpAny_bind ((e_here X).here ?_)
  refine wpAny_bind ((e_init X).here ?_)
  rw [if_pos (by decide)]
  refine wpAny_bind (wpAny_of_eq (a := ()) (by first | rfl | kernel_rfl!) ?_)
  refine wpAny_bind (wpAny_of_eq (a := ()) (by first | rfl | kernel_rfl!) ?_)
  rw [if_neg (show ¬ ((Value.ref 190 == Value.type "tuple") = true) from Bool.false_ne_true)]
  refine wpAny_bind (wpAny_collect_seq t (.inr rfl) (N _ ht).1 rfl rfl (fun h' hk => ?_) (by rw [List.size_toArray, sizeLine_eq]; k_extra "om"))
  refine wpAny_bind (wpAny_pure (wpAny_bind (wpAny_alloc ?_)))
  have F1 := F.keeps hk
  have N1 : News h₀ L h' news := fun p hp => ⟨hk _ _ (N p hp).1, (N p hp).2⟩
  have X1 : (K w.params).In h' := X.keeps hk
  have F2 : Fr h₀ L (h'.push { cls := .type "dict", data := .dict #[] }) m := F1.push _
  have N2 : News h₀ L (h'.push { cls := .type "dict", data := .dict #[] }) ((h'.objs.size, dictOf [] 0) :: news) := News.push F1 N1 _ rfl
  have X2 : (K w.params).In (h'.push { cls := .type "dict", data := .dict #[] }) := X1.keeps fun b o e => Heap.get?_push_of_some _ e
  have F3 := F2.push (entO h'.objs.size vs)
  have N3 := News.push F2 N2 (entO h'.objs.size vs) rfl
  have X3 : (K w.params).In ((h'.push { cls := .type "dict", data := .dict #[] }).push (entO h'.objs.size vs)) := X2.keeps fun b o e => Heap.get?_push_of_some _ e
  have e9 : vs.toArray.toList.toArray = vs.toArray := by simp
  rw [e9]
  unfold newObj
  dsimp only
  rw [if_neg (show ¬ (vs.toArray.size > sizeLine) by rw [List.size_toArray, sizeLine_eq]; k_extra "om")]
  unfold newObjAsIs
  refine wpAny_bind (wpAny_bind (wpAny_alloc ?_))
  dsimp only
  refine wpAny_bind ((e_del X3).here ?_)
  rw [if_neg Bool.false_ne_true]
  exact wpAny_pure (wpAny_pure (h _ _ _ F3 N3 (fun p hp => Heap.lt_size (N1 p hp).1) (by show @LT.lt Nat _ _ _; rw [Heap.size_push]; exact Nat.lt_succ_self _)))
theorem under_call {dp un : Nat} {gd : Option (List Code)} {cn : Str} {cs : Scope} {L a : Addr} {ccd : Value} {cl : List (Str × Addr)} {outer : List Env} {v : List Value} :
    (ktrTop dp un gd cn cs L a ccd cl outer).under (.builtin "type.__call__" ⟨.ref 190 :: v, []⟩) = ktrTop (dp + 1) (un + 1) gd cn cs L a ccd cl outer := by
  cases gd <;> rfl
end
end
section
variable {w : World} {mean : ExcName → Option Value} {mg mb : Str → Option Value} {dp un : Nat} {gd : Option (List Code)} {cn : Str} {cs : Scope} {L a : Addr} {ccd : Value} {cl : List (Str × Addr)} {outer : List Env}
   {A₀ : Around} {base h₀ : Heap} {m : Str → Option Value} {s : Shared} {Q E : Value → Shared → Prop}
open G0 G3 G8 G10
theorem meta_tup : typeOf (.type "tuple") = pure (.type "type") := by kernel_rfl
theorem find_new (P : Params) : findCls (K P) (.type "tuple") (.type "type") (Str.ofString "__new__") = some (.val (.builtin "tuple.__new__")) := by kernel_rfl
open G44
theorem newE_c {a1 a2 a3 a4 : Int} {k1 k2 k3 k4 : Tok} {b5 : Bool} {news : List (Addr × Obj)} (B : Below A₀ base outer h₀) (F : Fr h₀ L s.heap m) (X : (K w.params).In h₀) (N : News h₀ L s.heap news)
   (T : Top topProg LL mean mg mb h₀) (hk : cs.kind = .function) (hdp : dp + 20 < recursionLimit) (hu : un + 160 < cLine)
   (hret : ∀ (x dx : Nat) h' tk', Fr h₀ L h' m → News h₀ L h' ((x, entO dx [.int a1 k1, .int a2 k2, .int a3 k3, .int a4 k4, .bool b5]) :: news) → (∀ p ∈ news, p.1 < x) → Q (.ref x) { s with heap := h', toks := tk' }) :
   codeAny (model PP w) (ktrTop dp un gd cn cs L a ccd cl outer) (.call (.ref 118) ⟨[.ref 190, .int a1 k1, .int a2 k2, .int a3 k3, .int a4 k4, .bool b5], []⟩) (Ret Q E) s := by
  k_dflt cell_enter
  k_steps
  k_extra "mine held"
  k_dflt refine' ent_new ?F ?N ?X ?t ?z ?_
  case F => k_asm
  case N => k_asm
  case X => k_asm
  case t => k_mem
  case z => exact Nat.le_of_ble_eq_true rfl
  intro x9 d9 h9 F9 N9 l9 l8
  k_steps
  show Q _ _
  exact hret _ _ _ _ (by k_asm) (by k_extra "mine news") (fun p hp => Nat.lt_trans (l9 p (.tail _ hp)) l8)
theorem ent_c {a1 a2 a3 a4 : Int} {k1 k2 k3 k4 : Tok} {b5 : Bool} {news : List (Addr × Obj)} (B : Below A₀ base outer h₀) (F : Fr h₀ L s.heap m) (X : (K w.params).In h₀) (N : News h₀ L s.heap news)
   (T : Top topProg LL mean mg mb h₀) (hk : cs.kind = .function) (hdp : dp + 30 < recursionLimit) (hu : un + 200 < cLine)
   (hret : ∀ (x dx : Nat) h' tk', Fr h₀ L h' m → News h₀ L h' ((x, entO dx [.int a1 k1, .int a2 k2, .int a3 k3, .int a4 k4, .bool b5]) :: news) → (∀ p ∈ news, p.1 < x) → Q (.ref x) { s with heap := h', toks := tk' }) :
   wpAny (model PP w) (ktrTop dp un gd cn cs L a ccd cl outer) (call (.ref 190) [.int a1 k1, .int a2 k2, .int a3 k3, .int a4 k4, .bool b5]) Q E s := by
  refine wpAny_call (ent_make (X.keeps F.keep) fun tk => ?_)
  rw [under_call]
  refine codeAny_mono (newE_c (Q := fun v s' => ∃ x o, v = .ref x ∧ s'.heap.get? x = some o ∧ o.cls = .ref 190 ∧ (K w.params).In s'.heap ∧ Q (.ref x) s') (E := E) B F X N T hk (by k_extra "om") (by k_extra "om") fun x dx h' tk' F' N' l1 => ?_) fun r s' z => ?_
  · exact ⟨x, _, rfl, (N' _ (.head _)).1, rfl, X.keeps F'.keep, hret x dx h' tk' F' N' l1⟩
  · rcases r with er | (v | _ | _ | _) <;> first | exact z | exact z.elim
end
section
variable {w : World} {mean : ExcName → Option Value} {mg mb : Str → Option Value} {dp un : Nat} {gd : Option (List Code)} {cn : Str} {cs : Scope} {L a : Addr} {ccd : Value} {cl : List (Str × Addr)} {outer : List Env}
   {A₀ : Around} {base h₀ : Heap} {m : Str → Option Value} {s : Shared} {Q E : Value → Shared → Prop}
open G0 G3 G8 G10 G17
theorem si_notTuple : isSubtype (.type ((Manifest.find? "StopIteration").elim "type" fun x => x.metatype)) (.type "tuple") = pure false := by
  rw [show ((Manifest.find? "StopIteration").elim "type" fun x => x.metatype) = "type" from by kernel_rfl, isSubtype_type]; kernel_rfl
theorem si_isExc : isSubtype (.type "StopIteration") (.type "BaseException") = pure true := by rw [isSubtype_type]; kernel_rfl
open G9 G18
/-- a row of the table: begin, size, goal, depth and mark -/
noncomputable abbrev Row := Int × Int × Int × Int
noncomputable def allB : List Row → List Nat
  | [] => []
  | r :: rs => (octL r.1).map Int.toNat ++ ((octL r.2.1).map Int.toNat ++ ((octL r.2.2.1).map Int.toNat ++ ((octL r.2.2.2).map Int.toNat ++ allB rs)))
noncomputable abbrev entOf (r : Row) : Int × Int × Int × Int × Bool := (r.1 * 2, r.1 * 2 + r.2.1 * 2, r.2.2.1 * 2, r.2.2.2.fdiv (2 ^ Int.toNat 1), Builtin.bitAnd r.2.2.2 1 != 0)
/-- the entries by their figures -/
inductive EntsAt (es : List (Addr × Obj)) : List Value → List (Int × Int × Int × Int × Bool) → Prop
  | nil : EntsAt es [] []
  | cons {x dx : Addr} {a b c d : Int} {e : Bool} {k1 k2 k3 k4 : Tok} {vs : List Value} {l : List (Int × Int × Int × Int × Bool)} (h : (x, entO dx [.int a k1, .int b k2, .int c k3, .int d k4, .bool e]) ∈ es) (r : EntsAt es vs l) : EntsAt es (.ref x :: vs) ((a, b, c, d, e) :: l)
theorem EntsAt.mono {es es' : List (Addr × Obj)} {vs : List Value} {l : List (Int × Int × Int × Int × Bool)} (h : EntsAt es vs l) (s : ∀ p ∈ es, p ∈ es') : EntsAt es' vs l := by
  induction h with
  | nil => exact .nil
  | cons hm _ ih => exact .cons (s _ hm) ih
theorem EntsAt.append {es : List (Addr × Obj)} {vs ws : List Value} {l k : List (Int × Int × Int × Int × Bool)} (h : EntsAt es vs l) (g : EntsAt es ws k) : EntsAt es (vs ++ ws) (l ++ k) := by
  induction h with
  | nil => exact g
  | cons hm _ ih => exact .cons hm ih
structure PS where
  (left done : List Row) (io : Obj) (vs : List Value) (n : Nat) (es : List (Addr × Obj))
theorem rot3 {a b c : Addr × Obj} {es : List (Addr × Obj)} : ∀ p ∈ (a :: b :: c :: es : List (Addr × Obj)), p ∈ (c :: a :: b :: es : List (Addr × Obj)) := fun p hp => by
  simp only [List.mem_cons] at hp ⊢
  rcases hp with h | h | h | h <;> simp [h]
theorem swap2 {h₀ h : Heap} {L : Addr} {p q : Addr × Obj} {r : List (Addr × Obj)} (N : News h₀ L h (p :: q :: r)) : News h₀ L h (q :: p :: r) := fun x hx => by
  apply N
  simp only [List.mem_cons] at hx ⊢
  rcases hx with h | h | h <;> simp [h]
noncomputable abbrev RowOk (r : Row) : Prop := (0 ≤ r.1 ∧ r.1 < 4096) ∧ (0 ≤ r.2.1 ∧ r.2.1 < 4096) ∧ (0 ≤ r.2.2.1 ∧ r.2.2.1 < 4096) ∧ (0 ≤ r.2.2.2 ∧ r.2.2.2 < 4096)
theorem ptab_c {x d : Addr} {b : Array UInt8} {t t0 t1 t2 t3 t4 t5 tw : Tok} {pb : Addr} {rows : List Row} {news : List (Addr × Obj)} (B : Below A₀ base outer h₀) (F : Fr h₀ L s.heap m) (X : (K w.params).In h₀) (N : News h₀ L s.heap news)
   (T : Top topProg LL mean mg mb h₀) (hk : cs.kind = .function) (hdp : dp + 60 < recursionLimit) (hu : un + 480 < cLine)
   (hx : (x, instObj 245 d) ∈ news) (hd : (d, dictOf [{ hash := PyData.keyHash w.params (Str.ofString "lineno"), key := .str (Str.ofString "lineno") t0, val := .int 1 t5 }, { hash := PyData.keyHash w.params (Str.ofString "instream"), key := .str (Str.ofString "instream") t1, val := .none }, { hash := PyData.keyHash w.params (Str.ofString "whitespace"), key := .str (Str.ofString "whitespace") t2, val := .str (Str.ofString "\n\t\r ") tw }, { hash := PyData.keyHash w.params (Str.ofString "pushback"), key := .str (Str.ofString "pushback") t3, val := .ref pb }, { hash := PyData.keyHash w.params (Str.ofString "co_exceptiontable"), key := .str (Str.ofString "co_exceptiontable") t4, val := .bytes b t }] 5) ∈ news) (hb : b.toList.map (·.toNat) = allB rows) (hr : ∀ r ∈ rows, RowOk r) (hz : rows.length ≤ 100)
   (XB : (K w.params).In base) (TB : Top topProg LL mean mg mb base) (D : KtsDicts (outer.filterMap (·.frame)) h₀)
   (hret : ∀ D vs n es h₁ h' tk', EntsAt es vs (rows.map entOf) → (∀ p ∈ news, p ∈ es) → (∀ p ∈ news, p.1 < D) → KtsTurn (outer.filterMap (·.frame)) h₀ h₁ → Fr h₁ L h' m → News h₁ L h' ((D, listO vs n) :: es) → Below A₀ base outer h₁ → (K w.params).In h₁ → Top topProg LL mean mg mb h₁ → KtsDicts (outer.filterMap (·.frame)) h₁ → Q (.ref D) { s with heap := h', toks := tk' }) :
   wpAny (model PP w) (ktrTop dp un gd cn cs L a ccd [] outer) (call (.ref 207) [.ref x]) Q E s := by
  rcases cs with ⟨ck, cnames, cgen, cco, cmore⟩
  cases hk
  (try (refine letA (dp := dp) (un := un) rfl rfl ?_; intro A1 dA1 uA1))
  have N2 : News h₀ L s.heap ((x, instObj 245 d) :: (d, dictOf [{ hash := PyData.keyHash w.params (Str.ofString "lineno"), key := .str (Str.ofString "lineno") t0, val := .int 1 t5 }, { hash := PyData.keyHash w.params (Str.ofString "instream"), key := .str (Str.ofString "instream") t1, val := .none }, { hash := PyData.keyHash w.params (Str.ofString "whitespace"), key := .str (Str.ofString "whitespace") t2, val := .str (Str.ofString "\n\t\r ") tw }, { hash := PyData.keyHash w.params (Str.ofString "pushback"), key := .str (Str.ofString "pushback") t3, val := .ref pb }, { hash := PyData.keyHash w.params (Str.ofString "co_exceptiontable"), key := .str (Str.ofString "co_exceptiontable") t4, val := .bytes b t }] 5) :: news) := fun p hp => by
    rcases List.mem_cons.mp hp with h | hp
    · rw [h]; exact N _ hx
    · rcases List.mem_cons.mp hp with h | hp
      · rw [h]; exact N _ hd
      · exact N _ hp
  clear N
  refine wpAny_call ?_
  k_dflt kts_go
  k_steps
  rename BiLeft _ _ => hB
  rw [hb] at hB
  rename News _ _ _ _ => N3
  have N3 := swap2 N3
  k_extra "mine held"
  k_dflt (refine while_rp (σ := PS) _ _ (fun c a b => (a, c.io) :: (b, listO c.vs c.n) :: c.es) (fun _ => []) [Str.ofString "start", Str.ofString "length", Str.ofString "end", Str.ofString "target", Str.ofString "dl", Str.ofString "depth", Str.ofString "lasti"] (fun c a b => BiLeft c.io (allB c.left) ∧ c.done ++ c.left = rows ∧ EntsAt c.es c.vs (c.done.map entOf) ∧ c.vs.length = c.done.length ∧ (∀ p ∈ c.es, p.1 ≠ a) ∧ (∀ p ∈ c.es, p.1 ≠ b) ∧ (∀ p ∈ news, p ∈ c.es) ∧ @Ne Nat a b ∧ (∀ p ∈ news, p.1 < b)) (fun c => c.left.length) ⟨rows, [], _, [], 0, _⟩ (by k_asm) N3 (fun p h => h) (by k_extra "mine has") ⟨hB, rfl, .nil, rfl, by k_all, by k_all, fun p h => .tail _ (.tail _ h), by refine neN ?_; k_extra "om", fun p h => ?hlt⟩ ?turn)
  case hlt => exact allLt_lt (by k_extra "mine lt24") p h
  rintro ⟨left, done, io, vs, n, es⟩ u h tk ⟨hB, hrows, hE, hlen, hea, heb, hsub, hab, hnb⟩ Fc Nc
  dsimp only at hB hrows hE hlen hea heb hsub hab hnb Fc Nc ⊢
  have hl1 : done.length + left.length = rows.length := by rw [← hrows, List.length_append]
  cases left with
  | nil =>
    have hB0 : BiLeft io [] := hB
    clear hB
    k_steps
    rw [List.append_nil] at hrows
    subst hrows
    refine hret _ _ _ _ _ _ _ hE hsub hnb (by assumption) (by k_asm) (by k_asm) (by k_asm) (by k_asm) (by k_asm) (by assumption)
  | cons r left =>
    obtain ⟨⟨q0, p0⟩, ⟨q1, p1⟩, ⟨q2, p2⟩, ⟨q3, p3⟩⟩ := hr r (by rw [← hrows]; exact List.mem_append_right _ (.head _))
    rw [List.length_cons] at hl1
    have hB1 : BiLeft io ((octL r.1).map Int.toNat ++ ((octL r.2.1).map Int.toNat ++ ((octL r.2.2.1).map Int.toNat ++ ((octL r.2.2.2).map Int.toNat ++ allB left)))) := hB
    clear hB
    k_steps
    refine WEnd.intro ⟨left, done ++ [r], _, _, _, _⟩ (by k_asm) (by k_asm) rot3 (by k_extra "mine has") (by k_extra "mine off") ⟨⟨by assumption, ?_, ?_, ?_, ?_, ?_, ?_, hab, hnb⟩, Nat.lt_succ_self _⟩
    · rw [List.append_assoc]; exact hrows
    · rw [List.map_append]
      exact (hE.mono fun p hp => .tail _ hp).append (.cons (.head _) .nil)
    · simp [hlen]
    · exact List.forall_mem_cons.mpr ⟨by k_ne, hea⟩
    · exact List.forall_mem_cons.mpr ⟨by k_ne, heb⟩
    · exact fun p hp => .tail _ (hsub p hp)
end
section
section
variable {prog : Program} {w : World} {A₀ A : Around} {s : Shared} {base h₀ : Heap} {L a : Addr} {m : Str → Option Value} {cn : Str} {cs : Scope} {ccd : Value} {cl : List (Str × Addr)} {news : List (Addr × Obj)} {Kf : Frag} {p : Program} {loose : List Str} {mean : ExcName → Option Value} {mg mb : Str → Option Value}
  {R : Result → Shared → Prop} {name qual : Str} {params : Arguments} {body : List Stmt} {scope : Scope} {dV kV doc pm cdv ct oc : Value} {an od : Option Addr} {osl : Array (Option Value)} {f : Addr} {args : Args} {binds : List (Str × Value)}
/-- into a def without cells, from a bottom frame that has cells, where the def may note a frame of a raise: what it leaves may have turned the bottom frame's slots -/
theorem enter_turn (B : Below A₀ base [] h₀) (F : Fr h₀ L s.heap m) (X₀ : Kf.In h₀) (N : News h₀ L s.heap news) (T : Top p loose mean mg mb h₀) (hA : A.frames = some [envX cn cs L a ccd cl])
    (ho : Kf.lookup f = some ⟨oc, od, .func (fnOf name qual params body scope dV kV doc pm an cdv ct), osl⟩) (hcd : codeIn Kf cdv qual = true) (hroom : A.depth < recursionLimit)
    (hbind : BindsTo s (fnOf name qual params body scope dV kV doc pm an cdv ct) args binds) (hloc : ∀ y ∈ binds, scope.names.lookup y.1 = some .local)
    (h : ∀ g L' h₁, Fr h₀ L g m → Fr g L' h₁ (fun y => binds.reverse.lookup y) → News g L' h₁ news → Below A base [envX cn cs L a ccd cl] g → Kf.In g → Top p loose mean mg mb g → KtsDicts ([envX cn cs L a ccd cl].filterMap (·.frame)) g →
      wpAny (model prog w) (A.deeper (envOf qual scope L' f cdv)) (execs body (envOf qual scope L' f cdv))
        (fun fl s' => LeaveS0 ([envX cn cs L a ccd cl].filterMap (·.frame)) h₀ L m g R (match fl with | .ret v => v | _ => .none) s')
        (fun e s' => wpAny (model prog w) (A.deeper (envOf qual scope L' f cdv)) (leaving (envOf qual scope L' f cdv) e) (fun _ s'' => R (.error e) s'') (fun e' s'' => R (.error e') s'') s')
        { s with heap := h₁, toks := s.toks + binds.length })
    (hck : cs.kind = .function) (hco : scope.isCoroutine = false) (hgen : scope.isGenerator = false) (hk : scope.kind = .function)
    (hcell : ∀ x ∈ scope.names, x.2 ≠ .cell) : codeAny (model prog w) A (.call (.ref f) args) R s := by
  have X := X₀.keeps F.keep
  obtain ⟨FG, BG, st, _⟩ := groundX (R := R) B F N hA rfl hck
  have old : h₀.get? L = none := kts_self F
  obtain ⟨oL, es, ep, gL, dL, kL, fL⟩ := FG.ns
  refine codeAny_call_def (fd := fnOf name qual params body scope dV kV doc pm an cdv ct) (body := body) (binds := binds) hroom (X _ _ ho) rfl (T.nolimit.keeps F.keep) (codeRec_of X hcd) rfl hbind hcell hloc (fun h₁ hns hk₁ => ?_) hco hgen hk
  have F₁ : Fr (hideAll s.heap (news.map (·.1))) s.heap.objs.size h₁ (fun y => binds.reverse.lookup y) := ⟨hns, fun b o e => hk₁ b o (of_hideAll _ e), Nat.le_of_eq (hideAll_size _ _)⟩
  have N₁ : News (hideAll s.heap (news.map (·.1))) s.heap.objs.size h₁ news := fun q hq =>
    ⟨hk₁ _ _ (N q hq).1, Nat.ne_of_lt (Heap.lt_size (N q hq).1), hideAll_none _ (List.mem_map_of_mem hq)⟩
  have D₁ : KtsDicts ([envX cn cs L a ccd cl].filterMap (·.frame)) (hideAll s.heap (news.map (·.1))) := fun b hb => by
    have hb' : b ∈ [L] := hb
    rw [List.mem_singleton.mp hb']
    exact ⟨oL, es, ep, gL, dL⟩
  refine wpAny_mono (h _ _ h₁ FG F₁ N₁ BG (X₀.keeps st) (T.keeps st) D₁) (fun fl s' hl => ?_) fun _ _ y => y
  obtain ⟨g', L', m', nx, T', F', N', k⟩ := hl
  obtain ⟨sl, hs⟩ := T'.up gL
  have away : ∀ b o, h₀.get? b = some o → b ∉ ([envX cn cs L a ccd cl].filterMap (·.frame)) := fun b o e q => by
    have q' : b ∈ [L] := q
    rw [List.mem_singleton.mp q', old] at e
    cases e
  have keep' : ∀ b o, h₀.get? b = some o → s'.heap.get? b = some o := fun b o e => F'.keep b o (T'.other b o (st b o e) (away b o e))
  have ns' : Heap.Ns s'.heap L m := ⟨_, es, ep, F'.keep _ _ hs, dL, kL, fL⟩
  refine k ⟨ns', keep', F.above⟩ fun q hq => ⟨(N' q hq).1, fun e => ?_, ?_⟩
  · have h9 := (N' q hq).2.2
    rw [e, hs] at h9
    cases h9
  · cases e : h₀.get? q.1 with
    | none => rfl
    | some o =>
      have h9 := (N' q hq).2.2
      rw [T'.other _ _ (st _ _ e) (away _ _ e)] at h9
      cases h9
end
end
section
variable {w : World} {mean : ExcName → Option Value} {mg mb : Str → Option Value} {dp un : Nat} {gd : Option (List Code)} {cn : Str} {cs : Scope} {L a : Addr} {ccd : Value} {cl : List (Str × Addr)} {outer : List Env}
   {A₀ : Around} {base h₀ : Heap} {m : Str → Option Value} {s : Shared} {Q E : Value → Shared → Prop}
open G0 G3 G8 G10 G11 G19 G32
theorem sign_cS {x : Tok → Value} : ∀ {l : List Nat}, x ∈ cS l → ∃ c, c ∈ l ∧ x = fun t => .str ⟨#[c]⟩ t
  | [], hx => nomatch hx
  | c :: r, hx => by
    rcases List.mem_cons.mp hx with rfl | hx
    · exact ⟨c, .head _, rfl⟩
    · obtain ⟨k, hk, e⟩ := sign_cS hx
      exact ⟨k, .tail _ hk, e⟩
theorem paired_ord : ∀ {l : List Nat} {ys : List Value}, Paired (fun x v => ∃ c t1, (∀ t, x t = Value.str ⟨#[c]⟩ t) ∧ v = .int ((c : Nat) : Int) t1) (cS l) ys → IntsAre ys (l.map fun c => ((c : Nat) : Int))
  | [], _, .nil => .nil
  | c :: r, _, .cons ⟨c', t1, e, e2⟩ p => by
    have := e 0
    cases this
    subst e2
    exact .cons _ _ (paired_ord p)
theorem entries_c {o : Addr} {l0 l1 l2 l3 : List Nat} {t0 t1 t2 t3 : Tok} {nw : Nat} {rows : List Row} {news : List (Addr × Obj)} (B : Below A₀ base [] h₀) (F : Fr h₀ L s.heap m) (X : (K w.params).In h₀) (N : News h₀ L s.heap news)
   (T : Top topProg LL mean mg mb h₀) (hk : cs.kind = .function) (hdp : dp + 100 < recursionLimit) (hu : un + 900 < cLine)
   (ho : (o, listO [.str ⟨l0.toArray⟩ t0, .str ⟨l1.toArray⟩ t1, .str ⟨l2.toArray⟩ t2, .str ⟨l3.toArray⟩ t3] nw) ∈ news) (hb : l0 ++ l1 ++ l2 ++ l3 = allB rows) (hlt : ∀ c ∈ allB rows, c < 128) (hr : ∀ r ∈ rows, RowOk r) (hz : rows.length ≤ 100) (hz2 : (allB rows).length ≤ 1000)
   (XB : (K w.params).In base) (TB : Top topProg LL mean mg mb base)
   (hret : ∀ D vs n es h' tk', EntsAt es vs (rows.map entOf) → (∀ p ∈ news, p ∈ es) → (∀ p ∈ news, p.1 < D) → Fr h₀ L h' m → News h₀ L h' ((D, listO vs n) :: es) → Q (.ref D) { s with heap := h', toks := tk' }) :
   wpAny (model PP w) (ktrTop dp un gd cn cs L a ccd cl []) (call (.ref 273) [.ref o]) Q E s := by
  rcases cs with ⟨ck, cnames, cgen, cco, cmore⟩
  cases hk
  (try (refine letA (dp := dp) (un := un) rfl rfl ?_; intro A1 dA1 uA1))
  have hlen : l0.length + l1.length + l2.length + l3.length ≤ 1000 := by rw [← hb] at hz2; simp only [List.length_append] at hz2; exact hz2
  have N2 : News h₀ L s.heap ((o, listO [.str ⟨l0.toArray⟩ t0, .str ⟨l1.toArray⟩ t1, .str ⟨l2.toArray⟩ t2, .str ⟨l3.toArray⟩ t3] nw) :: news) := fun p hp => by
    rcases List.mem_cons.mp hp with h | hp
    · rw [h]; exact N _ ho
    · exact N _ hp
  clear N
  refine wpAny_call ?_
  k_dflt (refine' enter_turn ?k1 ?k2 ?k3 ?k4 ?k5 ?kA ?k6 ?k7 ?k8 ?k9 ?kB ?_ ?cK ?c2 ?c3 ?c4 ?c5; (case kA => exact rfl); (case k2 => k_asm); (case k1 => k_asm); (case k3 => k_asm); (case k4 => k_asm); (case k5 => k_asm); (case k6 => k_is); (case k7 => k_is); (case k8 => k_room); (case k9 => first | exact binds_K (by k_in) rfl (by k_is) rfl rfl rfl | exact BindsTo.of_eq rfl); (case kB => exact locs rfl); (case cK => exact rfl); (case c2 => exact rfl); (case c3 => exact rfl); (case c4 => exact rfl); (case c5 => decide); k_whole; intro g' L' h' FG' F' N' B' X' T' D'; (try dsimp only); (try k_lift B'); (try k_fold))
  k_steps
  k_extra "mine held"
  k_extra "mine cexpr"
  k_steps
  k_extra "mine held"
  k_extra "mine ylist"
  k_extra "mine cbegin"
  k_dflt (refine' comp_fold (ps := [(.str ⟨l0.toArray⟩ t0, l0), (.str ⟨l1.toArray⟩ t1, l1), (.str ⟨l2.toArray⟩ t2, l2), (.str ⟨l3.toArray⟩ t3, l3)]) (fun p => (∃ k, p.1 = .str ⟨p.2.toArray⟩ k) ∧ p.2.length ≤ 1000) (fun done acc => IntsAre acc (done.flatten.map fun c => ((c : Nat) : Int)) ∧ acc.length ≤ 1000 * done.length) ?v1 ?vF ?vN ?vY ?vU1 ?vC ?vU2 ?vU3 ?vs ?vP ?vJ ?vt ?vf)
  case v1 => exact rfl
  case vF => k_asm
  case vN => k_asm
  case vY => k_asm
  case vU1 => k_extra "mine rem"
  case vC => k_asm
  case vU2 => k_extra "mine rem"
  case vU3 => k_extra "mine rem"
  case vs => k_extra "mine sub"
  case vP =>
    intro p hp
    simp only [List.mem_cons, List.not_mem_nil, or_false] at hp
    rcases hp with rfl | rfl | rfl | rfl <;> exact ⟨⟨_, rfl⟩, by dsimp only; k_extra "om"⟩
  case vJ => exact ⟨.nil, Nat.le_refl _⟩
  case vt =>
    clear hret
    intro KK p done acc n9 io9 oC9 m9 h9 tk9 hP9 hJ9 hd9 hC9 F9 N9 kont
    obtain ⟨v, l⟩ := p
    obtain ⟨⟨kx, hv⟩, hl⟩ := hP9
    dsimp only at hv hl kont ⊢
    subst hv
    obtain ⟨hJ9, hz9⟩ := hJ9
    have hd9 : done.length < 4 := hd9
    k_steps
    k_extra "mine held"
    k_extra "mine ystr"
    k_extra "mine cstart"
    k_dflt (refine' comp_map_r (fun x v => ∃ c t1, (∀ t, x t = Value.str ⟨#[c]⟩ t) ∧ v = .int ((c : Nat) : Int) t1) (fun s h => comp_inner h) ?mhh ?ml ?mp ?mF ?mN ?mU1 ?mU2 ?mU3 ?mY ?mC ?ms ?mz ?me ?_; (case mhh => exact rfl); (case ml => exact rfl); (case mp => exact rfl); (case mF => k_asm); (case mN => k_asm); (case mU1 => k_extra "mine rem"); (case mU2 => k_extra "mine rem"); (case mU3 => k_extra "mine rem"); (case mY => k_asm); (case mC => k_asm); (case ms => k_extra "mine sub"))
    case mz =>
      simp only [List.length_map, List.toList_toArray]
      k_extra "om"
    case me =>
      intro x hx t oC8 io8 acc8 n8 m8 h8 tk8 Q8 c1 c2 c3 F8 N8 ret
      obtain ⟨c, hc, rfl⟩ := sign_cS hx
      have c4 : m8 (Str.ofString "sign") = some (.str ⟨#[c]⟩ t) := c2
      k_steps
      exact ret _ _ _ ⟨c, _, fun _ => rfl, rfl⟩ (by k_asm) (by k_asm)
    intro ys0 oC0 n0 m0 h0 tk0 hP0 c10 c20 F0 N0
    have hs0 := paired_ord hP0
    show KK _
    refine kont _ _ _ _ _ _ ⟨?_, ?_⟩ c10 F0 (by k_extra "mine news")
    · rw [List.flatten_append, List.map_append]
      rw [show [l].flatten = l by simp]
      exact hJ9.append hs0
    · have hl2 := hs0.length
      rw [List.length_map] at hl2
      have hl3 : ys0.length = l.length := hl2
      rw [List.length_append, List.length_append]
      show _ ≤ 1000 * (done.length + 1)
      k_extra "om"
  case vf =>
  intro YS n9 oC9 m9 h9 tk9 hJ9 hC9 F9 N9
  k_extra "mine cend"
  have hI := hJ9.1
  have eI : (List.flatten (List.map Prod.snd [(Value.str ⟨l0.toArray⟩ t0, l0), (.str ⟨l1.toArray⟩ t1, l1), (.str ⟨l2.toArray⟩ t2, l2), (.str ⟨l3.toArray⟩ t3, l3)])).map (fun c => ((c : Nat) : Int)) = (allB rows).map fun c => ((c : Nat) : Int) := by
    rw [← hb]; simp
  rw [eI] at hI
  clear hJ9 eI
  have hrI : ∀ n ∈ (allB rows).map (fun c => ((c : Nat) : Int)), 0 ≤ n ∧ n < 256 := fun n hn => by
    obtain ⟨c, hc, rfl⟩ := List.mem_map.mp hn
    have := hlt c hc
    k_extra "om"
  have hzI : ((allB rows).map fun c => ((c : Nat) : Int)).length ≤ 1000 := by rw [List.length_map]; exact hz2
  have eB : ∀ b : Array UInt8, b.toList.map (·.toNat) = ((allB rows).map fun c => ((c : Nat) : Int)).map Int.toNat → b.toList.map (·.toNat) = allB rows := fun b h => by
    rw [h, List.map_map]
    exact List.map_id'' (fun c => Int.toNat_natCast c) _
  k_steps
  rename EntsAt _ _ _ => hE9
  rename (∀ p ∈ (_ : List (Addr × Obj)), p ∈ (_ : List (Addr × Obj))) => hS9
  rename (∀ p ∈ (_ : List (Addr × Obj)), Prod.fst p < _) => hL9
  exact hret _ _ _ _ _ _ hE9 (fun p hp => hS9 p (by repeat (first | exact hp | apply List.mem_cons_of_mem))) (fun p hp => hL9 p (by repeat (first | exact hp | apply List.mem_cons_of_mem))) (by k_asm) (by k_asm)
end
section
abbrev toS (l : List Nat) : Str := ⟨l.toArray⟩
noncomputable def ltL : List Nat → List Nat → Bool
  | [], [] => false
  | [], _ :: _ => true
  | _ :: _, [] => false
  | a :: r, b :: t => Nat.blt a b || (Nat.beq a b && ltL r t)
theorem ltL_is : ∀ (a b : List Nat), ltL a b = decide (a < b)
  | [], [] => by simp [ltL]
  | [], _ :: _ => by simp [ltL]
  | _ :: _, [] => by simp [ltL]
  | a :: r, b :: t => by
    have h1 : Nat.blt a b = decide (a < b) := by
      rw [Bool.eq_iff_iff]; simp [Nat.blt_eq]
    have h2 : Nat.beq a b = decide (a = b) := by
      rw [Bool.eq_iff_iff]; simp [Nat.beq_eq]
    unfold ltL
    rw [h1, h2, ltL_is r t, Bool.eq_iff_iff]
    simp [List.cons_lt_cons_iff]
noncomputable def monoB (x : List Nat) : List (List Nat) → Bool
  | [] => true
  | q :: r => (ltL q x || r.all fun p => !ltL p x) && monoB x r
noncomputable def insW (x : List Nat) (ks : List (List Nat)) : List (List Nat) := ks.filter (fun q => ltL q x) ++ x :: ks.filter (fun q => !ltL q x)
noncomputable def eqL : List Nat → List Nat → Bool
  | [], [] => true
  | a :: r, b :: t => Nat.beq a b && eqL r t
  | _, _ => false
theorem eqL_is : ∀ (a b : List Nat), eqL a b = decide (a = b)
  | [], [] => by simp [eqL]
  | [], _ :: _ => by simp [eqL]
  | _ :: _, [] => by simp [eqL]
  | a :: r, b :: t => by
    have h2 : Nat.beq a b = decide (a = b) := by
      rw [Bool.eq_iff_iff]; simp [Nat.beq_eq]
    unfold eqL
    rw [h2, eqL_is r t, Bool.eq_iff_iff]
    simp
noncomputable def okW (x : List Nat) : Bool := Nat.ble x.length 100 && x.all fun c => Nat.blt c 128
/-- _law_new: whether it was new, and what is kept then; none where a size or the order would not do -/
noncomputable def newO (ks : List (List Nat)) (x : List Nat) : Option (Bool × List (List Nat)) :=
  if Nat.ble 100 ks.length || !(monoB x ks && (okW x && ks.all okW)) then none
  else match ks.filter (fun q => !ltL q x) with
    | [] => some (true, insW x ks)
    | y :: _ => if eqL y x then some (false, ks) else some (true, insW x ks)
theorem okW_str {x : List Nat} (h : okW x = true) : PyData.strOk (toS x) = true := by
  unfold okW at h
  simp only [Bool.and_eq_true] at h
  unfold PyData.strOk
  rw [← Array.all_toList]
  refine List.all_eq_true.mpr fun c hc => ?_
  have := List.all_eq_true.mp h.2 c hc
  rw [Nat.blt_eq] at this
  exact decide_eq_true (by k_extra "om")
theorem monoB_is {x : List Nat} : ∀ {ks : List (List Nat)}, monoB x ks = true → mono ks.length (fbisl4 (toS x) (ks.map toS))
  | [], _ => fun i j _ hj _ => absurd hj (Nat.not_lt_zero _)
  | q :: r, h => by
    unfold monoB at h
    simp only [Bool.and_eq_true, Bool.or_eq_true] at h
    obtain ⟨h1, h2⟩ := h
    have ih := monoB_is h2
    intro i j hij hj hf
    cases j with
    | zero => have : i = 0 := by k_extra "om"
              subst this; exact hf
    | succ j =>
      have hj' : j < r.length := by simpa using hj
      have hf' : fbisl4 (toS x) (r.map toS) j = true := by simpa [fbisl4] using hf
      cases i with
      | succ i =>
        have := ih i j (by k_extra "om") hj' hf'
        simpa [fbisl4] using this
      | zero =>
        have hq : ltL q x = true := by
          rcases h1 with h1 | h1
          · exact h1
          · have hm := List.all_eq_true.mp h1 r[j] (List.getElem_mem hj')
            have hf2 : ltL r[j] x = true := by
              rw [ltL_is]
              simpa [fbisl4, hj'] using hf'
            rw [hf2] at hm
            cases hm
        rw [ltL_is] at hq
        simpa [fbisl4] using hq
theorem cutW {x : List Nat} {ks : List (List Nat)} {r : Int} (h : cutAt ks.length (fbisl4 (toS x) (ks.map toS)) r r) : ks.take r.toNat = ks.filter (fun q => ltL q x) ∧ ks.drop r.toNat = ks.filter (fun q => !ltL q x) := by
  refine take_filter (fun q => ltL q x) ks r.toNat (by have := h.2.2.1; have := h.1; k_extra "om") (fun i hi hl => ?_) (fun i hi hl => ?_)
  · have := h.2.2.2.1 i (by have := h.1; k_extra "om")
    rw [ltL_is]
    simpa [fbisl4, hi] using this
  · have := h.2.2.2.2 i (by have := h.1; k_extra "om") hi
    rw [ltL_is]
    simpa [fbisl4, hi] using this
theorem TxAre.strs {vs : List Value} {ls : List (List Nat)} (h : TxAre vs ls) : StrsAre vs (ls.map toS) := by
  induction h with
  | nil => exact .nil
  | cons l t _ ih => exact .cons _ _ ih
theorem TxAre.length {vs : List Value} {ls : List (List Nat)} (h : TxAre vs ls) : vs.length = ls.length := by
  induction h with
  | nil => rfl
  | cons l t _ ih => rw [List.length_cons, List.length_cons, ih]
theorem TxAre.take {vs : List Value} {ls : List (List Nat)} (h : TxAre vs ls) : ∀ r, TxAre (vs.take r) (ls.take r) := by
  induction h with
  | nil => intro r; rw [List.take_nil, List.take_nil]; exact .nil
  | cons l t _ ih =>
    intro r
    cases r with
    | zero => exact .nil
    | succ r => exact .cons l t (ih r)
theorem TxAre.drop {vs : List Value} {ls : List (List Nat)} (h : TxAre vs ls) : ∀ r, TxAre (vs.drop r) (ls.drop r) := by
  induction h with
  | nil => intro r; rw [List.drop_nil, List.drop_nil]; exact .nil
  | cons l t h' ih =>
    intro r
    cases r with
    | zero => exact .cons l t h'
    | succ r => exact ih r
theorem TxAre.append {vs us : List Value} {ls ks : List (List Nat)} (h : TxAre vs ls) (g : TxAre us ks) : TxAre (vs ++ us) (ls ++ ks) := by
  induction h with
  | nil => exact g
  | cons l t _ ih => exact .cons l t ih
end
section
theorem slice_is (x : Str) (l u : Option Int) : Txt.slice x l u = StrLaws.sliceText x l u := by
  first | rfl | (unfold Txt.slice StrLaws.sliceText; rfl)
theorem slice_to {l : List Nat} {k : Nat} (h : k ≤ l.length) : Txt.slice (toS l) none (some (k : Int)) = toS (l.take k) := by
  rw [slice_is, StrLaws.sliceText_to ⟨by k_extra "om", by show (k : Int) ≤ (l.length : Int); k_extra "om"⟩]
  show (⟨((l.drop 0).take ((k : Int) - 0).toNat).toArray⟩ : Str) = _
  rw [List.drop_zero]
  have : ((k : Int) - 0).toNat = k := by k_extra "om"
  rw [this]
theorem slice_from {l : List Nat} {k : Nat} (h : k ≤ l.length) : Txt.slice (toS l) (some (k : Int)) none = toS (l.drop k) := by
  rw [slice_is, StrLaws.sliceText_from ⟨by k_extra "om", by show (k : Int) ≤ (l.length : Int); k_extra "om"⟩]
  first
  | rfl
  | (show (⟨(l.drop ((k : Int)).toNat).toArray⟩ : Str) = _; rw [Int.toNat_natCast])
  | (simp [toS]; exact List.take_of_length_le (by simp))
theorem tx_split {x : Tok → Value} {r : List (Tok → Value)} : ∀ {vs : List Value} {ls : List (List Nat)} {done : List (Tok → Value)}, TxAre vs ls → done ++ x :: r = cV vs → ∃ (l1 l2 : List (List Nat)) (l : List Nat) (k0 : Tok), ls = l1 ++ l :: l2 ∧ l1.length = done.length ∧ x = fun _ => .str (toS l) k0
  | _, _, [], .nil, e => nomatch e
  | _, _, _ :: _, .nil, e => nomatch e
  | _, _, [], @TxAre.cons l k _ _ r', e => by
    injection e with e1 e2
    exact ⟨[], _, l, k, rfl, rfl, e1⟩
  | _, _, d :: done, @TxAre.cons l _ _ _ r', e => by
    injection e with e1 e2
    obtain ⟨l1, l2, l', k0, h1, h2, h3⟩ := tx_split r' e2
    exact ⟨l :: l1, l2, l', k0, by rw [h1]; rfl, by rw [List.length_cons, List.length_cons, h2], h3⟩
theorem paired_ins (f : Nat → List Nat) : ∀ {ys : List Value} (k a : Nat), Paired (fun x v => ∃ (s : Nat) (t1 : Tok), (∀ t, x t = Value.int (s : Int) t) ∧ v = .str ⟨(f s).toArray⟩ t1) (cR (a : Int) k) ys → TxAre ys ((List.range' a k).map f)
  | _, 0, _, .nil => .nil
  | _, k + 1, a, .cons ⟨s, t1, e, e2⟩ p => by
    have h0 := e 0
    injection h0 with h1 h2
    have h3 : a = s := by k_extra "om"
    subst h3
    subst e2
    have h4 : (a : Int) + 1 = ((a + 1 : Nat) : Int) := by k_extra "om"
    rw [h4] at p
    exact .cons _ _ (paired_ins f k (a + 1) p)
theorem cR_mem {x : Tok → Value} : ∀ (k a : Nat), x ∈ cR (a : Int) k → ∃ s : Nat, s < a + k ∧ x = fun t => .int (s : Int) t
  | 0, _, h => nomatch h
  | k + 1, a, h => by
    rcases List.mem_cons.mp h with h | h
    · exact ⟨a, by k_extra "om", h⟩
    · have h4 : (a : Int) + 1 = ((a + 1 : Nat) : Int) := by k_extra "om"
      rw [h4] at h
      obtain ⟨s, h1, h2⟩ := cR_mem k (a + 1) h
      exact ⟨s, by k_extra "om", h2⟩
end
section
variable {w : World} {mean : ExcName → Option Value} {mg mb : Str → Option Value} {dp un : Nat} {gd : Option (List Code)} {cn : Str} {cs : Scope} {L a : Addr} {ccd : Value} {cl : List (Str × Addr)} {outer : List Env}
   {A₀ : Around} {base h₀ : Heap} {m : Str → Option Value} {s : Shared} {Q E : Value → Shared → Prop}
open G0 G3 G8 G10
theorem bisW_c {o : Addr} {x : List Nat} {k0 : Tok} {ks : List (List Nat)} {vs : List Value} {n : Nat} {news : List (Addr × Obj)} (B : Below A₀ base outer h₀) (F : Fr h₀ L s.heap m) (X : (K w.params).In h₀) (N : News h₀ L s.heap news)
   (T : Top topProg LL mean mg mb h₀) (hk : cs.kind = .function) (hdp : dp + 20 < recursionLimit) (hu : un + 160 < cLine)
   (ho : (o, listO vs n) ∈ news) (hi : TxAre vs ks) (hz : ks.length < 100) (hso : monoB x ks = true)
   (hret : ∀ (r : Nat) t h' tk', r ≤ ks.length → ks.take r = ks.filter (fun q => ltL q x) → ks.drop r = ks.filter (fun q => !ltL q x) → Fr h₀ L h' m → News h₀ L h' news → Q (.int (r : Int) t) { s with heap := h', toks := tk' }) :
   wpAny (model PP w) (ktrTop dp un gd cn cs L a ccd cl outer) (call (.ref 57) [.ref o, .str (toS x) k0]) Q E s := by
  refine bisl2 (k1 := 0) B F X N T hk hdp hu ho hi.strs (by rw [List.length_map]; k_extra "om") (by rw [List.length_map]; exact monoB_is hso) fun r t h' tk' hc F' N' => ?_
  rw [List.length_map] at hc
  have e := cutW hc
  have e2 : ((r.toNat : Nat) : Int) = r := by have := hc.1; k_extra "om"
  have := hret r.toNat t h' tk' (by have := hc.1; have := hc.2.2.1; k_extra "om") e.1 e.2 F' N'
  rw [e2] at this
  exact this
theorem insW_c {o : Addr} {x : List Nat} {k0 : Tok} {ks : List (List Nat)} {vs : List Value} {n : Nat} {news : List (Addr × Obj)} {g : Obj → List (Addr × Obj)} (B : Below A₀ base outer h₀) (F : Fr h₀ L s.heap m) (X : (K w.params).In h₀) (N : News h₀ L s.heap news)
   (T : Top topProg LL mean mg mb h₀) (hk : cs.kind = .function) (hdp : dp + 40 < recursionLimit) (hu : un + 320 < cLine)
   (U : UpdF o (listO vs n) news g) (hi : TxAre vs ks) (hz : ks.length < 100) (hso : monoB x ks = true)
   (hret : ∀ vs' n' h' tk', TxAre vs' (insW x ks) → Fr h₀ L h' m → News h₀ L h' (g (listO vs' n')) → Q .none { s with heap := h', toks := tk' }) :
   wpAny (model PP w) (ktrTop dp un gd cn cs L a ccd cl outer) (call (.ref 48) [.ref o, .str (toS x) k0]) Q E s := by
  refine insl B F X N T hk hdp hu U hi.strs (by rw [List.length_map]; k_extra "om") (by rw [List.length_map]; exact monoB_is hso) fun r h' tk' hc F' N' => ?_
  rw [List.length_map] at hc
  have e := cutW hc
  refine hret _ _ _ _ ?_ F' N'
  unfold insW
  rw [← e.1, ← e.2]
  exact (hi.take _).append (.cons x k0 (hi.drop _))
section
variable {prog : Program} {A : Around}
theorem slice1_r {value slice : PySem.Expr} {l : Addr} {n r : Nat} {vs zs : List Value} {t u : Tok} {news : List (Addr × Obj)} (F : Fr h₀ L s.heap m) (N : News h₀ L s.heap news) (hl : (l, listO vs n) ∈ news) (e : (vs.drop r).take 1 = zs) (hr : r ≤ vs.length) (hz : vs.length ≤ 1000)
    (h : ∀ D h', Fr h₀ L h' m → News h₀ L h' ((D, listO zs 0) :: news) → (∀ p ∈ news, p.1 < D) → Q (.ref D) { s with heap := h' })
    (hs : subscripted slice false (.ref l) (.ref s.heap.objs.size) = operate [.ref s.heap.objs.size, .ref l] (getItem (.ref l) (.ref s.heap.objs.size))) (ht : ∀ r, letTemporaryGo value (.ref l) r = pure ()) :
    wpAny (model prog w) A (subscriptTail value slice (.ref l) (.ref s.heap.objs.size)) Q E { s with heap := s.heap.push { cls := .type "slice", data := .fields #[.int (r : Int) t, .int ((r : Int) + 1) u, .none] } } := by
  refine kmk_slice_lit F N (News.isList N hl) (IsPart.int _ _) (IsPart.int _ _) ?_ h hs ht (by rw [List.size_toArray, sizeLine_eq]; k_extra "om")
  rw [kms_pick_eq, ← e]
  unfold kms_pick
  have h1 : kms_lo (some (r : Int)) vs.length = r := by
    unfold kms_lo; dsimp only; rw [if_neg (by k_extra "om")]; k_extra "om"
  have h2 : kms_hi (some ((r : Int) + 1)) vs.length = min (r + 1) vs.length := by
    unfold kms_hi; dsimp only; rw [if_neg (by k_extra "om")]; k_extra "om"
  rw [List.toList_toArray, List.toList_toArray, h1, h2]
  by_cases hlt : r < vs.length
  · rw [Nat.min_eq_left (by k_extra "om"), Nat.add_sub_cancel_left]
  · rw [List.drop_of_length_le (by k_extra "om")]; simp
end
open G20
theorem eqS0_r {prog : Program} {A : Around} {a b : Addr} {n k : Nat} {x : List Nat} {t : Tok} {news : List (Addr × Obj)} (N : News h₀ L s.heap news) (m1 : (a, listO [] n) ∈ news) (m2 : (b, listO [.str (toS x) t] k) ∈ news) (ox : okW x = true) (hu : A.units + 64 < cLine) (h : Q (.bool false) s) :
    wpAny (model prog w) A (compareOp .Eq (.ref a) (.ref b)) Q E s := by
  refine eq_dataH (da := .list []) (db := .list [.str (toS x)]) (reads_list_at (N _ m1).1 rfl rfl .nil) (reads_list_at (N _ m2).1 rfl rfl (readsAll_cons_val (.str _ _) .nil)) (by simp [SeqAt.shaped, PyData.canLay0, PyData.canLayAll0, PyData.depth, PyData.depthAll, okW_str ox]) (by simp [SeqAt.shaped, PyData.canLay0, PyData.canLayAll0, PyData.depth, PyData.depthAll, okW_str ox]) hu ?_
  have e : PyData.eqv (.list []) (.list [.str (toS x)]) = false := by simp [PyData.eqv, PyData.eqvAll]
  rw [e]
  exact h
theorem eqS1_r {prog : Program} {A : Around} {a b : Addr} {n k : Nat} {x y : List Nat} {t u : Tok} {news : List (Addr × Obj)} (N : News h₀ L s.heap news) (m1 : (a, listO [.str (toS y) u] n) ∈ news) (m2 : (b, listO [.str (toS x) t] k) ∈ news) (ox : okW x = true) (oy : okW y = true) (hu : A.units + 64 < cLine) (h : Q (.bool (eqL y x)) s) :
    wpAny (model prog w) A (compareOp .Eq (.ref a) (.ref b)) Q E s := by
  refine eq_dataH (da := .list [.str (toS y)]) (db := .list [.str (toS x)]) (reads_list_at (N _ m1).1 rfl rfl (readsAll_cons_val (.str _ _) .nil)) (reads_list_at (N _ m2).1 rfl rfl (readsAll_cons_val (.str _ _) .nil)) (by simp [SeqAt.shaped, PyData.canLay0, PyData.canLayAll0, PyData.depth, PyData.depthAll, okW_str ox, okW_str oy]) (by simp [SeqAt.shaped, PyData.canLay0, PyData.canLayAll0, PyData.depth, PyData.depthAll, okW_str ox, okW_str oy]) hu ?_
  have e : PyData.eqv (.list [.str (toS y)]) (.list [.str (toS x)]) = eqL y x := by
    rw [eqL_is, Bool.eq_iff_iff]
    simp [PyData.eqv, PyData.eqvAll]
  rw [e]
  exact h
open G47
theorem tx_nil {vs : List Value} {ks : List (List Nat)} {r : Nat} (h : TxAre (vs.drop r) (ks.drop r)) (e : ks.drop r = []) : (vs.drop r).take 1 = [] := by
  rw [e] at h
  cases h' : List.drop r vs with
  | nil => rfl
  | cons a b => rw [h'] at h; cases h
theorem tx_cons {vs : List Value} {ks : List (List Nat)} {r : Nat} {y : List Nat} {l : List (List Nat)} (h : TxAre (vs.drop r) (ks.drop r)) (e : ks.drop r = y :: l) : ∃ t, (vs.drop r).take 1 = [.str (toS y) t] := by
  rw [e] at h
  cases h' : List.drop r vs with
  | nil => rw [h'] at h; cases h
  | cons a b =>
    rw [h'] at h
    cases h with
    | cons l t _ => exact ⟨t, rfl⟩
theorem toS_inj {x y : List Nat} (h : toS x = toS y) : x = y := by
  injection h with h
  injection h
theorem new_c {o : Addr} {x : List Nat} {k0 : Tok} {b : Bool} {ks ks' : List (List Nat)} {vs : List Value} {n : Nat} {news r1 : List (Addr × Obj)} (B : Below A₀ base outer h₀) (F : Fr h₀ L s.heap m) (X : (K w.params).In h₀) (N : News h₀ L s.heap news)
   (T : Top topProg LL mean mg mb h₀) (hk : cs.kind = .function) (hdp : dp + 60 < recursionLimit) (hu : un + 480 < cLine)
   (R1 : RemF o (listO vs n) news r1) (hi : TxAre vs ks) (hn : newO ks x = some (b, ks'))
   (hret : ∀ vs' n' h' tk', TxAre vs' ks' → Fr h₀ L h' m → News h₀ L h' ((o, listO vs' n') :: r1) → Q (.bool b) { s with heap := h', toks := tk' }) :
   wpAny (model PP w) (ktrTop dp un gd cn cs L a ccd cl outer) (call (.ref 301) [.ref o, .str (toS x) k0]) Q E s := by
  rcases cs with ⟨ck, cnames, cgen, cco, cmore⟩
  cases hk
  (try (refine letA (dp := dp) (un := un) rfl rfl ?_; intro A1 dA1 uA1))
  have hne := remF_ne R1
  have N2 : News h₀ L s.heap ((o, listO vs n) :: r1) := fun p hp => by
    rcases List.mem_cons.mp hp with h | hp
    · rw [h]; exact N _ (remF_mem R1)
    · exact N _ (remF_sub R1 p hp)
  clear N R1
  unfold newO at hn
  by_cases hc : (Nat.ble 100 ks.length || !(monoB x ks && (okW x && ks.all okW))) = true
  · rw [if_pos hc] at hn; cases hn
  rw [if_neg hc] at hn
  simp only [Bool.or_eq_true, Bool.not_eq_true', not_or, Bool.not_eq_false, Nat.ble_eq, Nat.not_le, Bool.and_eq_true] at hc
  obtain ⟨hz, hso, hox, hoks⟩ := hc
  have hlen := hi.length
  k_steps
  refine Hold.out ?_
  try k_unmd
  rename _ = List.filter (fun q => !ltL q x) ks => hd
  rename _ ≤ ks.length => hr
  have hdv := hi.drop
  cases hf : ks.filter (fun q => !ltL q x) with
  | nil =>
    rw [hf] at hn hd
    have eS := tx_nil (hi.drop _) hd
    cases hn
    k_dflt (refine' slice1_r (vs := vs) (n := n) (l := o) (zs := []) ?F ?N ?m ?e ?r ?z ?_ ?s ?t; (case F => k_asm); (case N => k_asm); (case m => k_mem); (case e => exact eS); (case r => k_extra "om"); (case z => k_extra "om"); (case s => with_unfolding_all rfl); (case t => (intro _; with_unfolding_all rfl)); intro D9 h9 F9 N9 l9; (try k_lt l9))
    try dsimp only
    k_steps
    exact hret _ _ _ _ (by assumption) (by k_asm) (by k_extra "mine news")
  | cons y rest =>
    rw [hf] at hn hd
    obtain ⟨ty, eS⟩ := tx_cons (hi.drop _) hd
    have hoy : okW y = true := List.all_eq_true.mp hoks y (List.mem_filter.mp (by rw [hf]; exact .head _ : y ∈ ks.filter (fun q => !ltL q x))).1
    dsimp only at hn
    k_dflt (refine' slice1_r (vs := vs) (n := n) (l := o) (zs := [.str (toS y) ty]) ?wF ?wN ?wm ?we ?wr ?wz ?_ ?ws ?wt; (case wF => k_asm); (case wN => k_asm); (case wm => k_mem); (case we => exact eS); (case wr => k_extra "om"); (case wz => k_extra "om"); (case ws => with_unfolding_all rfl); (case wt => (intro _; with_unfolding_all rfl)); intro D9 h9 F9 N9 l9; (try k_lt l9))
    try dsimp only
    k_steps
    · rename _ = true => hE
      rw [if_pos hE] at hn
      cases hn
      exact hret _ _ _ _ hi (by k_asm) (by k_extra "mine news")
    · rename _ = false => hE
      rw [if_neg (by rw [hE]; exact Bool.false_ne_true)] at hn
      cases hn
      exact hret _ _ _ _ (by assumption) (by k_asm) (by k_extra "mine news")
end
section
variable {w : World} {mean : ExcName → Option Value} {mg mb : Str → Option Value} {dp un : Nat} {gd : Option (List Code)} {cn : Str} {cs : Scope} {L a : Addr} {ccd : Value} {cl : List (Str × Addr)} {outer : List Env}
   {A₀ : Around} {base h₀ : Heap} {m : Str → Option Value} {s : Shared} {Q E : Value → Shared → Prop}
open G0 G3 G8 G10 G11 G32 G35 G48
/-- two signs of a pair that meets -/
inductive TiesAt (es : List (Addr × Obj)) : List Value → List (Nat × Nat) → Prop
  | nil : TiesAt es [] []
  | cons {x : Addr} {a b : Nat} {k0 k1 : Tok} {vs : List Value} {l : List (Nat × Nat)} (h : (x, tupO [.str ⟨#[a]⟩ k0, .str ⟨#[b]⟩ k1]) ∈ es) (r : TiesAt es vs l) : TiesAt es (.ref x :: vs) ((a, b) :: l)
theorem TiesAt.mono {es es' : List (Addr × Obj)} {vs : List Value} {l : List (Nat × Nat)} (h : TiesAt es vs l) (s : ∀ p ∈ es, p ∈ es') : TiesAt es' vs l := by
  induction h with
  | nil => exact .nil
  | cons hm _ ih => exact .cons (s _ hm) ih
theorem TiesAt.append {es : List (Addr × Obj)} {vs ws : List Value} {l k : List (Nat × Nat)} (h : TiesAt es vs l) (g : TiesAt es ws k) : TiesAt es (vs ++ ws) (l ++ k) := by
  induction h with
  | nil => exact g
  | cons hm _ ih => exact .cons hm ih
theorem TiesAt.length {es : List (Addr × Obj)} {vs : List Value} {l : List (Nat × Nat)} (h : TiesAt es vs l) : vs.length = l.length := by
  induction h with
  | nil => rfl
  | cons hm _ ih => rw [List.length_cons, List.length_cons, ih]
noncomputable def findI (w : List Nat) (a : Nat) : Int := Txt.find ⟨w.toArray⟩ ⟨#[a]⟩
noncomputable def tieSign (w : List Nat) (p : Nat × Nat) : Nat := if decide (findI w p.1 < findI w p.2) then 60 else 62
noncomputable def shapeP (w : List Nat) (ts : List (Nat × Nat)) : List Nat := ts.map (tieSign w)
theorem ties_cV {x : Tok → Value} {es : List (Addr × Obj)} : ∀ {vs : List Value} {l : List (Nat × Nat)}, TiesAt es vs l → x ∈ cV vs → ∃ (y : Addr) (a b : Nat) (k0 k1 : Tok), (y, tupO [.str ⟨#[a]⟩ k0, .str ⟨#[b]⟩ k1]) ∈ es ∧ (a, b) ∈ l ∧ x = fun _ => .ref y
  | _, _, .nil, hx => nomatch hx
  | _, _, .cons h r, hx => by
    rcases List.mem_cons.mp hx with rfl | hx
    · exact ⟨_, _, _, _, _, h, .head _, rfl⟩
    · obtain ⟨y, a, b, k0, k1, h1, h2, h3⟩ := ties_cV r hx
      exact ⟨y, a, b, k0, k1, h1, .tail _ h2, h3⟩
theorem take_snoc {α : Type} {l t1 t2 : List α} {p : α} {n : Nat} (h : l = t1 ++ p :: t2) (e : t1.length = n) : l.take (n + 1) = l.take n ++ [p] := by
  subst e; subst h
  rw [List.take_append, List.take_append, List.take_of_length_le (Nat.le_succ _), List.take_of_length_le (Nat.le_refl _), Nat.add_sub_cancel_left, Nat.sub_self]
  simp
theorem flat_one (w : List Nat) : ∀ l : List (Nat × Nat), (l.map fun p => [tieSign w p]).flatten = shapeP w l
  | [] => rfl
  | p :: l => by
    rw [List.map_cons, List.flatten_cons, flat_one w l]
    rfl
theorem lt_str : Str.ofString "<" = toS [60] := by decide +kernel
theorem gt_str : Str.ofString ">" = toS [62] := by decide +kernel
theorem tie_lt {w : List Nat} {a b : Nat} {t : Tok} (h : findI w a < findI w b) : TxAre [Value.str (Str.ofString "<") t] [[tieSign w (a, b)]] := by
  have e : tieSign w (a, b) = 60 := if_pos (decide_eq_true h)
  rw [lt_str, e]
  exact .cons _ _ .nil
theorem tie_gt {w : List Nat} {a b : Nat} {t : Tok} (h : ¬ findI w a < findI w b) : TxAre [Value.str (Str.ofString ">") t] [[tieSign w (a, b)]] := by
  have e : tieSign w (a, b) = 62 := if_neg (by simpa using h)
  rw [gt_str, e]
  exact .cons _ _ .nil
theorem ties_split {es : List (Addr × Obj)} {x : Tok → Value} {r : List (Tok → Value)} : ∀ {vs : List Value} {ts : List (Nat × Nat)} {done : List (Tok → Value)}, TiesAt es vs ts → done ++ x :: r = cV vs → ∃ (t1 t2 : List (Nat × Nat)) (a b : Nat) (y : Addr) (k0 k1 : Tok), ts = t1 ++ (a, b) :: t2 ∧ t1.length = done.length ∧ (y, tupO [.str ⟨#[a]⟩ k0, .str ⟨#[b]⟩ k1]) ∈ es ∧ x = fun _ => .ref y
  | _, _, [], .nil, e => nomatch e
  | _, _, d :: done, .nil, e => nomatch e
  | _, _, [], .cons h r', e => by
    injection e with e1 e2
    exact ⟨[], _, _, _, _, _, _, rfl, rfl, h, e1⟩
  | _, _, d :: done, .cons h r', e => by
    injection e with e1 e2
    obtain ⟨t1, t2, a, b, y, k0, k1, h1, h2, h3, h4⟩ := ties_split r' e2
    exact ⟨_ :: t1, t2, a, b, y, k0, k1, by rw [h1]; rfl, by simp [h2], h3, h4⟩
theorem shape_c {o : Addr} {w0 : List Nat} {k0 : Tok} {ts : List (Nat × Nat)} {vs : List Value} {n : Nat} {news : List (Addr × Obj)} (B : Below A₀ base outer h₀) (F : Fr h₀ L s.heap m) (X : (K w.params).In h₀) (N : News h₀ L s.heap news)
   (T : Top topProg LL mean mg mb h₀) (hk : cs.kind = .function) (hdp : dp + 60 < recursionLimit) (hu : un + 480 < cLine)
   (ho : (o, listO vs n) ∈ news) (hi : TiesAt news vs ts) (hz : ts.length ≤ 100)
   (hret : ∀ t h' tk', Fr h₀ L h' m → News h₀ L h' news → Q (.str (toS (shapeP w0 ts)) t) { s with heap := h', toks := tk' }) :
   wpAny (model PP w) (ktrTop dp un gd cn cs L a ccd cl outer) (call (.ref 306) [.str (toS w0) k0, .ref o]) Q E s := by
  rcases cs with ⟨ck, cnames, cgen, cco, cmore⟩
  cases hk
  (try (refine letA (dp := dp) (un := un) rfl rfl ?_; intro A1 dA1 uA1))
  have N2 : News h₀ L s.heap ((o, listO vs n) :: news) := fun p hp => by
    rcases List.mem_cons.mp hp with h | hp
    · rw [h]; exact N _ ho
    · exact N _ hp
  clear N
  k_steps
  k_extra "mine held"
  k_extra "mine cexpr"
  k_steps
  k_extra "mine held"
  k_extra "mine ylist"
  k_extra "mine cbegin"
  k_dflt (refine' ind_turn (fun es₀ done acc es _ => es = es₀ ∧ TxAre acc ((ts.take done.length).map fun p => [tieSign w0 p])) rfl ?F ?N ?Y ?U1 ?C ?U2 ?U3 ?s ?I ?turn ?fin)
  case F => k_asm
  case N => k_asm
  case Y => k_asm
  case U1 => k_extra "mine rem"
  case C => k_asm
  case U2 => k_extra "mine rem"
  case U3 => k_extra "mine rem"
  case s => k_extra "mine sub"
  case I => exact ⟨rfl, .nil⟩
  case turn =>
    intro KK x r done acc n8 io8 oC8 m8 es h8 tk8 t8 hall hI hcl hsub Y8 hC8 F8 N8 kont
    obtain ⟨rfl, hA⟩ := hI
    obtain ⟨t1, t2, a1, b1, y, ka, kb, et, el, hy, rfl⟩ := ties_split hi hall
    obtain ⟨cI, cC, cD⟩ := hcl
    dsimp only [blk] at N8
    have hAl : acc.length ≤ 100 := by rw [hA.length, List.length_map, List.length_take]; k_extra "om"
    have eT := take_snoc et el
    have hcl : Clear _ _ _ _ := ⟨cI, cC, cD⟩
    k_steps
    · refine kont _ _ _ _ _ _ _ _ ⟨rfl, ?_⟩ hcl hsub rfl (by k_asm) (by k_asm) (by k_asm)
      rw [List.length_append, List.length_cons, List.length_nil, eT, List.map_append]
      exact hA.append (tie_lt (by assumption))
    · refine kont _ _ _ _ _ _ _ _ ⟨rfl, ?_⟩ hcl hsub rfl (by k_asm) (by k_asm) (by k_asm)
      rw [List.length_append, List.length_cons, List.length_nil, eT, List.map_append]
      exact hA.append (tie_gt (by assumption))
  case fin =>
    intro acc n8 oC8 m8 es h8 tk8 hI hcl hC8 F8 N8
    obtain ⟨rfl, hA⟩ := hI
    obtain ⟨cI, cC, cD⟩ := hcl
    rw [List.length_map, hi.length, List.take_length] at hA
    have hB : ∀ l ∈ ts.map (fun p => [tieSign w0 p]), l.length ≤ 1000 := fun l hl => by
      obtain ⟨c, hc, rfl⟩ := List.mem_map.mp hl
      exact Nat.le_of_ble_eq_true rfl
    have hZ : (ts.map fun p => [tieSign w0 p]).length ≤ 1000 := by rw [List.length_map]; k_extra "om"
    k_extra "mine cend"
    k_steps
    rw [flat_one]
    exact hret _ _ _ (by k_asm) (by k_extra "mine news")
end
section
/-- where a sign stands in a word, 9 if nowhere -/
noncomputable def posL : List Nat → Nat → Nat → Nat
  | [], _, _ => 9
  | c :: r, a, i => if Nat.beq c a then i else posL r a (i + 1)
noncomputable def signL (w : List Nat) (p : Nat × Nat) : Nat := if Nat.blt (posL w p.1 0) (posL w p.2 0) then 60 else 62
noncomputable def shapeL (w : List Nat) (ts : List (Nat × Nat)) : List Nat := ts.map (signL w)
noncomputable abbrev Mat := List (List Bool)
noncomputable def getM (M : Mat) (i j : Nat) : Bool := (M.getD i []).getD j false
/-- the pairs that meet, as signs -/
noncomputable def tiesM (M : Mat) : List (Nat × Nat) := ([(0, 1), (0, 2), (1, 2), (0, 3), (1, 3), (2, 3)].filter fun p => !getM M p.1 p.2).map fun p => (48 + p.1, 48 + p.2)
noncomputable def insAll (p : Nat) (w : List Nat) : List (List Nat) := (List.range (p + 1)).map fun s => w.take s ++ (48 + p) :: w.drop s
noncomputable def wordsL : Nat → List (List Nat)
  | 0 => [[]]
  | p + 1 => ((wordsL p).map (insAll p)).flatten
/-- is it a word that names each block once -/
noncomputable def wordOk (w : List Nat) : Bool := Nat.beq w.length 4 && (w.all (fun c => Nat.ble 48 c && Nat.blt c 52) && (Nat.blt (posL w 48 0) 4 && Nat.blt (posL w 49 0) 4 && Nat.blt (posL w 50 0) 4 && Nat.blt (posL w 51 0) 4))
noncomputable abbrev KS := List (List Nat) × List (List Nat)
/-- one spot of a word -/
noncomputable def spotO (M : Mat) (w : List Nat) (s : Nat) (st : KS) : Option KS :=
  if getM M (w.getD s 0 - 48) (w.getD (s + 1) 0 - 48) then
    match newO st.1 (w.take s ++ w.getD (s + 1) 0 :: w.getD s 0 :: w.drop (s + 2)) with
    | none => none
    | some (true, ks) => some (ks, st.2 ++ [w.take s ++ w.getD (s + 1) 0 :: w.getD s 0 :: w.drop (s + 2)])
    | some (false, ks) => some (ks, st.2)
  else some st
noncomputable def spotsO (M : Mat) (w : List Nat) (st : KS) : Option KS := (spotO M w 0 st).bind fun st => (spotO M w 1 st).bind fun st => spotO M w 2 st
/-- the while loop: the words kept when nothing waits any more -/
noncomputable def whileO (M : Mat) (ts : List (Nat × Nat)) (sh : List Nat) : Nat → List Nat → KS → Option (List (List Nat))
  | 0, _, _ => none
  | f + 1, w, st =>
    if w.isEmpty then (if st.2.isEmpty then some st.1 else none)
    else if !(wordOk w && (eqL (shapeL w ts) sh && Nat.ble st.2.length 50)) then none
    else match spotsO M w st with
      | none => none
      | some (ks, []) => whileO M ts sh f [] (ks, [])
      | some (ks, v :: pb) => whileO M ts sh f v (ks, pb)
/-- the loop over all words -/
noncomputable def firstsO (M : Mat) (ts : List (Nat × Nat)) : List (List Nat) → List (List Nat) → List (List Nat) → Option (List (List Nat))
  | [], _, shapes => some shapes
  | v :: r, seen, shapes =>
    if !wordOk v then none else
    match newO seen v with
    | none => none
    | some (false, ks) => firstsO M ts r ks shapes
    | some (true, ks) =>
      match newO shapes (shapeL v ts) with
      | some (true, sh) => (whileO M ts (shapeL v ts) 30 v (ks, [])).bind fun ks' => firstsO M ts r ks' sh
      | _ => none
noncomputable def kindsO (M : Mat) : Option Nat := (firstsO M (tiesM M) (wordsL 4) [] []).map List.length
/-- a matrix of six bits -/
noncomputable def matB (a b c d e f : Bool) : Mat := [[false, a, b, d], [a, false, c, e], [b, c, false, f], [d, e, f, false]]
noncomputable def perms4 : List (List Nat) := (wordsL 4).map fun w => w.map (· - 48)
/-- blocks in the order of their begins: who meets the first meets all between -/
noncomputable def rightOrd (M : Mat) : List Nat → Bool
  | [i, j, k, l] => (getM M i j || true) && (!(!getM M i k) || !getM M i j) && (!(!getM M i l) || (!getM M i j && !getM M i k)) && (!(!getM M j l) || !getM M j k)
  | _ => false
noncomputable def nb (b : Bool) : Nat := if b then 0 else 1
noncomputable def prodOrd (M : Mat) : List Nat → Nat
  | [i, j, k, l] => (1 + nb (getM M i j)) * (1 + nb (getM M i k) + nb (getM M j k)) * (1 + nb (getM M i l) + nb (getM M j l) + nb (getM M k l))
  | _ => 0
noncomputable def agree (M : Mat) : Bool := let k := kindsO M; perms4.all fun o => !rightOrd M o || k == some (prodOrd M o)
/-- the plain law, over all bits -/
theorem plain_all : ∀ a b c d e f : Bool, agree (matB a b c d e f) = true := by decide +kernel
end
section
noncomputable def insX (f : Nat → Int × Int) (i : Nat) (o : List Nat) : List Nat := o.filter (fun q => !decide ((f i).1 < (f q).1)) ++ i :: o.filter (fun q => !(!decide ((f i).1 < (f q).1)))
theorem insX_map (f : Nat → Int × Int) (i : Nat) (o : List Nat) : (insX f i o).map f = insK (f i) (o.map f) := by
  unfold insX insK
  rw [List.map_append, List.map_cons, List.filter_map, List.filter_map]
  rfl
theorem foldX_map (f : Nat → Int × Int) : ∀ (l acc : List Nat), (l.foldl (fun o p => insX f p o) acc).map f = (l.map f).foldl (fun o p => insK p o) (acc.map f)
  | [], acc => rfl
  | i :: l, acc => by
    show (l.foldl (fun o p => insX f p o) (insX f i acc)).map f = (l.map f).foldl (fun o p => insK p o) (insK (f i) (acc.map f))
    rw [foldX_map f l, insX_map]
theorem insX_perm (f : Nat → Int × Int) (i : Nat) (o : List Nat) : (insX f i o).Perm (i :: o) :=
  List.perm_middle.trans (List.Perm.cons _ (List.filter_append_perm _ _))
theorem foldX_perm (f : Nat → Int × Int) : ∀ (l acc : List Nat), (l.foldl (fun o p => insX f p o) acc).Perm (l ++ acc)
  | [], acc => .refl _
  | i :: l, acc => by
    show (l.foldl (fun o p => insX f p o) (insX f i acc)).Perm (i :: (l ++ acc))
    exact (foldX_perm f l _).trans (((insX_perm f i acc).append_left l).trans List.perm_middle)
theorem foldK_sort : ∀ (l acc : List (Int × Int)), sortK acc → sortK (l.foldl (fun o p => insK p o) acc)
  | [], acc, h => h
  | p :: l, acc, h => foldK_sort l _ (insK_sort h)
theorem perm4_mem {o : List Nat} (h : o.Perm [0, 1, 2, 3]) : o ∈ perms4 := by
  have hl := h.length_eq
  have hb0 : ((List.range 4).all fun a => (List.range 4).all fun b => (List.range 4).all fun c => (List.range 4).all fun d => !List.isPerm [a, b, c, d] [0, 1, 2, 3] || perms4.contains [a, b, c, d]) = true := by decide +kernel
  have hb : ∀ a, a < 4 → ∀ b, b < 4 → ∀ c, c < 4 → ∀ d, d < 4 → List.isPerm [a, b, c, d] [0, 1, 2, 3] = true → [a, b, c, d] ∈ perms4 := by
    intro a ha b hb c hc d hd hp
    have h1 := List.all_eq_true.mp (List.all_eq_true.mp (List.all_eq_true.mp (List.all_eq_true.mp hb0 a (List.mem_range.mpr ha)) b (List.mem_range.mpr hb)) c (List.mem_range.mpr hc)) d (List.mem_range.mpr hd)
    rw [hp] at h1
    simpa using h1
  match o, hl with
  | [a, b, c, d], _ =>
    have hm : ∀ z ∈ [a, b, c, d], z < 4 := fun z hz => by
      have := h.mem_iff.mp hz
      simp only [List.mem_cons, List.not_mem_nil, or_false] at this
      k_extra "om"
    exact hb a (hm a (by simp)) b (hm b (by simp)) c (hm c (by simp)) d (hm d (by simp)) (List.isPerm_iff.mpr h)
theorem insI_perm (y : Int) (l : List Int) : (insI y l).Perm (y :: l) :=
  List.perm_middle.trans (List.Perm.cons _ (List.filter_append_perm _ _))
noncomputable def openI (x : Int) (l : List Int) : Int := (l.length : Int) - ((l.filter (fun q => !decide (x < q))).length : Int)
theorem openI_nil (x : Int) : openI x [] = 0 := rfl
theorem openI_ins (x y : Int) (l : List Int) : openI x (insI y l) = openI x l + (nb (decide (y ≤ x)) : Nat) := by
  unfold openI
  rw [(insI_perm y l).length_eq, ((insI_perm y l).filter _).length_eq]
  by_cases h : y ≤ x
  · have h2 : ¬ x < y := by k_extra "om"
    rw [List.filter_cons_of_pos (by simp [h2]), List.length_cons, List.length_cons, decide_eq_true h]
    show _ = _ + ((0 : Nat) : Int)
    k_extra "om"
  · have h2 : x < y := by k_extra "om"
    rw [List.filter_cons_of_neg (by simp [h2]), List.length_cons, decide_eq_false h]
    show _ = _ + ((1 : Nat) : Int)
    k_extra "om"
theorem stepW_is (st : List Int × Int) (p : Int × Int) : stepW st p = (insI p.2 st.1, st.2 * (1 + openI p.1 st.1)) := by
  unfold stepW openI
  congr 2
  k_extra "om"
theorem ways_fold (p0 p1 p2 p3 : Int × Int) : ([p0, p1, p2, p3].foldl stepW ([], 1)).2 =
    ((((1 + nb (decide (p0.2 ≤ p1.1))) * (1 + nb (decide (p0.2 ≤ p2.1)) + nb (decide (p1.2 ≤ p2.1))) * (1 + nb (decide (p0.2 ≤ p3.1)) + nb (decide (p1.2 ≤ p3.1)) + nb (decide (p2.2 ≤ p3.1))) : Nat) : Int)) := by
  simp only [List.foldl_cons, List.foldl_nil, stepW_is, openI_ins, openI_nil]
  push_cast
  simp only [Int.one_mul, Int.zero_add, Int.add_zero, Int.add_assoc]
noncomputable abbrev apP (ps : List (Int × Int)) (i j : Nat) : Bool := decide ((ps.getD i (0, 0)).2 ≤ (ps.getD j (0, 0)).1) || decide ((ps.getD j (0, 0)).2 ≤ (ps.getD i (0, 0)).1)
noncomputable def matP (ps : List (Int × Int)) : Mat := matB (apP ps 0 1) (apP ps 0 2) (apP ps 1 2) (apP ps 0 3) (apP ps 1 3) (apP ps 2 3)
theorem matP_is {x0 y0 x1 y1 x2 y2 x3 y3 : Int} (h0 : x0 < y0) (h1 : x1 < y1) (h2 : x2 < y2) (h3 : x3 < y3) : ∀ i j, i < 4 → j < 4 → getM (matP [(x0, y0), (x1, y1), (x2, y2), (x3, y3)]) i j = apP [(x0, y0), (x1, y1), (x2, y2), (x3, y3)] i j := by
  have hd : ∀ x y : Int, x < y → false = (decide (y ≤ x) || decide (y ≤ x)) := fun x y h => by rw [decide_eq_false (by k_extra "om")]; rfl
  intro i j hi hj
  match i, j, hi, hj with
  | 0, 0, _, _ => exact hd _ _ h0
  | 1, 1, _, _ => exact hd _ _ h1
  | 2, 2, _, _ => exact hd _ _ h2
  | 3, 3, _, _ => exact hd _ _ h3
  | 0, 1, _, _ => exact rfl
  | 0, 2, _, _ => exact rfl
  | 0, 3, _, _ => exact rfl
  | 1, 2, _, _ => exact rfl
  | 1, 3, _, _ => exact rfl
  | 2, 3, _, _ => exact rfl
  | 1, 0, _, _ => exact Bool.or_comm _ _
  | 2, 0, _, _ => exact Bool.or_comm _ _
  | 2, 1, _, _ => exact Bool.or_comm _ _
  | 3, 0, _, _ => exact Bool.or_comm _ _
  | 3, 1, _, _ => exact Bool.or_comm _ _
  | 3, 2, _, _ => exact Bool.or_comm _ _
theorem prodOrd_le (M : Mat) : ∀ o, prodOrd M o ≤ 24
  | [i, j, k, l] => by
    have h : ∀ b, nb b ≤ 1 := fun b => by cases b <;> decide
    have h1 := h (getM M i j)
    have h2 := h (getM M i k)
    have h3 := h (getM M j k)
    have h4 := h (getM M i l)
    have h5 := h (getM M j l)
    have h6 := h (getM M k l)
    show (1 + nb (getM M i j)) * (1 + nb (getM M i k) + nb (getM M j k)) * (1 + nb (getM M i l) + nb (getM M j l) + nb (getM M k l)) ≤ 24
    have a : 1 + nb (getM M i j) ≤ 2 := by k_extra "om"
    have b : 1 + nb (getM M i k) + nb (getM M j k) ≤ 3 := by k_extra "om"
    have c : 1 + nb (getM M i l) + nb (getM M j l) + nb (getM M k l) ≤ 4 := by k_extra "om"
    exact Nat.mul_le_mul (Nat.mul_le_mul a b) c
  | [] => Nat.zero_le _
  | [_] => Nat.zero_le _
  | [_, _] => Nat.zero_le _
  | [_, _, _] => Nat.zero_le _
  | _ :: _ :: _ :: _ :: _ :: _ => Nat.zero_le _
theorem kinds_ways {x0 y0 x1 y1 x2 y2 x3 y3 : Int} (h0 : x0 < y0) (h1 : x1 < y1) (h2 : x2 < y2) (h3 : x3 < y3) :
    ∃ k : Nat, kindsO (matP [(x0, y0), (x1, y1), (x2, y2), (x3, y3)]) = some k ∧ k ≤ 100 ∧ (k : Int) = waysP [(x0, y0), (x1, y1), (x2, y2), (x3, y3)] := by
  generalize hps : [(x0, y0), (x1, y1), (x2, y2), (x3, y3)] = ps
  have hM := matP_is h0 h1 h2 h3
  rw [hps] at hM
  let f : Nat → Int × Int := fun i => ps.getD i (0, 0)
  have hf : [0, 1, 2, 3].map f = ps := by rw [← hps]; show [ps.getD 0 (0, 0), ps.getD 1 (0, 0), ps.getD 2 (0, 0), ps.getD 3 (0, 0)] = _; rw [← hps]; rfl
  have hlt : ∀ i < 4, (f i).1 < (f i).2 := by
    intro i hi
    show (ps.getD i (0, 0)).1 < (ps.getD i (0, 0)).2
    rw [← hps]
    match i, hi with
    | 0, _ => exact h0
    | 1, _ => exact h1
    | 2, _ => exact h2
    | 3, _ => exact h3
  have hag : agree (matP ps) = true := plain_all _ _ _ _ _ _
  have hmem := perm4_mem ((foldX_perm f [0, 1, 2, 3] []).trans (by rw [List.append_nil]))
  have hsort : sortK ((([0, 1, 2, 3] : List Nat).foldl (fun o p => insX f p o) []).map f) := by
    rw [foldX_map]; exact foldK_sort _ _ List.Pairwise.nil
  have hlen := (foldX_perm f [0, 1, 2, 3] []).length_eq
  have hw : waysP ps = ((((([0, 1, 2, 3] : List Nat).foldl (fun o p => insX f p o) []).map f).foldl stepW ([], 1)).2) := by
    rw [foldX_map, hf]; rfl
  have hin : ∀ z ∈ (([0, 1, 2, 3] : List Nat).foldl (fun o p => insX f p o) []), z < 4 := fun z hz => by
    have := (foldX_perm f [0, 1, 2, 3] []).mem_iff.mp hz
    simp only [List.append_nil, List.mem_cons, List.not_mem_nil, or_false] at this
    k_extra "om"
  generalize (([0, 1, 2, 3] : List Nat).foldl (fun o p => insX f p o) []) = o at *
  match o, hlen with
  | [i, j, k, l], _ =>
    have hi : i < 4 := hin i (by simp)
    have hj : j < 4 := hin j (by simp)
    have hk : k < 4 := hin k (by simp)
    have hl : l < 4 := hin l (by simp)
    have s1 : (f i).1 ≤ (f j).1 ∧ (f i).1 ≤ (f k).1 ∧ (f i).1 ≤ (f l).1 ∧ (f j).1 ≤ (f k).1 ∧ (f j).1 ≤ (f l).1 ∧ (f k).1 ≤ (f l).1 := by
      unfold sortK at hsort
      simp only [List.map_cons, List.map_nil, List.pairwise_cons, List.mem_cons, List.not_mem_nil, or_false] at hsort
      refine ⟨hsort.1 _ (.inl rfl), hsort.1 _ (.inr (.inl rfl)), hsort.1 _ (.inr (.inr rfl)), hsort.2.1 _ (.inl rfl), hsort.2.1 _ (.inr rfl), hsort.2.2.1 _ rfl⟩
    have e : ∀ a b, a < 4 → b < 4 → (f a).1 ≤ (f b).1 → getM (matP ps) a b = decide ((f a).2 ≤ (f b).1) := by
      intro a b ha hb hab
      rw [hM a b ha hb]
      show (decide ((f a).2 ≤ (f b).1) || decide ((f b).2 ≤ (f a).1)) = _
      have := hlt b hb
      rw [decide_eq_false (p := (f b).2 ≤ (f a).1) (by k_extra "om"), Bool.or_false]
    have eij := e i j hi hj s1.1
    have eik := e i k hi hk s1.2.1
    have eil := e i l hi hl s1.2.2.1
    have ejk := e j k hj hk s1.2.2.2.1
    have ejl := e j l hj hl s1.2.2.2.2.1
    have ekl := e k l hk hl s1.2.2.2.2.2
    have ho : rightOrd (matP ps) [i, j, k, l] = true := by
      show ((getM (matP ps) i j || true) && (!(!getM (matP ps) i k) || !getM (matP ps) i j) && (!(!getM (matP ps) i l) || (!getM (matP ps) i j && !getM (matP ps) i k)) && (!(!getM (matP ps) j l) || !getM (matP ps) j k)) = true
      rw [eij, eik, eil, ejk, ejl]
      by_cases c1 : (f i).2 ≤ (f j).1 <;> by_cases c2 : (f i).2 ≤ (f k).1 <;> by_cases c3 : (f i).2 ≤ (f l).1 <;> by_cases c4 : (f j).2 ≤ (f k).1 <;> by_cases c5 : (f j).2 ≤ (f l).1 <;> simp [c1, c2, c3, c4, c5] <;> k_extra "om"
    unfold agree at hag
    have := List.all_eq_true.mp hag _ hmem
    rw [ho] at this
    have hko : kindsO (matP ps) = some (prodOrd (matP ps) [i, j, k, l]) := by simpa using this
    refine ⟨_, hko, Nat.le_trans (prodOrd_le _ _) (by decide), ?_⟩
    rw [hw]
    show _ = ([f i, f j, f k, f l].foldl stepW ([], 1)).2
    rw [ways_fold]
    show (((1 + nb (getM (matP ps) i j)) * (1 + nb (getM (matP ps) i k) + nb (getM (matP ps) j k)) * (1 + nb (getM (matP ps) i l) + nb (getM (matP ps) j l) + nb (getM (matP ps) k l)) : Nat) : Int) = _
    rw [eij, eik, eil, ejk, ejl, ekl]
end
section
noncomputable def rowU (M : Mat) (j i : Nat) : List (Nat × Nat) := ((List.range i).filter fun q => !getM M q j).map fun q => (48 + q, 48 + j)
theorem rowU_succ {M : Mat} {j i : Nat} : rowU M j (i + 1) = rowU M j i ++ if getM M i j = true then [] else [(48 + i, 48 + j)] := by
  unfold rowU
  rw [List.range_succ, List.filter_append, List.map_append]
  congr 1
  cases h : getM M i j <;> simp [h]
theorem rowU_len {M : Mat} {j i : Nat} : (rowU M j i).length ≤ i := by
  unfold rowU
  rw [List.length_map]
  exact Nat.le_trans (List.length_filter_le _ _) (by simp)
theorem rowU0 {M : Mat} {j : Nat} : rowU M j 0 = [] := rfl
noncomputable def tiesUp (M : Mat) (j : Nat) : List (Nat × Nat) := ((List.range j).map fun q => rowU M q q).flatten
theorem tiesUp_succ {M : Mat} {j : Nat} : tiesUp M (j + 1) = tiesUp M j ++ rowU M j j := by
  unfold tiesUp
  rw [List.range_succ, List.map_append, List.flatten_append]
  simp
theorem tiesUp_len {M : Mat} : ∀ {j : Nat}, j ≤ 4 → (tiesUp M j).length ≤ 4 * j
  | 0, _ => Nat.le_refl _
  | j + 1, h => by
    rw [tiesUp_succ, List.length_append]
    have h1 := tiesUp_len (M := M) (j := j) (by k_extra "om")
    have h2 := rowU_len (M := M) (j := j) (i := j)
    k_extra "om"
theorem relay {a b c t p : Addr × Obj} {es nt : List (Addr × Obj)} (h : p ∈ a :: b :: c :: (es ++ (nt ++ [t]))) : p ∈ t :: a :: b :: c :: (es ++ nt) := by
  simp only [List.mem_cons, List.mem_append, List.not_mem_nil, or_false] at h ⊢
  rcases h with h | h | h | h | h | h
  · exact .inr (.inl h)
  · exact .inr (.inr (.inl h))
  · exact .inr (.inr (.inr (.inl h)))
  · exact .inr (.inr (.inr (.inr (.inl h))))
  · exact .inr (.inr (.inr (.inr (.inr h))))
  · exact .inl h
theorem Clear.snoc {I C D : Addr} {t : Addr × Obj} {es nt : List (Addr × Obj)} (h : Clear I C D (es ++ nt)) (h1 : @Ne Nat t.1 I) (h2 : @Ne Nat t.1 C) (h3 : @Ne Nat t.1 D) : Clear I C D (es ++ (nt ++ [t])) := by
  obtain ⟨a, b, c⟩ := h
  refine ⟨fun p hp => ?_, fun p hp => ?_, fun p hp => ?_⟩ <;> rcases List.mem_append.mp hp with hp | hp
  · exact a p (List.mem_append_left _ hp)
  · rcases List.mem_append.mp hp with hp | hp
    · exact a p (List.mem_append_right _ hp)
    · rw [List.mem_singleton.mp hp]; exact h1
  · exact b p (List.mem_append_left _ hp)
  · rcases List.mem_append.mp hp with hp | hp
    · exact b p (List.mem_append_right _ hp)
    · rw [List.mem_singleton.mp hp]; exact h2
  · exact c p (List.mem_append_left _ hp)
  · rcases List.mem_append.mp hp with hp | hp
    · exact c p (List.mem_append_right _ hp)
    · rw [List.mem_singleton.mp hp]; exact h3
theorem str4 {i : Nat} (h : i < 4) : Str.ofString (toString ((i : Nat) : Int)) = ⟨#[48 + i]⟩ := by
  match i, h with
  | 0, _ => decide +kernel
  | 1, _ => decide +kernel
  | 2, _ => decide +kernel
  | 3, _ => decide +kernel
theorem Clear.app {I C D : Addr} {es nt nt7 : List (Addr × Obj)} (h : Clear I C D (es ++ nt)) (h1 : ∀ p ∈ nt7, @Ne Nat p.1 I) (h2 : ∀ p ∈ nt7, @Ne Nat p.1 C) (h3 : ∀ p ∈ nt7, @Ne Nat p.1 D) : Clear I C D (es ++ (nt ++ nt7)) := by
  obtain ⟨a, b, c⟩ := h
  refine ⟨fun p hp => ?_, fun p hp => ?_, fun p hp => ?_⟩ <;> rw [← List.append_assoc] at hp <;> rcases List.mem_append.mp hp with hp | hp
  · exact a p hp
  · exact h1 p hp
  · exact b p hp
  · exact h2 p hp
  · exact c p hp
  · exact h3 p hp
theorem relay2 {i c d r p : Addr × Obj} {es nt nt7 : List (Addr × Obj)} (h : p ∈ i :: c :: d :: (es ++ (nt ++ nt7))) : p ∈ c :: d :: ((r :: i :: (es ++ nt)) ++ nt7) := by
  rw [← List.append_assoc] at h
  rw [List.cons_append, List.cons_append]
  simp only [List.mem_cons] at h ⊢
  rcases h with h | h | h | h
  · exact .inr (.inr (.inr (.inl h)))
  · exact .inl h
  · exact .inr (.inl h)
  · exact .inr (.inr (.inr (.inr h)))
theorem sep_hi {Io a Lk : Nat} {r nt : List (Addr × Obj)} (h1 : AllLt Lk r) (h2 : ∀ p ∈ nt, Nat.lt Io p.1) (h3 : @_root_.LE.le Nat instLENat Lk a) (h4 : @_root_.LE.le Nat instLENat a Io) : ∀ p ∈ r ++ nt, p.1 ≠ a := by
  intro p hp
  rcases List.mem_append.mp hp with hp | hp
  · exact Nat.ne_of_lt (Nat.lt_of_lt_of_le (allLt_lt h1 p hp) h3)
  · exact Nat.ne_of_gt (Nat.lt_of_le_of_lt h4 (h2 p hp))
theorem sep_lo {Io a : Nat} {r nt : List (Addr × Obj)} (h1 : ∀ p ∈ r, p.1 ≠ a) (h2 : ∀ p ∈ nt, Nat.lt Io p.1) (h4 : @_root_.LE.le Nat instLENat a Io) : ∀ p ∈ r ++ nt, p.1 ≠ a := by
  intro p hp
  rcases List.mem_append.mp hp with hp | hp
  · exact h1 p hp
  · exact Nat.ne_of_gt (Nat.lt_of_le_of_lt h4 (h2 p hp))
theorem news_L {h₀ h : Heap} {L : Addr} {l : List (Addr × Obj)} (N : News h₀ L h l) : ∃ L', L' = L := ⟨L, rfl⟩
theorem words_len0 : ∀ k, k < 7 → ((((wordsL 0).take k).map (insAll 0)).flatten).length ≤ 50 := by decide +kernel
theorem words_len1 : ∀ k, k < 7 → ((((wordsL 1).take k).map (insAll 1)).flatten).length ≤ 50 := by decide +kernel
theorem words_len2 : ∀ k, k < 7 → ((((wordsL 2).take k).map (insAll 2)).flatten).length ≤ 50 := by decide +kernel
theorem words_len3 : ∀ k, k < 7 → ((((wordsL 3).take k).map (insAll 3)).flatten).length ≤ 50 := by decide +kernel
theorem app_toS {a b : List Nat} : toS a ++ toS b = toS (a ++ b) := str_app _ _
theorem words_step {ls l1 l2 : List (List Nat)} {l : List Nat} {n p : Nat} (h : ls = l1 ++ l :: l2) (e : l1.length = n) : ((ls.take (n + 1)).map (insAll p)).flatten = ((ls.take n).map (insAll p)).flatten ++ insAll p l := by
  rw [take_snoc h e, List.map_append, List.flatten_append]
  simp
theorem relay3 {i c d r p : Addr × Obj} {es : List (Addr × Obj)} (h : p ∈ i :: c :: d :: es) : p ∈ c :: d :: r :: i :: es := by
  simp only [List.mem_cons] at h ⊢
  rcases h with h | h | h | h
  · exact .inr (.inr (.inr (.inl h)))
  · exact .inl h
  · exact .inr (.inl h)
  · exact .inr (.inr (.inr (.inr h)))
theorem words_fin {acc vs : List Value} {p : Nat} (h : TxAre acc ((((wordsL p).take (cV vs).length).map (insAll p)).flatten)) (e : vs.length = (wordsL p).length) : TxAre acc (wordsL (p + 1)) := by
  rw [show (cV vs).length = (wordsL p).length from (List.length_map _).trans e, List.take_length] at h
  exact h
theorem words_mem0 : ∀ l ∈ wordsL 0, l.length = 0 := by decide +kernel
theorem words_mem1 : ∀ l ∈ wordsL 1, l.length = 1 := by decide +kernel
theorem words_mem2 : ∀ l ∈ wordsL 2, l.length = 2 := by decide +kernel
theorem words_mem3 : ∀ l ∈ wordsL 3, l.length = 3 := by decide +kernel
theorem cR_split {x : Tok → Value} {r : List (Tok → Value)} : ∀ {k : Nat} {a : Int} {done : List (Tok → Value)}, done ++ x :: r = cR a k → done.length < k ∧ x = fun t => .int (a + (done.length : Nat)) t
  | 0, _, [], e => nomatch e
  | 0, _, d :: done, e => nomatch e
  | k + 1, a, [], e => by
    injection e with e1 e2
    refine ⟨Nat.succ_pos _, ?_⟩
    rw [e1]
    funext t
    simp
  | k + 1, a, d :: done, e => by
    injection e with e1 e2
    obtain ⟨h1, h2⟩ := cR_split e2
    refine ⟨Nat.succ_lt_succ h1, ?_⟩
    rw [h2]
    funext t
    rw [List.length_cons]
    congr 1
    k_extra "om"
theorem cR0_split {x : Tok → Value} {r : List (Tok → Value)} {k : Nat} {done : List (Tok → Value)} (h : done ++ x :: r = cR 0 k) : done.length < k ∧ x = fun t => .int (done.length : Int) t := by
  obtain ⟨h1, h2⟩ := cR_split h
  refine ⟨h1, h2.trans ?_⟩
  funext t
  rw [Int.zero_add]
theorem cR_length : ∀ (k : Nat) (a : Int), (cR a k).length = k
  | 0, _ => rfl
  | k + 1, a => by show (cR (a + 1) k).length + 1 = k + 1; rw [cR_length k]
theorem ties_is (M : Mat) : tiesUp M 4 = tiesM M := by
  unfold tiesUp tiesM rowU
  simp only [show List.range 4 = [0, 1, 2, 3] from rfl, show List.range 0 = [] from rfl, show List.range 1 = [0] from rfl, show List.range 2 = [0, 1] from rfl, show List.range 3 = [0, 1, 2] from rfl, List.map_cons, List.map_nil, List.flatten_cons, List.flatten_nil, List.filter_cons, List.filter_nil]
  cases getM M 0 1 <;> cases getM M 0 2 <;> cases getM M 1 2 <;> cases getM M 0 3 <;> cases getM M 1 3 <;> cases getM M 2 3 <;> rfl
theorem ok_mem {w : List Nat} (h : wordOk w = true) : w ∈ wordsL 4 := by
  unfold wordOk at h
  simp only [Bool.and_eq_true] at h
  obtain ⟨h1, h2, h3⟩ := h
  have hb0 : ((List.range 4).all fun a => (List.range 4).all fun b => (List.range 4).all fun c => (List.range 4).all fun d => !wordOk [48 + a, 48 + b, 48 + c, 48 + d] || (wordsL 4).contains [48 + a, 48 + b, 48 + c, 48 + d]) = true := by decide +kernel
  have hl : w.length = 4 := Nat.eq_of_beq_eq_true h1
  match w, hl with
  | [a, b, c, d], _ =>
    have hm : ∀ z ∈ [a, b, c, d], 48 ≤ z ∧ z < 52 := fun z hz => by
      have := List.all_eq_true.mp h2 z hz
      simpa [Nat.ble_eq, Nat.blt_eq] using this
    obtain ⟨ha, ha2⟩ := hm a (by simp)
    obtain ⟨hb, hb2⟩ := hm b (by simp)
    obtain ⟨hc, hc2⟩ := hm c (by simp)
    obtain ⟨hd, hd2⟩ := hm d (by simp)
    obtain ⟨a, rfl⟩ := Nat.exists_eq_add_of_le ha
    obtain ⟨b, rfl⟩ := Nat.exists_eq_add_of_le hb
    obtain ⟨c, rfl⟩ := Nat.exists_eq_add_of_le hc
    obtain ⟨d, rfl⟩ := Nat.exists_eq_add_of_le hd
    have h4 := List.all_eq_true.mp (List.all_eq_true.mp (List.all_eq_true.mp (List.all_eq_true.mp hb0 a (List.mem_range.mpr (by k_extra "om"))) b (List.mem_range.mpr (by k_extra "om"))) c (List.mem_range.mpr (by k_extra "om"))) d (List.mem_range.mpr (by k_extra "om"))
    have h5 : wordOk [48 + a, 48 + b, 48 + c, 48 + d] = true := by
      unfold wordOk
      simp only [Bool.and_eq_true]
      exact ⟨h1, h2, h3⟩
    rw [h5] at h4
    simpa using h4
theorem sign_all : ((wordsL 4).all fun w => [(0, 1), (0, 2), (1, 2), (0, 3), (1, 3), (2, 3)].all fun p => Nat.beq (tieSign w (48 + p.1, 48 + p.2)) (signL w (48 + p.1, 48 + p.2))) = true := by decide +kernel
theorem shape_is {w : List Nat} (h : w ∈ wordsL 4) (M : Mat) : shapeP w (tiesUp M 4) = shapeL w (tiesM M) := by
  rw [ties_is]
  unfold shapeP shapeL
  refine List.map_congr_left fun p hp => ?_
  obtain ⟨q, hq, rfl⟩ := List.mem_map.mp hp
  exact Nat.eq_of_beq_eq_true (List.all_eq_true.mp (List.all_eq_true.mp sign_all w h) q (List.mem_filter.mp hq).1)
end
section
/-- parts of a def, picked by place -/
noncomputable def bodyS : Stmt → List Stmt
  | .FunctionDef _ _ b _ _ _ _ _ _ _ => b
  | .For _ _ b _ _ => b
  | .While _ b _ _ => b
  | .If _ b _ _ => b
  | _ => []
noncomputable def scopeS : Stmt → Scope
  | .FunctionDef _ _ _ _ _ _ sc _ _ _ => sc
  | _ => ⟨.function, [], false, false, []⟩
noncomputable def scK : Scope := scopeS (topS 24)
noncomputable def kS (i : Nat) : Stmt := nthS (bodyS (topS 24)) i
noncomputable def ifS : Stmt := nthS (bodyS (kS 3)) 0
noncomputable def whileS : Stmt := nthS (bodyS ifS) 4
noncomputable def spotS : Stmt := nthS (bodyS whileS) 1
theorem Off.kst2 {stored st5 : List Str} {m₀ m1 u : Str → Option Value} {ps : List (Str × Value)} (h : (ps.all fun p => stored.contains p.1) = true) (h5 : (st5.all fun z => stored.contains z) = true) (o : Off stored m₀ m1) :
    Off stored m₀ (kstB (fun z => if st5.contains z then u z else m1 z) ps) := fun z hz => by
  refine (kst_off fun p hp e => ?_).trans ?_
  · have := List.all_eq_true.mp h p hp
    rw [← e, hz] at this
    cases this
  · cases h6 : st5.contains z with
    | false => exact (if_neg Bool.false_ne_true).trans (o z hz)
    | true =>
      have hm : z ∈ st5 := by simpa using h6
      have := List.all_eq_true.mp h5 z hm
      rw [hz] at this
      cases this
theorem kst_same {m : Str → Option Value} : ∀ {ps : List (Str × Value)}, Has m ps → kstB m ps = m
  | [], _ => rfl
  | p :: r, h => by
    funext z
    show (if z = p.1 then some p.2 else kstB m r z) = m z
    by_cases e : z = p.1
    · rw [if_pos e, e]; exact (h p (.head _)).symm
    · rw [if_neg e, kst_same fun q hq => h q (.tail _ hq)]
/-- two addresses that differ, hidden from k_extra "om" -/
noncomputable def Apart (a b : Nat) : Prop := a ≠ b
theorem Apart.ne {a b : Nat} (h : Apart a b) : @Ne Nat a b := h
theorem Apart.en {a b : Nat} (h : Apart a b) : @Ne Nat b a := fun e => h e.symm
theorem words_lenj : ∀ p, p < 4 → ∀ k, k < 7 → ((((wordsL p).take k).map (insAll p)).flatten).length ≤ 50 := by decide +kernel
theorem words_memj : ∀ p, p < 4 → ∀ l ∈ wordsL p, l.length = p := by decide +kernel
theorem words_len6 : ∀ p, p < 4 → (wordsL p).length ≤ 6 := by decide +kernel
section
variable {prog : Program} {w : World} {A : Around} {E : Value → Shared → Prop} {s : Shared} {Q : Value → Shared → Prop}
theorem add_r2 {x y : Str} {a b c : List Nat} {t u : Tok} (ex : x = toS a) (ey : y = toS b) (ec : a ++ b = c) (hz : a.length + b.length ≤ 10000) (h : ∀ t' tk, Q (.str (toS c) t') { s with toks := tk }) : wpAny (model prog w) A (binaryOp .Add (.str x t) (.str y u)) Q E s := by
  subst ex; subst ey; subst ec
  exact add_r hz h
theorem truthy_ne {c : Nat} {r : List Nat} {t : Tok} {Q : Bool → Shared → Prop} (hl : (c :: r).length ≤ 1000) (h : ∀ k, Q true { s with toks := k }) : wpAny (model prog w) A (truthy (.str (toS (c :: r)) t)) Q E s :=
  KXt.truthy_pos (K := 16777216) (x := toS (c :: r)) (Nat.succ_le_succ (Nat.zero_le _)) (by show (c :: r).length ≤ _; k_extra "om") (Nat.le_refl _) h
theorem truthy_nil {t : Tok} {Q : Bool → Shared → Prop} (h : ∀ k, Q false { s with toks := k }) : wpAny (model prog w) A (truthy (.str (toS []) t)) Q E s :=
  KXt.truthy (x := toS []) rfl (Nat.zero_le _) h
theorem range_r1 {h₀ : Heap} {L : Addr} {m : Str → Option Value} {news : List (Addr × Obj)} {n : Nat} {t : Tok} {Q : Value → Shared → Prop} (F : Fr h₀ L s.heap m) (N : News h₀ L s.heap news)
    (h : ∀ D h' tk a c, Fr h₀ L h' m → News h₀ L h' ((D, rangeO ((n + 1 : Nat) : Int) a t c) :: news) → (∀ p ∈ news, p.1 < D) → Q (.ref D) { s with heap := h', toks := tk }) :
    wpAny (model prog w) A (call (.type "range") [.int ((n : Int) + 1) t]) Q E s := range_r (n := n + 1) F N h
theorem char_r {value slice : PySem.Expr} {t u : Tok} {wd : List Nat} {j c : Nat} {i : Int} (hi : i = (j : Int)) (hj : j < wd.length) (hc : wd.getD j 0 = c) (hz : wd.length ≤ 100) (h : ∀ t' tk, Q (.str (toS [c]) t') { s with toks := tk })
    (hs : subscripted slice false (.str (toS wd) t) (.int i u) = operate [.str (toS wd) t, .int i u] (getItem (.str (toS wd) t) (.int i u)) := by with_unfolding_all rfl)
    (ht : ∀ r, letTemporaryGo value (.str (toS wd) t) r = pure () := by intro _; with_unfolding_all rfl) :
    wpAny (model prog w) A (subscriptTail value slice (.str (toS wd) t) (.int i u)) Q E s := by
  have hL : (toS wd).length = wd.length := rfl
  refine KXi.item (n := wd.length) hL (by k_extra "om") (by k_extra "om") (by k_extra "om") (fun _ => ?_) hs ht
  have e : Txt.item (toS wd) i = toS [c] := by
    subst hi
    subst hc
    have hi : seqIndex? (j : Int) wd.length = some j := by
      unfold seqIndex?
      have h1 : ¬ ((j : Int) < 0) := by k_extra "om"
      have h2 : (j : Int) < (wd.length : Int) := by k_extra "om"
      simp [h1, h2] <;> k_extra "om"
    unfold Txt.item Txt.charAt
    simp [toS, Str.length, hj, hi]
  rw [e]
  exact h _ _
theorem char_r1 {value slice : PySem.Expr} {t u : Tok} {wd : List Nat} {j c : Nat} (hj : j + 1 < wd.length) (hc : wd.getD (j + 1) 0 = c) (hz : wd.length ≤ 100) (h : ∀ t' tk, Q (.str (toS [c]) t') { s with toks := tk })
    (hs : subscripted slice false (.str (toS wd) t) (.int ((j : Int) + 1) u) = operate [.str (toS wd) t, .int ((j : Int) + 1) u] (getItem (.str (toS wd) t) (.int ((j : Int) + 1) u)) := by with_unfolding_all rfl)
    (ht : ∀ r, letTemporaryGo value (.str (toS wd) t) r = pure () := by intro _; with_unfolding_all rfl) :
    wpAny (model prog w) A (subscriptTail value slice (.str (toS wd) t) (.int ((j : Int) + 1) u)) Q E s :=
  char_r (j := j + 1) (by k_extra "om") hj hc hz h hs ht
theorem digit_r {a : Nat} {t : Tok} (ha : a < 4) (h : ∀ t' tk, Q (.int (a : Int) t') { s with toks := tk }) : wpAny (model prog w) A (call (.type "int") [.str (toS [48 + a]) t]) Q E s := by
  refine KIN.call_text (n := (a : Int)) ?_ (by show 1 ≤ 640; decide) (h _ _)
  match a, ha with
  | 0, _ => decide +kernel
  | 1, _ => decide +kernel
  | 2, _ => decide +kernel
  | 3, _ => decide +kernel
end
theorem sub_step {n j : Nat} (h : j ≤ n) (hn : j ≠ n) : ∃ r, n - j = r + 1 ∧ n - (j + 1) = r ∧ j < n :=
  have hlt := Nat.lt_of_le_of_ne h hn
  ⟨n - (j + 1), (Nat.succ_pred_eq_of_pos (Nat.sub_pos_of_lt hlt)).symm, rfl, hlt⟩
theorem take_le {l : List Nat} {k : Nat} : (l.take k).length ≤ l.length := by
  rw [List.length_take]; exact Nat.min_le_right _ _
theorem drop_le {l : List Nat} {k : Nat} : (l.drop k).length ≤ l.length := by
  rw [List.length_drop]; exact Nat.sub_le _ _
theorem room_a {l : List Nat} {k c : Nat} (h : l.length ≤ 100) : (l.take k).length + [c].length ≤ 10000 := by
  have h1 := take_le (l := l) (k := k)
  rw [List.length_singleton]
  k_extra "om"
theorem room_b {l : List Nat} {k c e : Nat} (h : l.length ≤ 100) : (l.take k ++ [c]).length + [e].length ≤ 10000 := by
  have h1 := take_le (l := l) (k := k)
  rw [List.length_append, List.length_singleton, List.length_singleton]
  k_extra "om"
theorem room_c {l : List Nat} {k k2 c e : Nat} (h : l.length ≤ 100) : (l.take k ++ [c] ++ [e]).length + (l.drop k2).length ≤ 10000 := by
  have h1 := take_le (l := l) (k := k)
  have h2 := drop_le (l := l) (k := k2)
  rw [List.length_append, List.length_append, List.length_singleton, List.length_singleton]
  k_extra "om"
theorem room_d {l : List Nat} {k c : Nat} (h : l.length ≤ 100) : (l.take k ++ [c]).length + (l.drop k).length ≤ 10000 := by
  have h1 := take_le (l := l) (k := k)
  have h2 := drop_le (l := l) (k := k)
  rw [List.length_append, List.length_singleton]
  k_extra "om"
end
section
variable {w : World} {mean : ExcName → Option Value} {mg mb : Str → Option Value} {dp un : Nat} {gd : Option (List Code)} {cn : Str} {cs : Scope} {L a : Addr} {ccd : Value} {cl : List (Str × Addr)} {outer : List Env}
   {A₀ : Around} {base h₀ : Heap} {m : Str → Option Value} {s : Shared} {Q E : Value → Shared → Prop}
open G0 G3 G4 G8 G10 G11 G21 G23 G32 G34 G37 G49
noncomputable def spotsF (M : Mat) (wd : List Nat) : Nat → Nat → KS → Option KS
  | 0, _, st => some st
  | r + 1, j, st => (spotO M wd j st).bind (spotsF M wd r (j + 1))
theorem spotsF_is (M : Mat) (wd : List Nat) (st : KS) : spotsF M wd 3 0 st = spotsO M wd st := by
  unfold spotsO
  show (spotO M wd 0 st).bind _ = _
  congr 1; funext st
  show (spotO M wd 1 st).bind _ = _
  congr 1; funext st
  show (spotO M wd 2 st).bind some = _
  cases spotO M wd 2 st <;> rfl
theorem word_sign {wd : List Nat} (h : wordOk wd = true) {j : Nat} (hj : j < 4) : ∃ a, a < 4 ∧ wd.getD j 0 = 48 + a := by
  unfold wordOk at h
  simp only [Bool.and_eq_true] at h
  obtain ⟨h1, h2, h3⟩ := h
  have hl : wd.length = 4 := Nat.eq_of_beq_eq_true h1
  have hm := List.all_eq_true.mp h2 wd[j] (List.getElem_mem _)
  rw [Bool.and_eq_true, Nat.ble_eq, Nat.blt_eq] at hm
  refine ⟨wd[j] - 48, by k_extra "om", ?_⟩
  rw [getD_at (by k_extra "om")]
  k_extra "om"
theorem swapK2 {a b p : Addr × Obj} {r : List (Addr × Obj)} (h : p ∈ a :: b :: r) : p ∈ b :: a :: r := by
  rcases List.mem_cons.mp h with h | h
  · exact .tail _ (by rw [h]; exact .head _)
  · rcases List.mem_cons.mp h with h | h
    · rw [h]; exact .head _
    · exact .tail _ (.tail _ h)
theorem rot5 {i o a b c p : Addr × Obj} {r : List (Addr × Obj)} (h : p ∈ i :: o :: a :: b :: c :: r) : p ∈ a :: b :: c :: o :: i :: r := by
  simp only [List.mem_cons] at h ⊢
  rcases h with h | h | h | h | h | h
  · exact .inr (.inr (.inr (.inr (.inl h))))
  · exact .inr (.inr (.inr (.inl h)))
  · exact .inl h
  · exact .inr (.inl h)
  · exact .inr (.inr (.inl h))
  · exact .inr (.inr (.inr (.inr (.inr h))))
theorem ar_j {j n : Nat} (h : j ≤ 3) (hn : ¬ j = 3) (hz : n ≤ 50 + j) : j + 1 ≤ 3 ∧ 3 - (j + 1) < 3 - j ∧ n ≤ 50 + (j + 1) ∧ n + 1 ≤ 50 + (j + 1) := by k_extra "om"
theorem newO_cases (ks : List (List Nat)) (x : List Nat) : newO ks x = none ∨ (∃ ks2, newO ks x = some (false, ks2)) ∨ ∃ ks2, newO ks x = some (true, ks2) := by
  cases newO ks x with
  | none => exact .inl rfl
  | some p =>
    obtain ⟨b, ks2⟩ := p
    cases b
    · exact .inr (.inl ⟨ks2, rfl⟩)
    · exact .inr (.inr ⟨ks2, rfl⟩)
structure SpotS where
  (io : Obj) (j : Nat) (vs1 : List Value) (n1 : Nat) (ks : List (List Nat)) (ps : List Value) (n3 n2 : Nat) (pbl : List (List Nat))
theorem kw_spot {x d S ob o1 : Addr} {LT : LexT} {vs bs : List Value} {ln : Int} {tl : Tok} {nb : Nat} {o2 : Obj} {bl : List (Int × Int)} {M : Mat} {rr : List (Addr × Obj)} {vs1 ps : List Value} {n1 n2 n3 : Nat} {ks pbl : List (List Nat)} {wd : List Nat} {kw : Tok} {fin : KS} {sc : Scope} {st : Stmt} {Lk : Addr} {g : Heap} {m1 : Str → Option Value} {Qf : Flow → Shared → Prop} (hsc : sc = scK)
   (B : Below (ktrTop dp un gd cn cs L a ccd cl outer) base (envX cn cs L a ccd cl :: outer) g) (F : Fr g Lk s.heap m1) (X : (K w.params).In g) (N : News g Lk s.heap ((o1, listO vs1 n1) :: (LT.pb, listO ps n3) :: (d, lexDict w LT ln tl) :: (S, listO vs n2) :: rr))
   (T : Top topProg LL mean mg mb g) (hdp : dp + 120 < recursionLimit) (hu : un + 1200 < cLine) (hst : st = spotS)
   (LX : LexAt w rr x d S LT) (hln : 0 ≤ ln) (hlu : ln < 50000) (hob : (ob, listO bs nb) ∈ rr) (hcb : (Lk + 1, o2) ∈ rr) (hcd : o2.data = Data.cell (some (.ref ob))) (hbl : PairsAt rr bs bl) (hbz : bl.length = 4)
   (hM : ∀ i j, i < 4 → j < 4 → getM M i j = apP bl i j) (e1 : ∀ p ∈ rr, p.1 ≠ o1) (e2 : ∀ p ∈ rr, p.1 ≠ LT.pb) (e3 : ∀ p ∈ rr, p.1 ≠ d) (e4 : ∀ p ∈ rr, p.1 ≠ S) (e5 : Apart o1 LT.pb) (e6 : Apart o1 d) (e7 : Apart o1 S) (e8 : Apart LT.pb d) (e9 : Apart LT.pb S) (e0 : Apart d S)
   (hk : Has m1 [(Str.ofString "word", .str (toS wd) kw), (Str.ofString "seen", .ref o1), (Str.ofString "line", .ref x)])
   (hw : wordOk wd = true) (hi : TxAre vs1 ks) (hp : TxAre ps pbl) (hz : pbl.length ≤ 50) (hf : spotsO M wd (ks, pbl) = some fin)
   (hret : ∀ vs1 ps n1 n2 n3 h' tk' (u : Str → Option Value), fin.2.length ≤ 53 → TxAre vs1 fin.1 → TxAre ps fin.2 → Fr g Lk h' (kstB (fun z => if [Str.ofString "spot", Str.ofString "other", Str.ofString "word", Str.ofString "seen", Str.ofString "line"].contains z then u z else m1 z) [(Str.ofString "word", .str (toS wd) kw), (Str.ofString "seen", .ref o1), (Str.ofString "line", .ref x)]) → News g Lk h' ((o1, listO vs1 n1) :: (LT.pb, listO ps n3) :: (d, lexDict w LT ln tl) :: (S, listO vs n2) :: rr) → Qf .next { s with heap := h', toks := tk' }) : wpAny (model PP w) ((ktrTop dp un gd cn cs L a ccd cl outer).deeper (envOfC (Str.ofString "_law_kinds") sc Lk 311 (.ref 310))) (exec st (envOfC (Str.ofString "_law_kinds") sc Lk 311 (.ref 310))) Qf (fun e s' => wpAny (model PP w) ((ktrTop dp un gd cn cs L a ccd cl outer).deeper (envOfC (Str.ofString "_law_kinds") sc Lk 311 (.ref 310))) (leaving (envOfC (Str.ofString "_law_kinds") sc Lk 311 (.ref 310)) e) (fun _ s'' => E e s'') (fun e' s'' => E e' s'') s') s := by
  conv at hsc => rhs; whnf
  conv at hst => rhs; whnf
  subst hsc; subst hst
  obtain ⟨d1, f, c', C, pb1, oc, oC, q, t0, t1, t2, t3, t4, t5, tw, n4, ws, t9, doc, pm, ctv, a1, a2, a3, a4, a5, a6, a7, a8, a9⟩ := id LX
  have b1 : Apart x o1 := e1 _ a1
  have b2 : Apart x LT.pb := e2 _ a1
  have b3 : Apart x d := e3 _ a1
  have b4 : Apart x S := e4 _ a1
  have b5 : Apart ob o1 := e1 _ hob
  have b6 : Apart ob LT.pb := e2 _ hob
  have b7 : Apart ob d := e3 _ hob
  have b8 : Apart ob S := e4 _ hob
  have c1 : Apart (Lk + 1) o1 := e1 _ hcb
  have c2 : Apart (Lk + 1) LT.pb := e2 _ hcb
  have c3 : Apart (Lk + 1) d := e3 _ hcb
  have c4 : Apart (Lk + 1) S := e4 _ hcb
  replace N : News g Lk s.heap ((o1, listO vs1 n1) :: (LT.pb, listO ps n3) :: (d, lexDict w LT ln tl) :: (S, listO vs n2) :: (x, instObj 245 d) :: (ob, listO bs nb) :: (Lk + 1, o2) :: rr) := fun p hp => by
    simp only [List.mem_cons] at hp
    apply N
    simp only [List.mem_cons]
    rcases hp with h | h | h | h | h | h | h | h
    · exact .inl h
    · exact .inr (.inl h)
    · exact .inr (.inr (.inl h))
    · exact .inr (.inr (.inr (.inl h)))
    · rw [h]; exact .inr (.inr (.inr (.inr a1)))
    · rw [h]; exact .inr (.inr (.inr (.inr hob)))
    · rw [h]; exact .inr (.inr (.inr (.inr hcb)))
    · exact .inr (.inr (.inr (.inr h)))
  dsimp only [lexDict] at N
  have hwl : wd.length = 4 := by
    unfold wordOk at hw
    rw [Bool.and_eq_true] at hw
    exact Nat.eq_of_beq_eq_true hw.1
  refine for_in ?_
  k_steps
  k_extra "mine held"
  k_dflt (refine' mk_iter_range ?Fy ?Ny ?my ?zy ?_; (case Fy => k_asm); (case Ny => k_asm); (case my => k_extra "mine mem"); (case zy => exact Nat.le_of_ble_eq_true rfl); intro Io ho ioo Yo Fo No lo; (try k_lt lo))
  try dsimp only
  rw [← spotsF_is] at hf
  have N5 : News g Lk ho ((Io, ioo) :: (o1, listO vs1 n1) :: (LT.pb, listO ps n3) :: (d, lexDict w LT ln tl) :: (S, listO vs n2) :: (x, instObj 245 d) :: (ob, listO bs nb) :: (Lk + 1, o2) :: rr) := by k_extra "mine news"
  k_dflt (refine for_rc (σ := SpotS) _ (fun c cst => (Io, c.io) :: (o1, listO c.vs1 c.n1) :: (LT.pb, listO c.ps c.n3) :: (d, lexDict w LT ln tl) :: (S, listO vs c.n2) :: cst) (fun c => [(Str.ofString "word", .str (toS wd) kw), (Str.ofString "seen", .ref o1), (Str.ofString "line", .ref x)]) [Str.ofString "spot", Str.ofString "other", Str.ofString "word", Str.ofString "seen", Str.ofString "line"] (fun c => Yields PP w [] Io (cR (c.j : Int) (3 - c.j)) c.io ∧ TxAre c.vs1 c.ks ∧ TxAre c.ps c.pbl ∧ spotsF M wd (3 - c.j) c.j (c.ks, c.pbl) = some fin ∧ c.j ≤ 3 ∧ c.pbl.length ≤ 50 + c.j) (fun c => 3 - c.j) ⟨ioo, 0, _, _, ks, _, _, _, pbl⟩ (by k_asm) N5 (fun p h => h) (by assumption) ⟨Yo, hi, hp, hf, Nat.zero_le _, hz⟩ ?turn)
  rintro ⟨io, j, ws1, k1, ks1, qs, k3, k2, pb1⟩ u h tk ⟨Y, hi1, hp1, hf1, hj3, hz1⟩ Fc Nc
  dsimp only at Y hi1 hp1 hf1 hj3 hz1 Fc Nc ⊢
  clear hi hp hf N5 No Yo
  by_cases hj : j = 3
  · subst hj
    have Y' : Yields PP w [] Io [] io := Y
    clear Y
    have hf2 : some (ks1, pb1) = some fin := hf1
    injection hf2 with hf2
    subst hf2
    k_extra "mine yend"
    refine hret _ _ _ _ _ _ _ _ hz1 hi1 hp1 (by k_asm) (by k_extra "mine news")
  · obtain ⟨r, hr, hr2, hj3'⟩ := sub_step hj3 hj
    rw [hr] at Y hf1
    have Y' : Yields PP w [] Io ((fun t => .int (j : Int) t) :: cR ((j + 1 : Nat) : Int) r) io := Y
    clear Y
    have hj4 : j + 1 < 4 := Nat.succ_lt_succ hj3'
    have hwl : wd.length = 4 := by assumption
    have hw100 : wd.length ≤ 100 := hwl ▸ (by decide)
    obtain ⟨ar1, ar2, ar3, ar4⟩ := ar_j hj3 hj hz1
    obtain ⟨OT, hOT⟩ : ∃ l, wd.take j ++ ([wd.getD (j + 1) 0] ++ ([wd.getD j 0] ++ wd.drop (j + 2))) = l := ⟨_, rfl⟩
    obtain ⟨a0, ha0, ea0⟩ := word_sign hw (j := j) (Nat.lt_of_succ_lt hj4)
    obtain ⟨a1', ha1, ea1⟩ := word_sign hw (j := j + 1) hj4
    have hg : getM M a0 a1' = (decide ((bl.getD ((a0 : Nat) : Int).toNat (0, 0)).2 ≤ (bl.getD ((a1' : Nat) : Int).toNat (0, 0)).1) || decide ((bl.getD ((a1' : Nat) : Int).toNat (0, 0)).2 ≤ (bl.getD ((a0 : Nat) : Int).toNat (0, 0)).1)) := hM a0 a1' ha0 ha1
    have hs1 : (spotO M wd j (ks1, pb1)).bind (spotsF M wd r (j + 1)) = some fin := hf1
    clear hf1
    have hs2 : spotO M wd j (ks1, pb1) = if getM M a0 a1' then (match newO ks1 OT with
        | none => none
        | some (true, ks) => some (ks, pb1 ++ [OT])
        | some (false, ks) => some (ks, pb1)) else some (ks1, pb1) := by
      rw [← hOT]
      unfold spotO
      rw [ea0, ea1, Nat.add_sub_cancel_left, Nat.add_sub_cancel_left]
      rfl
    rw [ea0, ea1] at hOT
    have hYn : ∀ io, Yields PP w [] Io (cR ((j + 1 : Nat) : Int) r) io → Yields PP w [] Io (cR ((j + 1 : Nat) : Int) (3 - (j + 1))) io := fun io h => by rw [hr2]; exact h
    k_extra "mine ynext"
    have Yn := hYn _ (by assumption)
    k_steps
    rotate_left
    · rename (_ || _) = false => hap
      rw [hap] at hg
      rw [hs2, hg, if_neg (by decide)] at hs1
      refine WEnd.intro ⟨_, j + 1, _, _, ks1, _, _, _, pb1⟩ (by k_asm) (by k_asm) (fun p h => h) (by k_extra "mine has") (by k_extra "mine off") ⟨⟨Yn, hi1, hp1, ?_, ?_, ?_⟩, ?_⟩
      · rw [hr2]; exact hs1
      · exact ar1
      · exact ar3
      · exact ar2
    · rename (_ || _) = true => hap
      rw [hap] at hg
      rw [hs2, hg, if_pos rfl] at hs1
      refine Hold.out ?_
      try k_unmd
      refine add_r2 (slice_to (l := wd) (k := j) (Nat.le_of_lt (hwl ▸ Nat.lt_of_succ_lt hj4))) rfl rfl (room_a hw100) fun t5 tk5 => ?_
      k_steps
      refine Hold.out ?_
      try k_unmd
      refine add_r2 rfl rfl rfl (room_b hw100) fun t6 tk6 => ?_
      k_steps
      refine Hold.out ?_
      try k_unmd
      refine add_r2 (c := OT) rfl (slice_from (l := wd) (k := j + 2) (hwl ▸ hj4)) (by rw [← hOT, List.append_assoc, List.append_assoc]) (room_c hw100) fun t7 tk7 => ?_
      have hpl := hp1.length
      rcases newO_cases ks1 OT with hno | ⟨ks2, hno⟩ | ⟨ks2, hno⟩
      · rw [hno] at hs1; cases hs1
      · rw [hno] at hs1
        k_steps
        refine WEnd.intro ⟨_, j + 1, _, _, ks2, _, _, _, pb1⟩ (by k_asm) (by k_asm) (fun p h => swapK2 h) (by k_extra "mine has") (by k_extra "mine off") ⟨⟨Yn, by assumption, hp1, ?_, ?_, ?_⟩, ?_⟩
        · rw [hr2]; exact hs1
        · exact ar1
        · exact ar3
        · exact ar2
      · rw [hno] at hs1
        k_steps
        refine WEnd.intro ⟨_, j + 1, _, _, ks2, _, _, _, pb1 ++ [OT]⟩ (by k_asm) (by k_asm) (fun p h => rot5 h) (by k_extra "mine has") (by k_extra "mine off") ⟨⟨Yn, by assumption, hp1.append (.cons _ _ .nil), ?_, ?_, ?_⟩, ?_⟩
        · rw [hr2]; exact hs1
        · exact ar1
        · dsimp only; rw [List.length_append, List.length_singleton]; exact ar4
        · exact ar2
end
section
variable {w : World} {mean : ExcName → Option Value} {mg mb : Str → Option Value} {dp un : Nat} {gd : Option (List Code)} {cn : Str} {cs : Scope} {L a : Addr} {ccd : Value} {cl : List (Str × Addr)} {outer : List Env}
   {A₀ : Around} {base h₀ : Heap} {m : Str → Option Value} {s : Shared} {Q E : Value → Shared → Prop}
open G0 G3 G4 G8 G10 G11 G22 G24 G32 G34 G37 G49
theorem opt_cases {α : Type} (o : Option α) : o = none ∨ ∃ v, o = some v := by
  cases o with
  | none => exact .inl rfl
  | some v => exact .inr ⟨v, rfl⟩
theorem led_more {A B C D X O P p : Addr × Obj} {rr : List (Addr × Obj)} (hx : X ∈ rr) (ho : O ∈ rr) (hc : P ∈ rr) (h : p ∈ A :: B :: C :: D :: X :: O :: P :: rr) : p ∈ A :: B :: C :: D :: rr := by
  simp only [List.mem_cons] at h ⊢
  rcases h with h | h | h | h | h | h | h | h
  · exact .inl h
  · exact .inr (.inl h)
  · exact .inr (.inr (.inl h))
  · exact .inr (.inr (.inr (.inl h)))
  · rw [h]; exact .inr (.inr (.inr (.inr hx)))
  · rw [h]; exact .inr (.inr (.inr (.inr ho)))
  · rw [h]; exact .inr (.inr (.inr (.inr hc)))
  · exact .inr (.inr (.inr (.inr h)))
theorem rot4 {o a b c p : Addr × Obj} {r : List (Addr × Obj)} (h : p ∈ o :: a :: b :: c :: r) : p ∈ a :: b :: c :: o :: r := by
  simp only [List.mem_cons] at h ⊢
  rcases h with h | h | h | h | h
  · exact .inr (.inr (.inr (.inl h)))
  · exact .inl h
  · exact .inr (.inl h)
  · exact .inr (.inr (.inl h))
  · exact .inr (.inr (.inr (.inr h)))
structure WhileS where
  (f : Nat) (wd : List Nat) (kw : Tok) (vs1 : List Value) (n1 : Nat) (ks : List (List Nat)) (ps : List Value) (n3 n2 : Nat) (pbl : List (List Nat))
theorem kw_while {x d S ob o1 : Addr} {LT : LexT} {vs bs : List Value} {ln : Int} {tl : Tok} {nb : Nat} {o2 : Obj} {bl : List (Int × Int)} {M : Mat} {rr : List (Addr × Obj)} {vs1 ps tvs : List Value} {n1 n2 n3 tn f0 : Nat} {ks pbl fin : List (List Nat)} {wd sh : List Nat} {kw ks0 : Tok} {ot : Addr} {sc : Scope} {st : Stmt} {Lk : Addr} {g : Heap} {m1 : Str → Option Value} {Qf : Flow → Shared → Prop} (hsc : sc = scK)
   (B : Below (ktrTop dp un gd cn cs L a ccd cl outer) base (envX cn cs L a ccd cl :: outer) g) (F : Fr g Lk s.heap m1) (X : (K w.params).In g) (N : News g Lk s.heap ((o1, listO vs1 n1) :: (LT.pb, listO ps n3) :: (d, lexDict w LT ln tl) :: (S, listO vs n2) :: rr))
   (T : Top topProg LL mean mg mb g) (hdp : dp + 120 < recursionLimit) (hu : un + 1200 < cLine) (hst : st = whileS)
   (LX : LexAt w rr x d S LT) (hln : 0 ≤ ln) (hlu : ln < 50000) (hob : (ob, listO bs nb) ∈ rr) (hcb : (Lk + 1, o2) ∈ rr) (hcd : o2.data = Data.cell (some (.ref ob))) (hbl : PairsAt rr bs bl) (hbz : bl.length = 4)
   (hM : ∀ i j, i < 4 → j < 4 → getM M i j = apP bl i j) (e1 : ∀ p ∈ rr, p.1 ≠ o1) (e2 : ∀ p ∈ rr, p.1 ≠ LT.pb) (e3 : ∀ p ∈ rr, p.1 ≠ d) (e4 : ∀ p ∈ rr, p.1 ≠ S) (e5 : Apart o1 LT.pb) (e6 : Apart o1 d) (e7 : Apart o1 S) (e8 : Apart LT.pb d) (e9 : Apart LT.pb S) (e0 : Apart d S) (CH : CodeHd base 255 251) (hl : LeftIs vs []) (hot : (ot, listO tvs tn) ∈ rr) (hT : TiesAt rr tvs (tiesUp M 4))
   (hk : Has m1 [(Str.ofString "word", .str (toS wd) kw), (Str.ofString "seen", .ref o1), (Str.ofString "line", .ref x), (Str.ofString "shape", .str (toS sh) ks0), (Str.ofString "ties", .ref ot)])
   (hi : TxAre vs1 ks) (hp : TxAre ps pbl) (hf : whileO M (tiesM M) sh f0 wd (ks, pbl) = some fin)
   (hret : ∀ vs1 n1 n2 n3 h' tk' (u : Str → Option Value) kw, TxAre vs1 fin → Fr g Lk h' (kstB (fun z => if [Str.ofString "spot", Str.ofString "other", Str.ofString "word", Str.ofString "seen", Str.ofString "line", Str.ofString "shape", Str.ofString "ties"].contains z then u z else m1 z) [(Str.ofString "word", .str (toS []) kw), (Str.ofString "seen", .ref o1), (Str.ofString "line", .ref x), (Str.ofString "shape", .str (toS sh) ks0), (Str.ofString "ties", .ref ot)]) → News g Lk h' ((o1, listO vs1 n1) :: (LT.pb, listO [] n3) :: (d, lexDict w LT ln tl) :: (S, listO vs n2) :: rr) → Qf .next { s with heap := h', toks := tk' }) : wpAny (model PP w) ((ktrTop dp un gd cn cs L a ccd cl outer).deeper (envOfC (Str.ofString "_law_kinds") sc Lk 311 (.ref 310))) (exec st (envOfC (Str.ofString "_law_kinds") sc Lk 311 (.ref 310))) Qf (fun e s' => wpAny (model PP w) ((ktrTop dp un gd cn cs L a ccd cl outer).deeper (envOfC (Str.ofString "_law_kinds") sc Lk 311 (.ref 310))) (leaving (envOfC (Str.ofString "_law_kinds") sc Lk 311 (.ref 310)) e) (fun _ s'' => E e s'') (fun e' s'' => E e' s'') s') s := by
  conv at hsc => rhs; whnf
  conv at hst => rhs; whnf
  subst hsc; subst hst
  obtain ⟨d1, f, c', C, pb1, oc, oC, q, t0, t1, t2, t3, t4, t5, tw, n4, ws, t9, doc, pm, ctv, a1, a2, a3, a4, a5, a6, a7, a8, a9⟩ := id LX
  have b1 : Apart x o1 := e1 _ a1
  have b2 : Apart x LT.pb := e2 _ a1
  have b3 : Apart x d := e3 _ a1
  have b4 : Apart x S := e4 _ a1
  have b5 : Apart ob o1 := e1 _ hob
  have b6 : Apart ob LT.pb := e2 _ hob
  have b7 : Apart ob d := e3 _ hob
  have b8 : Apart ob S := e4 _ hob
  have c1 : Apart (Lk + 1) o1 := e1 _ hcb
  have c2 : Apart (Lk + 1) LT.pb := e2 _ hcb
  have c3 : Apart (Lk + 1) d := e3 _ hcb
  have c4 : Apart (Lk + 1) S := e4 _ hcb
  replace N : News g Lk s.heap ((o1, listO vs1 n1) :: (LT.pb, listO ps n3) :: (d, lexDict w LT ln tl) :: (S, listO vs n2) :: (x, instObj 245 d) :: (ob, listO bs nb) :: (Lk + 1, o2) :: rr) := fun p hp => by
    simp only [List.mem_cons] at hp
    apply N
    simp only [List.mem_cons]
    rcases hp with h | h | h | h | h | h | h | h
    · exact .inl h
    · exact .inr (.inl h)
    · exact .inr (.inr (.inl h))
    · exact .inr (.inr (.inr (.inl h)))
    · rw [h]; exact .inr (.inr (.inr (.inr a1)))
    · rw [h]; exact .inr (.inr (.inr (.inr hob)))
    · rw [h]; exact .inr (.inr (.inr (.inr hcb)))
    · exact .inr (.inr (.inr (.inr h)))
  dsimp only [lexDict] at N
  have hz6 : (tiesUp M 4).length ≤ 100 := Nat.le_trans (tiesUp_len (M := M) (j := 4) (by decide)) (by decide)
  have T0 : Apart ot o1 := e1 _ hot
  k_dflt (refine while_r (σ := WhileS) (fun c => (o1, listO c.vs1 c.n1) :: (LT.pb, listO c.ps c.n3) :: (d, lexDict w LT ln tl) :: (S, listO vs c.n2) :: (x, instObj 245 d) :: (ob, listO bs nb) :: (Lk + 1, o2) :: rr) (fun c => [(Str.ofString "word", .str (toS c.wd) c.kw), (Str.ofString "seen", .ref o1), (Str.ofString "line", .ref x), (Str.ofString "shape", .str (toS sh) ks0), (Str.ofString "ties", .ref ot)]) [Str.ofString "spot", Str.ofString "other", Str.ofString "word", Str.ofString "seen", Str.ofString "line", Str.ofString "shape", Str.ofString "ties"] (fun c => TxAre c.vs1 c.ks ∧ TxAre c.ps c.pbl ∧ whileO M (tiesM M) sh c.f c.wd (c.ks, c.pbl) = some fin) (fun c => c.f) ⟨f0, wd, kw, _, _, ks, _, _, _, pbl⟩ (by k_asm) N (fun p h => h) (by assumption) ⟨hi, hp, hf⟩ ?turn)
  rintro ⟨f, wd, kw, ws1, k1, ks1, qs, k3, k2, pb1⟩ u h tk ⟨hi1, hp1, hf1⟩ Fc Nc
  dsimp only at hi1 hp1 hf1 Fc Nc ⊢
  clear hi hp hf N hk
  obtain _ | f := f
  · cases hf1
  obtain _ | ⟨c0, wr⟩ := wd
  · k_steps
    have hf3 : (if pb1.isEmpty then some ks1 else none) = some fin := hf1
    cases pb1 with
    | cons v r => cases hf3
    | nil =>
      cases hp1
      injection hf3 with hf3
      subst hf3
      exact hret _ _ _ _ _ _ _ _ hi1 (by k_asm) (by k_extra "mine news")
  have hf2 : (if !(wordOk (c0 :: wr) && (eqL (shapeL (c0 :: wr) (tiesM M)) sh && Nat.ble pb1.length 50)) then none
    else match spotsO M (c0 :: wr) (ks1, pb1) with
      | none => none
      | some (ks, []) => whileO M (tiesM M) sh f [] (ks, [])
      | some (ks, v :: pb) => whileO M (tiesM M) sh f v (ks, pb)) = some fin := hf1
  clear hf1
  by_cases hc : (wordOk (c0 :: wr) && (eqL (shapeL (c0 :: wr) (tiesM M)) sh && Nat.ble pb1.length 50)) = true
  case neg => rw [if_pos (by cases hq : (wordOk (c0 :: wr) && (eqL (shapeL (c0 :: wr) (tiesM M)) sh && Nat.ble pb1.length 50)) with | false => rfl | true => exact absurd hq hc)] at hf2; cases hf2
  rw [if_neg (by rw [hc]; decide)] at hf2
  rw [Bool.and_eq_true, Bool.and_eq_true, Nat.ble_eq] at hc
  obtain ⟨hw, hsh, hz1⟩ := hc
  rw [eqL_is] at hsh
  have hsh2 : shapeP (c0 :: wr) (tiesUp M 4) = sh := (shape_is (ok_mem hw) M).trans (of_decide_eq_true hsh)
  have hwl : (c0 :: wr).length ≤ 1000 := by
    have hw2 := hw
    unfold wordOk at hw2
    rw [Bool.and_eq_true] at hw2
    rw [Nat.eq_of_beq_eq_true hw2.1]
    decide
  rcases opt_cases (spotsO M (c0 :: wr) (ks1, pb1)) with hsp | ⟨⟨ks2, pb2⟩, hsp⟩
  · rw [hsp] at hf2; cases hf2
  rw [hsp] at hf2
  k_steps
  dsimp only
  refine truthy_ne hwl fun tk5 => ?_
  dsimp only
  rw [if_pos rfl]
  k_steps
  · rename (_ != _) = true => hX
    rw [hsh2] at hX
    simp at hX
  rename (_ != _) = false => hX
  clear hX
  refine Hold.out ?_
  try k_unmd
  k_dflt (refine kw_spot rfl (by k_asm) (by k_asm) (by k_asm) (by k_extra "mine news") (by k_asm) (by k_extra "om") (by k_extra "om") rfl LX hln hlu hob hcb hcd hbl hbz hM e1 e2 e3 e4 e5 e6 e7 e8 e9 e0 (by k_extra "mine has") hw hi1 hp1 hz1 hsp fun ws2 qs2 k4 k5 k6 h2 tk2 u2 hz2 hi2 hp2 F2 N2 => ?_)
  try dsimp only
  dsimp only at hz2 hi2 hp2
  have N3 : News g Lk h2 ((o1, listO ws2 k4) :: (LT.pb, listO qs2 k6) :: (d, lexDict w LT ln tl) :: (S, listO vs k5) :: (x, instObj 245 d) :: (ob, listO bs nb) :: (Lk + 1, o2) :: rr) := fun p hp => N2 p (led_more a1 hob hcb hp)
  clear N2
  cases pb2 with
  | nil =>
    cases hp2
    have hf4 : whileO M (tiesM M) sh f [] (ks2, []) = some fin := hf2
    k_steps
    refine Hold.out ?_
    try k_unmd
    k_dflt (refine' gt_end ?u1B ?u1F ?u1X ?u1N ?u1T ?u1K ?u1d ?u1u ?u1q0 ?u1q1 ?u1q2 ?u1q3 ?u1q4 ?u1q5 ?u1q6 ?u1q7 ?u1q8 ?u1q9 ?_; (case u1B => k_asm); (case u1F => k_asm); (case u1X => k_asm); (case u1N => k_asm); (case u1T => k_asm); (case u1K => first | exact rfl | assumption); (case u1d => k_room); (case u1u => k_units); (case u1q0 => with_reducible assumption); (case u1q1 => k_extra "mine rem"); (case u1q2 => k_extra "mine rem"); (case u1q3 => k_extra "mine rem"); (case u1q4 => k_extra "mine sub"); (case u1q5 => with_reducible assumption); (case u1q6 => with_reducible assumption); (case u1q7 => with_reducible assumption); (case u1q8 => with_reducible assumption); (case u1q9 => exact rfl); intro t9 n9 k9 h9 tk9 F9 N9); (try dsimp only)
    k_steps
    refine WEnd.intro ⟨f, [], _, _, _, ks2, [], _, _, []⟩ (by k_asm) (by k_asm) (fun p h => rot4 h) (by k_extra "mine has") (by exact Off.set rfl (Off.kst2 rfl rfl (Off.kst rfl))) ⟨⟨hi2, .nil, hf4⟩, Nat.lt_succ_self _⟩
  | cons v pb2 =>
    have hf4 : whileO M (tiesM M) sh f v (ks2, pb2) = some fin := hf2
    rcases hp2 with _ | ⟨_, kv, hp3⟩
    have hlv := hp3.length
    rw [List.length_cons] at hz2
    k_steps
    refine Hold.out ?_
    try k_unmd
    k_dflt (refine' gt_push ?u2B ?u2F ?u2X ?u2N ?u2T ?u2K ?u2d ?u2u ?u2q0 ?u2q1 ?u2q2 ?u2q3 ?u2q4 ?u2q5 ?u2q6 ?u2q7 ?u2q8 ?_; (case u2B => k_asm); (case u2F => k_asm); (case u2X => k_asm); (case u2N => k_asm); (case u2T => k_asm); (case u2K => first | exact rfl | assumption); (case u2d => k_room); (case u2u => k_units); (case u2q0 => with_reducible assumption); (case u2q1 => k_extra "mine rem"); (case u2q2 => k_extra "mine rem"); (case u2q3 => k_extra "mine rem"); (case u2q4 => k_extra "mine sub"); (case u2q5 => with_reducible assumption); (case u2q6 => with_reducible assumption); (case u2q7 => exact rfl); (case u2q8 => k_extra "om"); intro n9 k9 h9 tk9 F9 N9); (try dsimp only)
    k_steps
    refine WEnd.intro ⟨f, v, _, _, _, ks2, _, _, _, pb2⟩ (by k_asm) (by k_asm) (fun p h => rot4 h) (by k_extra "mine has") (by exact Off.set rfl (Off.kst2 rfl rfl (Off.kst rfl))) ⟨⟨hi2, hp3, hf4⟩, Nat.lt_succ_self _⟩
end
section
variable {w : World} {mean : ExcName → Option Value} {mg mb : Str → Option Value} {dp un : Nat} {gd : Option (List Code)} {cn : Str} {cs : Scope} {L a : Addr} {ccd : Value} {cl : List (Str × Addr)} {outer : List Env}
   {A₀ : Around} {base h₀ : Heap} {m : Str → Option Value} {s : Shared} {Q E : Value → Shared → Prop}
open G0 G3 G4 G8 G10 G11 G22 G23 G25 G32 G34 G37 G49
theorem rot3o {i o3 o1 p : Addr × Obj} {r : List (Addr × Obj)} (h : p ∈ i :: o3 :: o1 :: r) : p ∈ o1 :: i :: o3 :: r := by
  simp only [List.mem_cons] at h ⊢
  rcases h with h | h | h | h
  · exact .inr (.inl h)
  · exact .inr (.inr (.inl h))
  · exact .inl h
  · exact .inr (.inr (.inr h))
theorem rot_w {i o3 o1 a b c X O P p : Addr × Obj} {r : List (Addr × Obj)} (hx : X ∈ r) (ho : O ∈ r) (hc : P ∈ r) (h : p ∈ i :: o3 :: o1 :: a :: b :: c :: X :: O :: P :: r) : p ∈ o1 :: a :: b :: c :: i :: o3 :: r := by
  simp only [List.mem_cons] at h ⊢
  rcases h with h | h | h | h | h | h | h | h | h | h
  · exact .inr (.inr (.inr (.inr (.inl h))))
  · exact .inr (.inr (.inr (.inr (.inr (.inl h)))))
  · exact .inl h
  · exact .inr (.inl h)
  · exact .inr (.inr (.inl h))
  · exact .inr (.inr (.inr (.inl h)))
  · rw [h]; exact .inr (.inr (.inr (.inr (.inr (.inr hx)))))
  · rw [h]; exact .inr (.inr (.inr (.inr (.inr (.inr ho)))))
  · rw [h]; exact .inr (.inr (.inr (.inr (.inr (.inr hc)))))
  · exact .inr (.inr (.inr (.inr (.inr (.inr h)))))
structure FirstS where
  (io : Obj) (rv : List Value) (ls : List (List Nat)) (vs1 : List Value) (n1 : Nat) (ks : List (List Nat)) (vs3 : List Value) (n9 : Nat) (shs : List (List Nat)) (n3 n2 : Nat)
theorem kw_firsts {x d S ob o1 : Addr} {LT : LexT} {vs bs : List Value} {ln : Int} {tl : Tok} {nb : Nat} {o2 : Obj} {bl : List (Int × Int)} {M : Mat} {rr : List (Addr × Obj)} {tvs wvs : List Value} {n1 n2 n3 n9 tn wn : Nat} {ls fin : List (List Nat)} {ot ow o3 : Addr} {sc : Scope} {st : Stmt} {Lk : Addr} {g : Heap} {m1 : Str → Option Value} {Qf : Flow → Shared → Prop} (hsc : sc = scK)
   (B : Below (ktrTop dp un gd cn cs L a ccd cl outer) base (envX cn cs L a ccd cl :: outer) g) (F : Fr g Lk s.heap m1) (X : (K w.params).In g) (N : News g Lk s.heap ((o3, listO [] n9) :: (o1, listO [] n1) :: (LT.pb, listO [] n3) :: (d, lexDict w LT ln tl) :: (S, listO vs n2) :: rr))
   (T : Top topProg LL mean mg mb g) (hdp : dp + 140 < recursionLimit) (hu : un + 1400 < cLine) (hst : st = kS 3)
   (LX : LexAt w rr x d S LT) (hln : 0 ≤ ln) (hlu : ln < 50000) (hob : (ob, listO bs nb) ∈ rr) (hcb : (Lk + 1, o2) ∈ rr) (hcd : o2.data = Data.cell (some (.ref ob))) (hbl : PairsAt rr bs bl) (hbz : bl.length = 4)
   (hM : ∀ i j, i < 4 → j < 4 → getM M i j = apP bl i j) (e1 : ∀ p ∈ rr, p.1 ≠ o1) (e2 : ∀ p ∈ rr, p.1 ≠ LT.pb) (e3 : ∀ p ∈ rr, p.1 ≠ d) (e4 : ∀ p ∈ rr, p.1 ≠ S) (e5 : Apart o1 LT.pb) (e6 : Apart o1 d) (e7 : Apart o1 S) (e8 : Apart LT.pb d) (e9 : Apart LT.pb S) (e0 : Apart d S) (CH : CodeHd base 255 251) (hl : LeftIs vs []) (hot : (ot, listO tvs tn) ∈ rr) (hT : TiesAt rr tvs (tiesUp M 4)) (how : (ow, listO wvs wn) ∈ rr) (hW : TxAre wvs ls)
   (f1 : ∀ p ∈ rr, p.1 ≠ o3) (f2 : Apart o3 o1) (f3 : Apart o3 LT.pb) (f4 : Apart o3 d) (f5 : Apart o3 S)
   (hk : Has m1 [(Str.ofString "seen", .ref o1), (Str.ofString "shapes", .ref o3), (Str.ofString "line", .ref x), (Str.ofString "ties", .ref ot), (Str.ofString "words", .ref ow)])
   (hf : firstsO M (tiesM M) ls [] [] = some fin)
   (hret : ∀ vs3 n9 n2 n3 h' tk' (u : Str → Option Value), TxAre vs3 fin → Fr g Lk h' (kstB u [(Str.ofString "seen", .ref o1), (Str.ofString "shapes", .ref o3), (Str.ofString "line", .ref x), (Str.ofString "ties", .ref ot)]) → News g Lk h' ((o3, listO vs3 n9) :: (LT.pb, listO [] n3) :: (d, lexDict w LT ln tl) :: (S, listO vs n2) :: rr) → Qf .next { s with heap := h', toks := tk' }) : wpAny (model PP w) ((ktrTop dp un gd cn cs L a ccd cl outer).deeper (envOfC (Str.ofString "_law_kinds") sc Lk 311 (.ref 310))) (exec st (envOfC (Str.ofString "_law_kinds") sc Lk 311 (.ref 310))) Qf (fun e s' => wpAny (model PP w) ((ktrTop dp un gd cn cs L a ccd cl outer).deeper (envOfC (Str.ofString "_law_kinds") sc Lk 311 (.ref 310))) (leaving (envOfC (Str.ofString "_law_kinds") sc Lk 311 (.ref 310)) e) (fun _ s'' => E e s'') (fun e' s'' => E e' s'') s') s := by
  conv at hsc => rhs; whnf
  conv at hst => rhs; whnf
  subst hsc; subst hst
  have x1 : (x, instObj 245 d) ∈ rr := by
    obtain ⟨d1, f, c', C, pb1, oc, oC, q, t0, t1, t2, t3, t4, t5, tw, n4, ws, t9, doc, pm, ctv, a1, a2, a3, a4, a5, a6, a7, a8, a9⟩ := id LX
    exact a1
  have b1 : Apart x o1 := e1 _ x1
  have b2 : Apart x LT.pb := e2 _ x1
  have b3 : Apart x d := e3 _ x1
  have b4 : Apart x S := e4 _ x1
  have b5 : Apart x o3 := f1 _ x1
  have c1 : Apart ow o1 := e1 _ how
  have c2 : Apart ow LT.pb := e2 _ how
  have c3 : Apart ow d := e3 _ how
  have c4 : Apart ow S := e4 _ how
  have c5 : Apart ow o3 := f1 _ how
  have g1 : Apart ot o1 := e1 _ hot
  have g2 : Apart ot LT.pb := e2 _ hot
  have g3 : Apart ot d := e3 _ hot
  have g4 : Apart ot S := e4 _ hot
  have g5 : Apart ot o3 := f1 _ hot
  have hz6 : (tiesUp M 4).length ≤ 100 := Nat.le_trans (tiesUp_len (M := M) (j := 4) (by decide)) (by decide)
  replace N : News g Lk s.heap ((o3, listO [] n9) :: (o1, listO [] n1) :: (LT.pb, listO [] n3) :: (d, lexDict w LT ln tl) :: (S, listO vs n2) :: (ow, listO wvs wn) :: (x, instObj 245 d) :: (ot, listO tvs tn) :: rr) := fun p hp => by
    apply N
    rcases List.mem_cons.mp hp with h | hp
    · rw [h]; exact .head _
    · exact .tail _ (led_more how x1 hot hp)
  dsimp only [lexDict] at N
  rw [map_is (stored := []) Off.refl hk] at F
  refine for_in ?_
  k_steps
  k_extra "mine held"
  k_dflt (refine mk_iter_list (by k_asm) (by k_asm) (by k_extra "mine mem") ?_; intro Iq hq ioq Yq Fq Nq lq; (try k_lt lq))
  try dsimp only
  k_dflt (refine for_rc (σ := FirstS) _ (fun c cst => (Iq, c.io) :: (o3, listO c.vs3 c.n9) :: (o1, listO c.vs1 c.n1) :: (LT.pb, listO [] c.n3) :: (d, lexDict w LT ln tl) :: (S, listO vs c.n2) :: cst) (fun c => [(Str.ofString "seen", .ref o1), (Str.ofString "shapes", .ref o3), (Str.ofString "line", .ref x), (Str.ofString "ties", .ref ot)]) [Str.ofString "first", Str.ofString "shape", Str.ofString "word", Str.ofString "spot", Str.ofString "other", Str.ofString "seen", Str.ofString "shapes", Str.ofString "line", Str.ofString "ties"] (fun c => Yields PP w [(ow, listO wvs wn)] Iq (cV c.rv) c.io ∧ TxAre c.rv c.ls ∧ TxAre c.vs1 c.ks ∧ TxAre c.vs3 c.shs ∧ firstsO M (tiesM M) c.ls c.ks c.shs = some fin) (fun c => c.ls.length) ⟨ioq, wvs, ls, [], _, [], [], _, [], _, _⟩ (by k_asm) Nq (fun p h => h) (by k_extra "mine has") ⟨Yq, hW, .nil, .nil, hf⟩ ?turn)
  rintro ⟨io, rv, ls, ws1, k1, ks1, ws3, k9, shs, k3, k2⟩ u h tk ⟨Y, hr, hi1, hi3, hf1⟩ Fc Nc
  dsimp only at Y hr hi1 hi3 hf1 Fc Nc ⊢
  clear hW hf N Nq hk Yq
  rcases hr with _ | ⟨v, kv, hr⟩
  · have Y' : Yields PP w [(ow, listO wvs wn)] Iq [] io := Y
    clear Y
    have hf2 : some shs = some fin := hf1
    injection hf2 with hf2
    subst hf2
    k_extra "mine yend"
    exact hret _ _ _ _ _ _ _ hi3 (by k_asm) (by k_extra "mine news")
  rename_i rv ls
  have Y' : Yields PP w [(ow, listO wvs wn)] Iq ((fun _ => .str (toS v) kv) :: cV rv) io := Y
  clear Y
  have hf2 : (if !wordOk v then none else
    match newO ks1 v with
    | none => none
    | some (false, ks) => firstsO M (tiesM M) ls ks shs
    | some (true, ks) =>
      match newO shs (shapeL v (tiesM M)) with
      | some (true, sh) => (whileO M (tiesM M) (shapeL v (tiesM M)) 30 v (ks, [])).bind fun ks' => firstsO M (tiesM M) ls ks' sh
      | _ => none) = some fin := hf1
  clear hf1
  by_cases hw : wordOk v = true
  case neg => rw [if_pos (by cases hq : wordOk v with | false => rfl | true => exact absurd hq hw)] at hf2; cases hf2
  rw [if_neg (by rw [hw]; decide), ← shape_is (ok_mem hw) M] at hf2
  k_extra "mine ynext"
  rcases newO_cases ks1 v with hno | ⟨ks2, hno⟩ | ⟨ks2, hno⟩
  · rw [hno] at hf2; cases hf2
  · rw [hno] at hf2
    k_steps
    refine WEnd.intro ⟨_, rv, ls, _, _, ks2, _, _, shs, _, _⟩ (by k_asm) (by k_asm) (fun p h => rot3o h) (by k_extra "mine has") (by k_extra "mine off") ⟨⟨by assumption, hr, by assumption, hi3, hf2⟩, Nat.lt_succ_self _⟩
  · rw [hno] at hf2
    rcases newO_cases shs (shapeP v (tiesUp M 4)) with hns | ⟨sh2, hns⟩ | ⟨sh2, hns⟩
    · rw [hns] at hf2; cases hf2
    · rw [hns] at hf2; cases hf2
    rw [hns] at hf2
    have hf2 : (whileO M (tiesM M) (shapeP v (tiesUp M 4)) 30 v (ks2, [])).bind (fun ks' => firstsO M (tiesM M) ls ks' sh2) = some fin := hf2
    rcases opt_cases (whileO M (tiesM M) (shapeP v (tiesUp M 4)) 30 v (ks2, [])) with hwh | ⟨ks3, hwh⟩
    · rw [hwh] at hf2; cases hf2
    rw [hwh] at hf2
    have hf3 : firstsO M (tiesM M) ls ks3 sh2 = some fin := hf2
    clear hf2
    k_steps
    have qq1 : ∀ (A B : Obj), ∀ p ∈ (Iq, A) :: (o3, B) :: rr, p.1 ≠ o1 := fun A B => by k_all
    have qq2 : ∀ (A B : Obj), ∀ p ∈ (Iq, A) :: (o3, B) :: rr, p.1 ≠ LT.pb := fun A B => by k_all
    have qq3 : ∀ (A B : Obj), ∀ p ∈ (Iq, A) :: (o3, B) :: rr, p.1 ≠ d := fun A B => by k_all
    have qq4 : ∀ (A B : Obj), ∀ p ∈ (Iq, A) :: (o3, B) :: rr, p.1 ≠ S := fun A B => by k_all
    refine Hold.out ?_
    try k_unmd
    k_dflt (refine kw_while (rr := (Iq, _) :: (o3, listO _ _) :: rr) rfl (by k_asm) (by k_asm) (by k_asm) (by k_extra "mine news") (by k_asm) (by k_extra "om") (by k_extra "om") rfl (LX.mono fun p h => .tail _ (.tail _ h)) hln hlu (.tail _ (.tail _ hob)) (.tail _ (.tail _ hcb)) hcd (hbl.mono fun p h => .tail _ (.tail _ h)) hbz hM (qq1 _ _) (qq2 _ _) (qq3 _ _) (qq4 _ _) e5 e6 e7 e8 e9 e0 CH hl (.tail _ (.tail _ hot)) (hT.mono fun p h => .tail _ (.tail _ h)) (by k_extra "mine has") (by with_reducible assumption) .nil hwh fun ws4 k4 k5 k6 h2 tk2 u2 kw2 hi4 F2 N2 => ?_)
    try dsimp only
    k_steps
    refine WEnd.intro ⟨_, rv, ls, ws4, _, ks3, _, _, sh2, _, _⟩ (by k_asm) (by k_asm) (fun p h => rot_w how x1 hot h) (by k_extra "mine has") (by exact Off.kst2 rfl rfl (Off.set rfl (Off.set rfl (Off.set rfl (Off.kst rfl))))) ⟨⟨by assumption, hr, hi4, by assumption, hf3⟩, Nat.lt_succ_self _⟩
end
section
variable {w : World} {mean : ExcName → Option Value} {mg mb : Str → Option Value} {dp un : Nat} {gd : Option (List Code)} {cn : Str} {cs : Scope} {L a : Addr} {ccd : Value} {cl : List (Str × Addr)} {outer : List Env}
   {A₀ : Around} {base h₀ : Heap} {m : Str → Option Value} {s : Shared} {Q E : Value → Shared → Prop}
open G0 G3 G4 G8 G10 G11 G32 G34 G37 G49 G50
theorem rot_p {i c D E p : Addr × Obj} {r : List (Addr × Obj)} (h : p ∈ i :: c :: D :: r) : p ∈ D :: i :: c :: E :: r := by
  simp only [List.mem_cons] at h ⊢
  rcases h with h | h | h | h
  · exact .inr (.inl h)
  · exact .inr (.inr (.inl h))
  · exact .inl h
  · exact .inr (.inr (.inr (.inr h)))
structure PlaceS where
  (io : Obj) (j : Nat) (Dw : Addr) (wv : List Value) (wn : Nat) (oc : Obj)
theorem kw_places {Dw : Addr} {wv : List Value} {wn : Nat} {oc : Obj} {rr : List (Addr × Obj)} {sc : Scope} {st : Stmt} {Lk : Addr} {g : Heap} {m1 : Str → Option Value} {Qf : Flow → Shared → Prop} (hsc : sc = scK)
   (B : Below (ktrTop dp un gd cn cs L a ccd cl outer) base (envX cn cs L a ccd cl :: outer) g) (F : Fr g Lk s.heap m1) (X : (K w.params).In g) (N : News g Lk s.heap ((Lk + 1 + 1, oc) :: (Dw, listO wv wn) :: rr))
   (T : Top topProg LL mean mg mb g) (hdp : dp + 120 < recursionLimit) (hu : un + 1200 < cLine) (hst : st = kS 2)
   (hcd : ∃ v, oc.data = Data.cell v) (e1 : ∀ p ∈ rr, p.1 ≠ Lk + 1 + 1) (e2 : Apart (Lk + 1 + 1) Dw) (hk : Has m1 [(Str.ofString "words", .ref Dw)]) (hw : TxAre wv [[]])
   (hret : ∀ Dw wv wn h' tk' (u : Str → Option Value), TxAre wv (wordsL 4) → Apart (Lk + 1 + 1) Dw → (∀ p ∈ rr, Apart p.1 Dw) → Fr g Lk h' (kstB (fun z => if [Str.ofString "words"].contains z then u z else m1 z) [(Str.ofString "words", .ref Dw)]) → News g Lk h' ((Dw, listO wv wn) :: rr) → Qf .next { s with heap := h', toks := tk' }) : wpAny (model PP w) ((ktrTop dp un gd cn cs L a ccd cl outer).deeper (envOfC (Str.ofString "_law_kinds") sc Lk 311 (.ref 310))) (exec st (envOfC (Str.ofString "_law_kinds") sc Lk 311 (.ref 310))) Qf (fun e s' => wpAny (model PP w) ((ktrTop dp un gd cn cs L a ccd cl outer).deeper (envOfC (Str.ofString "_law_kinds") sc Lk 311 (.ref 310))) (leaving (envOfC (Str.ofString "_law_kinds") sc Lk 311 (.ref 310)) e) (fun _ s'' => E e s'') (fun e' s'' => E e' s'') s') s := by
  conv at hsc => rhs; whnf
  conv at hst => rhs; whnf
  subst hsc; subst hst
  refine for_in ?_
  k_steps
  k_extra "mine held"
  k_dflt (refine' mk_iter_range (n := 4) ?Fy ?Ny ?my ?zy ?_; (case Fy => k_asm); (case Ny => k_asm); (case my => k_extra "mine mem"); (case zy => exact Nat.le_of_ble_eq_true rfl); intro Ip ho ioo Yo Fo No lo; (try k_lt lo))
  try dsimp only
  have N5 : News g Lk ho ((Ip, ioo) :: (Lk + 1 + 1, oc) :: (Dw, listO wv wn) :: rr) := by k_extra "mine news"
  have p1 : Apart Ip Dw := by k_ne
  have p2 : Apart Ip (Lk + 1 + 1) := by k_ne
  have p3 : AllLt Ip rr := by k_extra "mine lt24"
  clear lo No
  k_dflt (refine for_rc (σ := PlaceS) _ (fun c cst => (Ip, c.io) :: (Lk + 1 + 1, c.oc) :: (c.Dw, listO c.wv c.wn) :: cst) (fun c => [(Str.ofString "words", .ref c.Dw)]) [Str.ofString "words"] (fun c => Yields PP w [] Ip (cR (c.j : Int) (4 - c.j)) c.io ∧ TxAre c.wv (wordsL c.j) ∧ c.j ≤ 4 ∧ (∃ v, c.oc.data = Data.cell v) ∧ Apart Ip c.Dw ∧ Apart (Lk + 1 + 1) c.Dw ∧ (c.j ≠ 0 → ∀ p ∈ rr, Apart p.1 c.Dw)) (fun c => 4 - c.j) ⟨ioo, 0, Dw, wv, wn, oc⟩ (by k_asm) N5 (fun p h => h) (by assumption) ⟨Yo, hw, Nat.zero_le _, hcd, p1, e2, fun h => absurd rfl h⟩ ?turn)
  rintro ⟨io, j, Dw, wv, wn, oc⟩ u h tk ⟨Y, hw, hj4, ⟨cv, hcd⟩, p1, e2, hsep⟩ Fc Nc
  dsimp only at Y hw hj4 hcd p1 e2 hsep Fc Nc ⊢
  clear N5 Yo
  by_cases hj : j = 4
  · subst hj
    have Y' : Yields PP w [] Ip [] io := Y
    clear Y
    k_extra "mine yend"
    exact hret _ _ _ _ _ _ hw e2 (hsep (by decide)) (by k_asm) (by k_extra "mine news")
  obtain ⟨r, hr, hr2, hj3⟩ := sub_step hj4 hj
  rw [hr] at Y
  have Y' : Yields PP w [] Ip ((fun t => .int (j : Int) t) :: cR ((j + 1 : Nat) : Int) r) io := Y
  clear Y
  have hYn : ∀ io, Yields PP w [] Ip (cR ((j + 1 : Nat) : Int) r) io → Yields PP w [] Ip (cR ((j + 1 : Nat) : Int) (4 - (j + 1))) io := fun io h => by rw [hr2]; exact h
  k_extra "mine ynext"
  have Yn := hYn _ (by assumption)
  k_steps
  k_extra "mine held"
  k_extra "mine cassign"
  k_steps
  k_extra "mine held"
  k_extra "mine ylist"
  k_extra "mine cbegin"
  k_dflt (refine' ind_outer (fun es₀ done acc es m₃ => es = es₀ ∧ TxAre acc ((((wordsL j).take done.length).map (insAll j)).flatten)) rfl ?wF ?wN ?wY ?wU1 ?wC ?wU2 ?wU3 ?ws ?wI ?wturn ?wfin)
  case wF => k_asm
  case wN => k_asm
  case wY => k_asm
  case wU1 => k_extra "mine rem"
  case wC => k_asm
  case wU2 => k_extra "mine rem"
  case wU3 => k_extra "mine rem"
  case ws => k_extra "mine sub"
  case wI => exact ⟨rfl, .nil⟩
  case wturn =>
    intro KK x9 r9 done acc n8 io8 oC8 m8 es h8 tk8 t8 hall hI hcl hsub Y8 hC8 F8 N8 kont
    obtain ⟨rfl, hT8⟩ := hI
    obtain ⟨l1, l2, l, k0, hl1, hl2, rfl⟩ := tx_split (ls := wordsL j) hw hall
    have hl : l.length = j := words_memj j hj3 l (by rw [hl1]; exact List.mem_append_right _ (.head _))
    obtain ⟨cI, cC, cD⟩ := hcl
    dsimp only [blk] at N8
    have hz8 : acc.length ≤ 50 := by
      rw [hT8.length]
      refine words_lenj j hj3 done.length ?_
      have h1 := congrArg List.length hl1
      rw [List.length_append, List.length_cons] at h1
      have h6 := words_len6 j hj3
      k_extra "om"
    have hj100 : j + 1 ≤ 100 := by k_extra "om"
    k_steps
    k_extra "mine held"
    k_extra "mine yrange"
    k_extra "mine cstart"
    have hsl : (toS l).length ≤ sizeLine := by rw [sizeLine_eq]; show l.length ≤ _; k_extra "om"
    k_dflt (refine' comp_map_r (fun x v => ∃ (s : Nat) (t1 : Tok), (∀ t, x t = Value.int (s : Int) t) ∧ v = .str ⟨(l.take s ++ (48 + j) :: l.drop s).toArray⟩ t1) (fun s h => comp_inner h) ?v1 ?v2 ?v3 ?vF ?vN ?vU1 ?vU2 ?vU3 ?vY ?vC ?vs ?vz ?ve ?vf)
    case v1 => exact rfl
    case v2 => exact rfl
    case v3 => exact rfl
    case vF => k_asm
    case vN => k_asm
    case vU1 => k_extra "mine rem"
    case vU2 => k_extra "mine rem"
    case vU3 => k_extra "mine rem"
    case vY => k_asm
    case vC => k_asm
    case vs => k_extra "mine sub"
    case vz =>
      rw [cR_length]
      k_extra "om"
    case ve =>
      intro x hx t oC7 io7 acc7 n7 m7 h7 tk7 Q7 c1 c2 c3 F7 N7 ret
      obtain ⟨i, hi, rfl⟩ := cR_mem (j + 1) 0 hx
      have c4 : m7 (Str.ofString "spot") = some (.int (i : Int) t) := c2
      have c5 : m7 (Str.ofString "word") = some (.str (toS l) k0) := (c3 _ (by decide)).trans rfl
      have hil : i ≤ l.length := by k_extra "om"
      have hl100 : l.length ≤ 100 := by k_extra "om"
      k_steps
      refine Hold.out ?_
      try k_unmd
      refine add_r2 (b := [48 + j]) (slice_to hil) (str4 hj3) rfl (room_a hl100) fun t5 tk5 => ?_
      k_steps
      refine Hold.out ?_
      try k_unmd
      refine add_r2 (c := l.take i ++ (48 + j) :: l.drop i) rfl (slice_from hil) (by rw [List.append_assoc]; rfl) (room_d hl100) fun t6 tk6 => ?_
      exact ret _ _ _ ⟨i, _, fun _ => rfl, rfl⟩ (by k_asm) (by k_asm)
    case vf =>
      intro ys oC7 n7 m7 h7 tk7 hP c1 c2 F7 N7
      have hX : TxAre ys (insAll j l) := by
        have := paired_ins (fun s => l.take s ++ (48 + j) :: l.drop s) (j + 1) 0 hP
        rw [← List.range_eq_range'] at this
        exact this
      show KK _
      refine kont io8 _ _ (acc ++ ys) n7 _ _ _ ⟨rfl, ?_⟩ ⟨cI, cC, cD⟩ hsub rfl c1 F7 ?_
      · rw [List.length_append, List.length_singleton, words_step hl1 hl2]
        exact hT8.append hX
      · exact fun p hp => N7 p (relay3 hp)
  intro accN nN oCN mN esN hN tkN hI hcl hCN FN NN
  obtain ⟨rfl, hTy⟩ := hI
  refine comp_use ?_
  k_steps
  k_dflt (refine' comp_fin ?yF ?yN ?yU ?yC ?_)
  case yF => k_asm
  case yN => k_asm
  case yU => k_extra "mine rem"
  case yC => k_asm
  intro h9 F9 N9
  try dsimp only
  k_steps
  have hTx : TxAre accN (wordsL (j + 1)) := words_fin hTy hw.length
  have hj5 : j + 1 ≤ 4 := hj3
  have hmu : 4 - (j + 1) < 4 - j := by k_extra "om"
  refine WEnd.intro ⟨_, j + 1, _, accN, nN, _⟩ (by k_asm) (by k_asm) (fun p h => rot_p h) (by k_extra "mine has") (by k_extra "mine off") ⟨⟨Yn, hTx, hj5, ⟨_, by with_reducible assumption⟩, (by k_ne), (by k_ne), fun _ p hp => ?_⟩, hmu⟩
  exact allLt_ne (by k_extra "mine lt24") p hp
end
section
variable {w : World} {mean : ExcName → Option Value} {mg mb : Str → Option Value} {dp un : Nat} {gd : Option (List Code)} {cn : Str} {cs : Scope} {L a : Addr} {ccd : Value} {cl : List (Str × Addr)} {outer : List Env}
   {A₀ : Around} {base h₀ : Heap} {m : Str → Option Value} {s : Shared} {Q E : Value → Shared → Prop}
open G0 G3 G4 G8 G10 G11 G26 G32 G34 G37 G49
theorem kw_ties {ob : Addr} {bs : List Value} {nb : Nat} {o2 : Obj} {bl : List (Int × Int)} {M : Mat} {rr : List (Addr × Obj)} {sc : Scope} {st : Stmt} {Lk : Addr} {g : Heap} {m1 : Str → Option Value} {Qf : Flow → Shared → Prop} (hsc : sc = scK)
   (B : Below (ktrTop dp un gd cn cs L a ccd cl outer) base (envX cn cs L a ccd cl :: outer) g) (F : Fr g Lk s.heap m1) (X : (K w.params).In g) (N : News g Lk s.heap ((Lk + 1, o2) :: (ob, listO bs nb) :: rr))
   (T : Top topProg LL mean mg mb g) (hdp : dp + 120 < recursionLimit) (hu : un + 1200 < cLine) (hst : st = kS 0)
   (hcd : o2.data = Data.cell (some (.ref ob))) (hbl : PairsAt rr bs bl) (hbz : bl.length = 4) (hM : ∀ i j, i < 4 → j < 4 → getM M i j = apP bl i j)
   (hret : ∀ Io Dt acc n nt h' tk', Fr g Lk h' (fun y => if y = Str.ofString "ties" then some (.ref Dt) else m1 y) → News g Lk h' ((Dt, listO acc n) :: (Lk + 1, o2) :: (ob, listO bs nb) :: (rr ++ nt)) → AllLt Io ((Lk + 1, o2) :: (ob, listO bs nb) :: rr) → (∀ p ∈ nt, Nat.lt Io p.1) → AllLt Dt ((Lk + 1, o2) :: (ob, listO bs nb) :: rr) → TiesAt nt acc (tiesUp M 4) → Qf .next { s with heap := h', toks := tk' }) : wpAny (model PP w) ((ktrTop dp un gd cn cs L a ccd cl outer).deeper (envOfC (Str.ofString "_law_kinds") sc Lk 311 (.ref 310))) (exec st (envOfC (Str.ofString "_law_kinds") sc Lk 311 (.ref 310))) Qf (fun e s' => wpAny (model PP w) ((ktrTop dp un gd cn cs L a ccd cl outer).deeper (envOfC (Str.ofString "_law_kinds") sc Lk 311 (.ref 310))) (leaving (envOfC (Str.ofString "_law_kinds") sc Lk 311 (.ref 310)) e) (fun _ s'' => E e s'') (fun e' s'' => E e' s'') s') s := by
  conv at hsc => rhs; whnf
  conv at hst => rhs; whnf
  subst hsc; subst hst
  have hblz : bs.length = 4 := by rw [hbl.length, hbz]
  k_extra "mine cassign"
  k_steps
  k_extra "mine held"
  k_dflt (refine' mk_iter_range ?Fy ?Ny ?my ?zy ?_; (case Fy => k_asm); (case Ny => k_asm); (case my => k_extra "mine mem"); (case zy => exact Nat.le_of_ble_eq_true rfl); intro Io ho ioo Yo Fo No lo; (try k_lt lo))
  try dsimp only
  k_extra "mine cbegin"
  k_dflt (refine' ind_outer (fun es₀ done acc es m₃ => ∃ nt, es = es₀ ++ nt ∧ TiesAt nt acc (tiesUp M done.length) ∧ (∀ p ∈ nt, Nat.lt Io p.1)) rfl ?F ?N ?Y ?U1 ?C ?U2 ?U3 ?s ?I ?turn ?fin)
  case F => k_asm
  case N => k_asm
  case Y => k_asm
  case U1 => k_extra "mine rem"
  case C => k_asm
  case U2 => k_extra "mine rem"
  case U3 => k_extra "mine rem"
  case s => k_extra "mine sub"
  case I => exact ⟨[], (List.append_nil _).symm, .nil, fun p hp => nomatch hp⟩
  case turn =>
    intro KK x9 r9 done acc n8 io8 oC8 m8 es h8 tk8 t8 hall hI hcl hsub Y8 hC8 F8 N8 kont
    obtain ⟨nt, rfl, hT, hne⟩ := hI
    obtain ⟨hlt, rfl⟩ := cR0_split hall
    have hcl0 := hcl
    obtain ⟨cI, cC, cD⟩ := hcl
    generalize hj : done.length = j at *
    dsimp only [blk, List.cons_append, List.nil_append] at N8 cI cC cD
    k_steps
    k_extra "mine held"
    have hj4 : j < 4 := hlt
    have hj100 : j ≤ 100 := by k_extra "om"
    k_extra "mine yrange"
    k_extra "mine cstart"
    k_dflt (refine' ind_inner_if (fun es₁ done acc' es m₃ => ∃ nt', es = es₁ ++ nt' ∧ TiesAt (nt ++ nt') acc' (tiesUp M j ++ rowU M j done.length) ∧ m₃ (Str.ofString "two") = some (.int (j : Int) t8) ∧ (∀ p ∈ nt', Nat.lt Io p.1)) rfl ?F2 ?N2 ?Y2 ?U12 ?C2 ?U22 ?U32 ?s2 ?I2 ?turn2 ?fin2)
    case F2 => k_asm
    case N2 => k_asm
    case Y2 => k_asm
    case U12 => k_extra "mine rem"
    case C2 => k_asm
    case U22 => k_extra "mine rem"
    case U32 => k_extra "mine rem"
    case s2 => k_extra "mine sub"
    case I2 => exact ⟨[], (List.append_nil _).symm, by rw [List.length_nil, rowU0, List.append_nil, List.append_nil]; exact hT, rfl, fun p hp => nomatch hp⟩
    case turn2 =>
      intro KK2 x7 r7 done7 acc7 n7 io7 oC7 m7 es7 h7 tk7 t7 hall7 hI7 hcl7 hsub7 Y7 hC7 F7 N7 kont7
      obtain ⟨nt7, rfl, hT7, hm7, hne7⟩ := hI7
      obtain ⟨hlt7, rfl⟩ := cR0_split hall7
      have hcl8 := hcl7
      obtain ⟨cI7, cC7, cD7⟩ := hcl7
      generalize hi : done7.length = i at *
      have hi1 : (done7 ++ [fun t => Value.int (i : Int) t]).length = i + 1 := by rw [List.length_append, hi]; rfl
      dsimp only [blk, List.cons_append, List.nil_append] at N7 cI7 cC7 cD7
      have hi4 : i < 4 := Nat.lt_trans hlt7 hj4
      have hz7 : acc7.length ≤ 50 := by
        have h1 := tiesUp_len (M := M) (j := j) (by k_extra "om")
        have h2 := rowU_len (M := M) (j := j) (i := i)
        rw [hT7.length, List.length_append]
        k_extra "om"
      k_steps
      refine Hold.out ?_
      k_dflt (refine' apart_c ?zB ?zF ?zX ?zN ?zT ?zK ?zd ?zu ?z1 ?z2 ?_)
      case zB => k_asm
      case zF => k_asm
      case zX => k_asm
      case zN => k_asm
      case zT => k_asm
      case zK => first | exact rfl | assumption
      case zd => k_room
      case zu => k_units
      case z1 => repeat (first | (exact List.mem_append_left _ (List.mem_append_left _ (by assumption))) | apply List.mem_cons_of_mem)
      case z2 => repeat (first | (exact List.mem_append_left _ (List.mem_append_left _ (by assumption))) | apply List.mem_cons_of_mem)
      intro h9 tk9 F9 N9
      (try dsimp only)
      generalize hap : (decide ((bl.getD ((i : Nat) : Int).toNat (0, 0)).2 ≤ (bl.getD ((j : Nat) : Int).toNat (0, 0)).1) || decide ((bl.getD ((j : Nat) : Int).toNat (0, 0)).2 ≤ (bl.getD ((i : Nat) : Int).toNat (0, 0)).1)) = bb
      have hg : getM M i j = bb := (hM i j hi4 hj4).trans hap
      cases bb
      · k_steps
        rename Fr _ _ _ _ => FZ
        rename News _ _ _ _ => NZ
        rw [str4 hi4, str4 hj4] at NZ
        refine kont7 io7 _ _ _ (n7 + 1) _ _ _ ⟨nt7 ++ [_], rfl, ?_, ?_, ?_⟩ (Clear.snoc (nt := nt7) hcl8 ?_ ?_ ?_) ?_ rfl (by assumption) FZ (fun p hp => NZ p (relay hp))
        · rw [hi1, rowU_succ, hg, if_neg (by decide), ← List.append_assoc, ← List.append_assoc]
          exact (hT7.mono fun p hp => List.mem_append_left _ hp).append (.cons (List.mem_append_right _ (.head _)) .nil)
        · exact (if_neg (by decide)).trans hm7
        · intro p hp
          rcases List.mem_append.mp hp with hp | hp
          · exact hne7 p hp
          · rw [List.mem_singleton.mp hp]
            show @_root_.LT.lt Nat instLTNat _ _
            k_extra "om"
        · k_ne
        · k_ne
        · k_ne
        · intro p hp; exact nomatch hp
      · k_steps
        refine kont7 io7 _ _ acc7 n7 _ _ _ ⟨nt7, rfl, ?_, ?_, ?_⟩ hcl8 ?_ rfl (by assumption) (by assumption) (by assumption)
        · rw [hi1, rowU_succ, hg, if_pos rfl, List.append_nil]
          exact hT7
        · exact (if_neg (by decide)).trans hm7
        · exact hne7
        · intro p hp; exact nomatch hp
    case fin2 =>
      intro acc7 n7 oC7 m7 es7 h7 tk7 hI7 hcl7 hC7 F7 N7
      obtain ⟨nt7, rfl, hT7, hm7, hne7⟩ := hI7
      have hj1 : (done ++ [fun t => Value.int (j : Int) t]).length = j + 1 := by rw [List.length_append, hj]; rfl
      rw [cR_length] at hT7
      show KK _
      refine kont io8 _ _ acc7 n7 _ _ _ ⟨nt ++ nt7, rfl, ?_, ?_⟩ ?_ ?_ rfl hC7 F7 ?_
      · rw [hj1, tiesUp_succ]
        exact hT7
      · intro p hp
        rcases List.mem_append.mp hp with hp | hp
        · exact hne p hp
        · exact hne7 p hp
      · exact Clear.app hcl0 (fun p hp => Nat.ne_of_gt (hne7 p hp)) (fun p hp => hcl7.2.1 p (List.mem_append_right _ hp)) (fun p hp => hcl7.2.2 p (List.mem_append_right _ hp))
      · intro p hp; exact nomatch hp
      · exact fun p hp => N7 p (relay2 hp)
  case fin =>
    intro acc9 n9 oC9 m9 es9 h9 tk9 hI hcl hC9 F9 N9
    obtain ⟨nt, rfl, hT, hne⟩ := hI
    rw [cR_length] at hT
    dsimp only [List.cons_append, List.nil_append] at N9
    refine comp_use ?_
    k_steps
    k_dflt (refine' comp_fin ?cF ?cN ?cU ?cC ?_)
    case cF => k_asm
    case cN => k_asm
    case cU =>
      refine RemF.head fun p hp => ?_
      rcases List.mem_cons.mp hp with rfl | hp
      · show @Ne Nat _ _
        k_ne
      · exact hcl.2.1 p hp
    case cC => k_asm
    intro h9 F9 N9
    try dsimp only
    k_steps
    exact hret Io _ acc9 n9 nt _ _ (by k_asm) (by k_extra "mine news") lo.2 hne (by k_extra "mine lt24") hT
end
section
variable {w : World} {mean : ExcName → Option Value} {mg mb : Str → Option Value} {dp un : Nat} {gd : Option (List Code)} {cn : Str} {cs : Scope} {L a : Addr} {ccd : Value} {cl : List (Str × Addr)} {outer : List Env}
   {A₀ : Around} {base h₀ : Heap} {m : Str → Option Value} {s : Shared} {Q E : Value → Shared → Prop}
open G0 G3 G4 G8 G10 G11 G34 G49
theorem led_out {A B C D E F G H I p : Addr × Obj} {r nt : List (Addr × Obj)} (h : p ∈ B :: C :: D :: r) : p ∈ A :: B :: C :: D :: E :: F :: G :: H :: I :: (r ++ nt) := by
  simp only [List.mem_cons, List.mem_append] at h ⊢
  rcases h with h | h | h | h
  · exact .inr (.inl h)
  · exact .inr (.inr (.inl h))
  · exact .inr (.inr (.inr (.inl h)))
  · exact .inr (.inr (.inr (.inr (.inr (.inr (.inr (.inr (.inr (.inl h)))))))))
theorem name4 {h₀ h : Heap} {L a b c d : Addr} {oa ob oc od : Obj} {r : List (Addr × Obj)} (N : News h₀ L h ((a, oa) :: (b, ob) :: (c, oc) :: (d, od) :: r)) : ∃ b' c' d', b' = b ∧ c' = c ∧ d' = d := ⟨_, _, _, rfl, rfl, rfl⟩
theorem kinds_c {x d S : Addr} {LT : LexT} {vs ps : List Value} {ln : Int} {tl : Tok} {n2 n3 : Nat} {news r0 r1 r2 r3 : List (Addr × Obj)} {ob : Addr} {bs : List Value} {nb : Nat} {bl : List (Int × Int)} {M : Mat} {k : Nat} (B : Below A₀ base outer h₀) (F : Fr h₀ L s.heap m) (X : (K w.params).In h₀) (N : News h₀ L s.heap news)
   (T : Top topProg LL mean mg mb h₀) (hk : cs.kind = .function) (hdp : dp + 140 < recursionLimit) (hu : un + 1400 < cLine)
   (LX0 : LexAt w r0 x d S LT) (R1 : RemF LT.pb (listO ps n3) news r1) (R2 : RemF d (lexDict w LT ln tl) r1 r2) (R3 : RemF S (listO vs n2) r2 r3) (LS : ∀ p ∈ r0, p ∈ r3) (hln : 0 ≤ ln) (hlu : ln < 50000) (CH : CodeHd base 255 251) (hl : LeftIs vs []) (hp0 : ps = []) (hob : (ob, listO bs nb) ∈ r3) (hbl : PairsAt r3 bs bl) (hbz : bl.length = 4) (hM : ∀ i j, i < 4 → j < 4 → getM M i j = apP bl i j) (hk9 : kindsO M = some k) (hkz : k ≤ 100)
   (hret : ∀ t n2 n3 h' tk', Fr h₀ L h' m → News h₀ L h' ((LT.pb, listO [] n3) :: (d, lexDict w LT ln tl) :: (S, listO vs n2) :: r3) → Q (.int (k : Int) t) { s with heap := h', toks := tk' }) :
   wpAny (model PP w) (ktrTop dp un gd cn cs L a ccd cl outer) (call (.ref 311) [.ref x, .ref ob]) Q E s := by
  rcases cs with ⟨ck, cnames, cgen, cco, cmore⟩
  cases hk
  (try (refine letA (dp := dp) (un := un) rfl rfl ?_; intro A1 dA1 uA1))
  have LX := LX0.mono LS
  have LX' := LX
  clear LX0 LS
  obtain ⟨d1, f, c', C, pb1, oc, oC, q, t0, t1, t2, t3, t4, t5, tw, n4, ws, t9, doc, pm, ctv, a1, a2, a3, a4, a5, a6, a7, a8, a9⟩ := LX
  have eS : ∀ p ∈ r3, p.1 ≠ S := remF_ne R3
  have ed : ∀ p ∈ r3, p.1 ≠ d := fun p hp => remF_ne R2 p (remF_sub R3 p hp)
  have ep : ∀ p ∈ r3, p.1 ≠ LT.pb := fun p hp => remF_ne R1 p (remF_sub R2 p (remF_sub R3 p hp))
  have edS : @Ne Nat d S := fun e => remF_ne R2 _ (remF_mem R3) e.symm
  have epd : @Ne Nat LT.pb d := fun e => remF_ne R1 _ (remF_mem R2) e.symm
  have epS : @Ne Nat LT.pb S := fun e => remF_ne R1 _ (remF_sub R2 _ (remF_mem R3)) e.symm
  have N2 : News h₀ L s.heap ((LT.pb, listO ps n3) :: (d, lexDict w LT ln tl) :: (S, listO vs n2) :: (x, instObj 245 d) :: r3) := by
    have s1 : ∀ p ∈ r1, p ∈ news := remF_sub R1
    have s2 : ∀ p ∈ r2, p ∈ news := fun p hp => s1 p (remF_sub R2 p hp)
    have s3 : ∀ p ∈ r3, p ∈ news := fun p hp => s2 p (remF_sub R3 p hp)
    intro p hp
    simp only [List.mem_cons] at hp
    apply N
    rcases hp with h | h | h | h | h
    · rw [h]; exact remF_mem R1
    · rw [h]; exact s1 _ (remF_mem R2)
    · rw [h]; exact s2 _ (remF_mem R3)
    · rw [h]; exact s3 _ a1
    · exact s3 _ h
  have b1 : @Ne Nat x d := ed _ a1
  have g1 : @Ne Nat x S := eS _ a1
  have i1 : @Ne Nat x LT.pb := ep _ a1
  clear N R1 R2 R3
  dsimp only [lexDict] at N2
  subst hp0
  have N3 : News h₀ L s.heap ((ob, listO bs nb) :: (LT.pb, listO [] n3) :: (d, lexDict w LT ln tl) :: (S, listO vs n2) :: (x, instObj 245 d) :: r3) := fun p hp => by
    rcases List.mem_cons.mp hp with h | hp
    · rw [h]; exact N2 _ (.tail _ (.tail _ (.tail _ (.tail _ hob))))
    · exact N2 _ hp
  clear N2
  have hblz : bs.length = 4 := by rw [hbl.length, hbz]
  have eob : @Ne Nat ob LT.pb := ep _ hob
  have eod : @Ne Nat ob d := ed _ hob
  have eoS : @Ne Nat ob S := eS _ hob
  have A1 : Apart d S := edS
  have A2 : Apart LT.pb d := epd
  have A3 : Apart LT.pb S := epS
  have A4 : Apart x d := b1
  have A5 : Apart x S := g1
  have A6 : Apart x LT.pb := i1
  have A7 : Apart ob LT.pb := eob
  have A8 : Apart ob d := eod
  have A9 : Apart ob S := eoS
  clear edS epd epS b1 g1 i1 eob eod eoS
  k_steps
  refine Hold.out ?_
  try k_unmd
  obtain ⟨Lk, rfl⟩ := news_L (by assumption)
  k_dflt (refine kw_ties (rr := (Lk + 1 + 1, _) :: (LT.pb, listO [] n3) :: (d, lexDict w LT ln tl) :: (S, listO vs n2) :: (x, instObj 245 d) :: r3) rfl (by k_asm) (by k_asm) (by k_asm) (by k_extra "mine news") (by k_asm) (by k_extra "om") (by k_extra "om") rfl (by assumption) (hbl.mono fun p h => .tail _ (.tail _ (.tail _ (.tail _ (.tail _ h))))) hbz hM fun Io Dt acc9 n9 nt h1 tk1 F1 N1 aIo hne aDt hT => ?_)
  try dsimp only
  simp only [List.cons_append] at N1
  dsimp only [AllLt] at aIo aDt
  k_steps
  rename News _ _ _ _ => NP
  obtain ⟨lp, ls, lw, rfl, rfl, rfl⟩ := name4 NP
  have q1 : ∀ p ∈ r3 ++ nt, p.1 ≠ Lk + 1 + 1 := sep_hi (Lk := Lk) (by k_extra "mine lt24") hne (by k_extra "om") (by k_extra "om")
  have q2 : ∀ p ∈ r3 ++ nt, p.1 ≠ LT.pb := sep_lo ep hne (by k_extra "om")
  have q3 : ∀ p ∈ r3 ++ nt, p.1 ≠ d := sep_lo ed hne (by k_extra "om")
  have q4 : ∀ p ∈ r3 ++ nt, p.1 ≠ S := sep_lo eS hne (by k_extra "om")
  have e00 : ∀ t, TxAre [.str (Str.ofString "") t] [[]] := fun t => by
    rw [show Str.ofString "" = toS [] from by decide +kernel]
    exact .cons [] _ .nil
  refine Hold.out ?_
  try k_unmd
  k_dflt (refine kw_places (Dw := lw) (wv := [.str (Str.ofString "") _]) (wn := 0) (rr := (lp, listO [] 0) :: (ls, listO [] 0) :: (Dt, listO acc9 n9) :: (Lk + 1, _) :: (ob, listO bs nb) :: (LT.pb, listO [] n3) :: (d, lexDict w LT ln tl) :: (S, listO vs n2) :: (x, instObj 245 d) :: (r3 ++ nt)) rfl (by k_asm) (by k_asm) (by k_asm) (by k_extra "mine news") (by k_asm) (by k_extra "om") (by k_extra "om") rfl ⟨_, by assumption⟩ (by k_all) (by k_ne) (by k_extra "mine has") (e00 _) fun Dw wv wn h2 tk2 u2 hW q0 hsep F2 N2 => ?_)
  try dsimp only
  simp only [List.forall_mem_cons] at hsep
  obtain ⟨s1, s2, s3, s4, s5, s6, s7, s8, s9, s10⟩ := hsep
  rcases opt_cases (firstsO M (tiesM M) (wordsL 4) [] []) with hfi | ⟨fin, hfi⟩
  · unfold kindsO at hk9
    rw [hfi] at hk9
    cases hk9
  have hkl : fin.length = k := by
    unfold kindsO at hk9
    rw [hfi] at hk9
    injection hk9
  k_steps
  refine Hold.out ?_
  try k_unmd
  k_dflt (refine kw_firsts (o3 := lp) (o1 := ls) (ow := Dw) (ot := Dt) (rr := (Dw, listO wv wn) :: (Dt, listO acc9 n9) :: (Lk + 1, _) :: (ob, listO bs nb) :: (x, instObj 245 d) :: (r3 ++ nt)) rfl (by k_asm) (by k_asm) (by k_asm) (by k_extra "mine news") (by k_asm) (by k_extra "om") (by k_extra "om") rfl (LX'.mono fun p h => .tail _ (.tail _ (.tail _ (.tail _ (.tail _ (List.mem_append_left _ h)))))) hln hlu (.tail _ (.tail _ (.tail _ (.head _)))) (.tail _ (.tail _ (.head _))) (by assumption) (hbl.mono fun p h => .tail _ (.tail _ (.tail _ (.tail _ (.tail _ (List.mem_append_left _ h)))))) hbz hM (by k_all) (by k_all) (by k_all) (by k_all) (by k_ne) (by k_ne) (by k_ne) A2 A3 A1 CH hl (.tail _ (.head _)) (hT.mono fun p h => .tail _ (.tail _ (.tail _ (.tail _ (.tail _ (List.mem_append_right _ h)))))) (.head _) hW (by k_all) (by k_ne) (by k_ne) (by k_ne) (by k_ne) (by k_extra "mine has") hfi fun vs3 n6 n7 n8 h6 tk6 u6 hX F6 N6 => ?_)
  try dsimp only
  have hSt := hX.strs
  have hSl : (fin.map toS).length = k := (List.length_map _).trans hkl
  k_steps
  rename Fr _ _ _ _ => kF
  rename News _ _ _ _ => kN
  rw [hSl]
  exact hret _ _ _ _ _ kF (fun p hp => kN p (led_out hp))
end
section
noncomputable def scL : Scope := scopeS (topS 25)
noncomputable def bodyL : List Stmt := bodyS (topS 25)
noncomputable def lS (i : Nat) : Stmt := nthS bodyL i
end
section
/-- an iterator that hands out tuples, after i of its n turns: its are its objects in the ledger -/
noncomputable def WT (prog : Program) (w : World) (A : Around) (g : Heap) (L I : Addr) (fp wr : List Addr) (n i : Nat) (Pt : Nat → Array Value → Prop) (its : List (Addr × Obj)) : Prop :=
  ∃ St Mid, WalksT prog w A I fp wr n Pt St Mid ∧ (∀ h : Heap, (∀ p ∈ its, h.get? p.1 = some p.2) → St i h) ∧ (∀ p ∈ its, p.1 ∈ fp) ∧ (∀ b ∈ fp, g.get? b = none ∧ b ≠ L)
noncomputable def liveAt (h : Heap) : List Addr → List (Addr × Obj)
  | [] => []
  | b :: r => match h.get? b with
    | some o => (b, o) :: liveAt h r
    | none => liveAt h r
theorem liveAt_mem {h : Heap} {b : Addr} {o : Obj} : ∀ {fp : List Addr}, b ∈ fp → h.get? b = some o → (b, o) ∈ liveAt h fp
  | c :: r, hb, e => by
    unfold liveAt
    rcases List.mem_cons.mp hb with rfl | hb
    · rw [e]; exact .head _
    · cases h.get? c with
      | none => exact liveAt_mem hb e
      | some o' => exact .tail _ (liveAt_mem hb e)
theorem liveAt_of {h : Heap} {p : Addr × Obj} : ∀ {fp : List Addr}, p ∈ liveAt h fp → p.1 ∈ fp ∧ h.get? p.1 = some p.2
  | c :: r, hp => by
    unfold liveAt at hp
    cases e : h.get? c with
    | none =>
      rw [e] at hp
      obtain ⟨a, b⟩ := liveAt_of hp
      exact ⟨.tail _ a, b⟩
    | some o =>
      rw [e] at hp
      rcases List.mem_cons.mp hp with rfl | hp
      · exact ⟨.head _, e⟩
      · obtain ⟨a, b⟩ := liveAt_of hp
        exact ⟨.tail _ a, b⟩
section
variable {prog : Program} {w : World} {A : Around} {E : Value → Shared → Prop} {s : Shared} {g : Heap} {L I : Addr} {m : Str → Option Value} {news its : List (Addr × Obj)} {fp wr : List Addr} {n i : Nat} {Pt : Nat → Array Value → Prop}
theorem wt_next {news' : List (Addr × Obj)} {elts : List PySem.Expr} {k : Nat} {pos : Pos} {X : Shared → Prop} {K : Value → Shared → Prop} (W : WT prog w A g L I fp wr n i Pt its) (hi : i < n)
    (F : Fr g L s.heap m) (N : News g L s.heap news) (hI : ∀ p ∈ its, p ∈ news) (hN : ∀ p ∈ news', p ∈ news) (hw : ∀ p ∈ news', p.1 ∉ wr)
    (h : ∀ T vals its' h' tk, Pt i vals → IsTup h' T vals → WT prog w A g L I fp wr n (i + 1) Pt its' → (∀ p ∈ its', p.1 ∈ fp) → Fr g L h' m → News g L h' (news' ++ its') → K (.ref T) { s with heap := h', toks := tk }) :
    wpAny (model prog w) A (pyNext (.ref I)) (fun r s₁ => match r with
      | none => X s₁
      | some v => wpAny (model prog w) A (letOwnedTupleGo (.Tuple elts k pos) (.ref I) v) (fun _ s₂ => K v s₂) E s₁) E s := by
  obtain ⟨St, Mid, W, hs, hf, hg⟩ := W
  refine W.item i s _ _ hi (hs _ fun p hp => (N p (hI p hp)).1) fun T vals h₁ tk hP _ hT hM hk => ?_
  refine W.go elts k pos i T _ _ _ hM fun h₂ hst hk₂ => ?_
  have both : ∀ b o, b ∉ wr → s.heap.get? b = some o → h₂.get? b = some o := fun b o hb e => hk₂ b o hb (hk b o hb e)
  have hgw : ∀ b ∈ wr, g.get? b = none ∧ b ≠ L := fun b hb => hg b (W.sub b hb)
  have F₂ : Fr g L h₂ m := by
    obtain ⟨o, es, ep, h1, h2, h3, h4⟩ := F.ns
    refine ⟨⟨o, es, ep, both L o (fun q => (hgw L q).2 rfl) h1, h2, h3, h4⟩, fun b o e => both b o (fun q => ?_) (F.keep b o e), F.above⟩
    rw [(hgw b q).1] at e
    cases e
  have hT₂ : IsTup h₂ T vals := by
    obtain ⟨o, h1, h2, h3⟩ := hT
    exact ⟨o, hk₂ T o (W.apart i T _ hM) h1, h2, h3⟩
  refine h T vals (liveAt h₂ fp) h₂ tk hP hT₂ ⟨St, Mid, W, fun h' e => W.frame _ _ _ hst fun b hb o x => e (b, o) (liveAt_mem hb x), fun p hp => (liveAt_of hp).1, hg⟩ (fun p hp => (liveAt_of hp).1) F₂ fun p hp => ?_
  rcases List.mem_append.mp hp with hp | hp
  · exact ⟨both _ _ (hw p hp) (N p (hN p hp)).1, (N p (hN p hp)).2⟩
  · obtain ⟨h1, h2⟩ := liveAt_of hp
    exact ⟨h2, (hg _ h1).2, (hg _ h1).1⟩
theorem wt_end {news' : List (Addr × Obj)} {X : Shared → Prop} {Y : Value → Shared → Prop} (W : WT prog w A g L I fp wr n n Pt its)
    (F : Fr g L s.heap m) (N : News g L s.heap news) (hI : ∀ p ∈ its, p ∈ news) (hN : ∀ p ∈ news', p ∈ news) (hw : ∀ p ∈ news', p.1 ∉ wr)
    (h : ∀ h' tk, Fr g L h' m → News g L h' news' → X { s with heap := h', toks := tk }) :
    wpAny (model prog w) A (pyNext (.ref I)) (fun r s₁ => match r with
      | none => X s₁
      | some v => Y v s₁) E s := by
  obtain ⟨St, Mid, W, hs, hf, hg⟩ := W
  refine W.done s _ _ (hs _ fun p hp => (N p (hI p hp)).1) fun h₂ tk both => ?_
  have hgw : ∀ b ∈ wr, g.get? b = none ∧ b ≠ L := fun b hb => hg b (W.sub b hb)
  have F₂ : Fr g L h₂ m := by
    obtain ⟨o, es, ep, h1, h2, h3, h4⟩ := F.ns
    refine ⟨⟨o, es, ep, both L o (fun q => (hgw L q).2 rfl) h1, h2, h3, h4⟩, fun b o e => both b o (fun q => ?_) (F.keep b o e), F.above⟩
    rw [(hgw b q).1] at e
    cases e
  exact h h₂ tk F₂ fun p hp => ⟨both _ _ (hw p hp) (N p (hN p hp)).1, (N p (hN p hp)).2⟩
theorem wt_self {I : Addr} (W : WT prog w A g L I fp wr n i Pt its) {Q : Value → Shared → Prop} (N : News g L s.heap news) (hI : ∀ p ∈ its, p ∈ news) (h : Q (.ref I) s) : wpAny (model prog w) A (pyIter (.ref I)) Q E s := by
  obtain ⟨St, Mid, W, hs, hf, hg⟩ := W
  exact W.self i s Q E (hs _ fun p hp => (N p (hI p hp)).1) h
theorem wt_sub (W : WT prog w A g L I fp wr n i Pt its) : ∀ b ∈ wr, b ∈ fp := by
  obtain ⟨St, Mid, W, _⟩ := W
  exact W.sub
theorem wt_in (W : WT prog w A g L I fp wr n i Pt its) : ∀ p ∈ its, p.1 ∈ fp := by
  obtain ⟨St, Mid, W, _, h, _⟩ := W
  exact h
theorem wt_ne {C : Addr} (hf : ∀ b ∈ fp, ∃ o, (b, o) ∈ its) (hC : AllLt C its) : ∀ b ∈ fp, b ≠ C := fun b hb => by
  obtain ⟨o, ho⟩ := hf b hb
  exact allLt_ne hC _ ho
theorem allLt_left {C : Addr} : ∀ {a b : List (Addr × Obj)}, AllLt C (a ++ b) → AllLt C a
  | [], _, _ => trivial
  | _ :: _, _, h => ⟨h.1, allLt_left h.2⟩
theorem allLt_right {C : Addr} : ∀ {a b : List (Addr × Obj)}, AllLt C (a ++ b) → AllLt C b
  | [], _, h => h
  | _ :: _, _, h => allLt_right h.2
theorem off_both {C : Addr} {a b : List (Addr × Obj)} (h1 : AllLt C a) (h2 : ∀ x ∈ fp, x ≠ C) (h3 : ∀ p ∈ b, p.1 ∈ fp) : ∀ p ∈ a ++ b, p.1 ≠ C := fun p hp => by
  rcases List.mem_append.mp hp with hp | hp
  · exact allLt_ne h1 p hp
  · exact h2 _ (h3 p hp)
theorem fresh_none {h : Heap} {b : Addr} (F : Fr g L h m) (hb : h.objs.size ≤ b) : g.get? b = none ∧ b ≠ L := by
  constructor
  · cases e : g.get? b with
    | none => rfl
    | some o => exact absurd (Heap.lt_size (F.keep _ _ e)) (Nat.not_lt.mpr hb)
  · intro e
    obtain ⟨o, es, ep, h1, _⟩ := F.ns
    exact absurd (Heap.lt_size h1) (Nat.not_lt.mpr (e ▸ hb))
/-- zip of two lists of the ledger -/
theorem zip_r {l1 l2 : Addr} {xs ys : List Value} {n1 n2 : Nat} {Q : Value → Shared → Prop} (hh : A.handled = none) (F : Fr g L s.heap m) (N : News g L s.heap news) (h1 : (l1, listO xs n1) ∈ news) (h2 : (l2, listO ys n2) ∈ news)
    (h : ∀ z fp wr its h', WT prog w A g L z fp wr (min xs.length ys.length) 0 (fun i vals => ∃ x y, xs[i]? = some x ∧ ys[i]? = some y ∧ vals = #[x, y]) its → (∀ p ∈ news, p.1 ∉ wr) → (∀ b ∈ fp, ∃ o, (b, o) ∈ its) → Fr g L h' m → News g L h' (news ++ its) → Q (.ref z) { s with heap := h' }) :
    wpAny (model prog w) A (call (.type "zip") [.ref l1, .ref l2]) Q E s := by
  have a1 := N _ h1
  have a2 := N _ h2
  have L1 : s.heap.IsList l1 xs.toArray := ⟨_, a1.1, rfl, n1, rfl⟩
  have L2 : s.heap.IsList l2 ys.toArray := ⟨_, a2.1, rfl, n2, rfl⟩
  have lt1 := Heap.lt_size a1.1
  have lt2 := Heap.lt_size a2.1
  have D : ZipApart (s.heap.objs.size + 4) (s.heap.objs.size + 2) (s.heap.objs.size + 3) s.heap.objs.size (s.heap.objs.size + 1) l1 l2 := ktu_apart _ _ _ lt1 lt2
  refine call_zip_2 L1 L2 fun h' z1 z2 z3 z4 z5 z6 hk => ?_
  have W := WalksT.zip2 (prog := prog) (w := w) hh _ _ _ _ _ _ _ D xs.toArray ys.toArray
  have F' : Fr g L h' m := by
    obtain ⟨o, es, ep, e1, e2, e3, e4⟩ := F.ns
    exact ⟨⟨o, es, ep, hk L o e1, e2, e3, e4⟩, fun b o e => hk b o (F.keep b o e), F.above⟩
  have hst := And.intro z1 (And.intro z2 (And.intro (⟨_, _, z3⟩ : ∃ a b, IsPair h' (s.heap.objs.size + 3) a b) (And.intro z4 (And.intro z5 (And.intro (L1.at fun o e => hk _ o e) (L2.at fun o e => hk _ o e))))))
  obtain ⟨o1, g1, _⟩ := z4
  obtain ⟨o2, g2, _⟩ := z5
  have hg : ∀ b ∈ [s.heap.objs.size + 4, s.heap.objs.size + 2, s.heap.objs.size + 3, s.heap.objs.size, s.heap.objs.size + 1, l1, l2], g.get? b = none ∧ b ≠ L := by
    intro b hb
    simp only [List.mem_cons, List.not_mem_nil, or_false] at hb
    rcases hb with rfl | rfl | rfl | rfl | rfl | rfl | rfl
    · exact fresh_none F (by k_extra "om")
    · exact fresh_none F (by k_extra "om")
    · exact fresh_none F (by k_extra "om")
    · exact fresh_none F (by k_extra "om")
    · exact fresh_none F (by k_extra "om")
    · exact ⟨a1.2.2, a1.2.1⟩
    · exact ⟨a2.2.2, a2.2.1⟩
  have sz : min xs.toArray.size ys.toArray.size = min xs.length ys.length := by rw [List.size_toArray, List.size_toArray]
  rw [sz] at W
  have e : (fun (i : Nat) (vals : Array Value) => ∃ x y, xs.toArray[i]? = some x ∧ ys.toArray[i]? = some y ∧ vals = #[x, y]) = (fun i vals => ∃ x y, xs[i]? = some x ∧ ys[i]? = some y ∧ vals = #[x, y]) := by
    funext i vals; simp
  rw [e] at W
  refine h _ _ _ (liveAt h' [s.heap.objs.size + 4, s.heap.objs.size + 2, s.heap.objs.size + 3, s.heap.objs.size, s.heap.objs.size + 1, l1, l2]) h' ⟨_, _, W, fun h'' e => ?_, fun p hp => (liveAt_of hp).1, hg⟩ (fun p hp q => ?_) (fun b hb => ?_) F' fun p hp => ?_
  · exact W.frame 0 h' h'' hst fun b hb o x => e (b, o) (liveAt_mem hb x)
  · have t : @_root_.LT.lt Nat instLTNat p.1 s.heap.objs.size := Heap.lt_size (N p hp).1
    simp only [List.mem_cons, List.not_mem_nil, or_false] at q
    rcases q with q | q | q | q
    · have q' : @Eq Nat p.1 (s.heap.objs.size + 4) := q
      k_extra "om"
    · have q' : @Eq Nat p.1 (s.heap.objs.size + 3) := q
      k_extra "om"
    · have q' : @Eq Nat p.1 s.heap.objs.size := q
      k_extra "om"
    · have q' : @Eq Nat p.1 (s.heap.objs.size + 1) := q
      k_extra "om"
  · simp only [List.mem_cons, List.not_mem_nil, or_false] at hb
    rcases hb with rfl | rfl | rfl | rfl | rfl | rfl | rfl
    · exact ⟨_, liveAt_mem (by simp) z1⟩
    · exact ⟨_, liveAt_mem (by simp) z2⟩
    · exact ⟨_, liveAt_mem (by simp) z3⟩
    · exact ⟨_, liveAt_mem (by simp) g1⟩
    · exact ⟨_, liveAt_mem (by simp) g2⟩
    · exact ⟨_, liveAt_mem (by simp) (hk _ _ a1.1)⟩
    · exact ⟨_, liveAt_mem (by simp) (hk _ _ a2.1)⟩
  · rcases List.mem_append.mp hp with hp | hp
    · exact ⟨hk _ _ (N p hp).1, (N p hp).2⟩
    · obtain ⟨b1, b2⟩ := liveAt_of hp
      exact ⟨b2, (hg _ b1).2, (hg _ b1).1⟩
end
end
section
theorem pick_cons {P : Nat → Value → Value → Prop} {a a' : Value} {l l' : List Value} (h0 : P 0 a a') (h : ∀ i x y, l[i]? = some x → l'[i]? = some y → P (i + 1) x y) : ∀ i x y, (a :: l)[i]? = some x → (a' :: l')[i]? = some y → P i x y
  | 0, _, _, e, e' => Option.some.inj e ▸ Option.some.inj e' ▸ h0
  | i + 1, x, y, e, e' => h i x y e e'
theorem pick_nil {P : Nat → Value → Value → Prop} : ∀ i x y, ([] : List Value)[i]? = some x → ([] : List Value)[i]? = some y → P i x y := fun _ _ _ e _ => nomatch e
theorem pick1_cons {P : Value → Prop} {a : Value} {l : List Value} (h0 : P a) (h : ∀ (i : Nat) x, l[i]? = some x → P x) : ∀ (i : Nat) x, (a :: l)[i]? = some x → P x
  | 0, _, e => Option.some.inj e ▸ h0
  | i + 1, x, e => h i x e
theorem len_cons {vs : List Value} {n : Nat} (h : vs.length = n + 1) : ∃ a l, vs = a :: l ∧ l.length = n := by
  obtain ⟨a, l, rfl⟩ := List.exists_cons_of_length_eq_add_one h
  exact ⟨a, l, rfl, Nat.succ.inj h⟩
theorem four_of {vs : List Value} (h : vs.length = 4) : ∃ a b c d, vs = [a, b, c, d] := by
  obtain ⟨a, l1, e1, h1⟩ := len_cons h
  obtain ⟨b, l2, e2, h2⟩ := len_cons h1
  obtain ⟨c, l3, e3, h3⟩ := len_cons h2
  obtain ⟨d, l4, e4, h4⟩ := len_cons h3
  exact ⟨a, b, c, d, by rw [e1, e2, e3, e4, List.eq_nil_of_length_eq_zero h4]⟩
theorem five_of {vs : List Value} (h : vs.length = 5) : ∃ a b c d e, vs = [a, b, c, d, e] := by
  obtain ⟨a, l, e1, h1⟩ := len_cons h
  obtain ⟨b, c, d, e, e2⟩ := four_of h1
  exact ⟨a, b, c, d, e, by rw [e1, e2]⟩
section
variable {prog : Program} {w : World} {A : Around} {s : Shared} {g : Heap} {L I C D : Addr} {m : Str → Option Value} {rest its : List (Addr × Obj)} {fp wr : List Addr} {n : Nat} {Pt : Nat → Array Value → Prop}
/-- a block of one loop over an iterator that hands out tuples, each turn of which gives a plain value -/
theorem comp_wt {elt iter : PySem.Expr} {elts : List PySem.Expr} {kk : Nat} {tpos pos : Pos} {scope : Scope} {cl : List (Str × Addr)} {env : Env} {R : Result → Shared → Prop} {oC : Obj} {n0 : Nat} {m₃ : Str → Option Value}
    (Out : Nat → Value → Prop) (W : WT prog w A g L I fp wr n 0 Pt its) (F : Fr g L s.heap m) (N : News g L s.heap ((C, oC) :: (D, listO [] n0) :: (rest ++ its))) (hC : LCg.NsObj oC m₃)
    (aC : AllLt C (rest ++ its)) (aD : AllLt D (rest ++ its)) (hDC : D < C) (hfp : ∀ b ∈ fp, ∃ o, (b, o) ∈ its) (ow : ∀ p ∈ rest, p.1 ∉ wr)
    (turn : ∀ (KK : Shared → Prop) i T vals acc k oC m₃ nx h tk, i < n → Pt i vals → IsTup h T vals → acc.length = i → (∀ p ∈ nx, p.1 ≠ C) → (∀ p ∈ nx, p.1 ≠ D) → (∀ p ∈ rest, p ∈ nx) → LCg.NsObj oC m₃ → Fr g L h m → News g L h ((C, oC) :: (D, listO acc k) :: nx) →
      (∀ oC' m₃' v k' h' tk', Out i v → LCg.NsObj oC' m₃' → Fr g L h' m → News g L h' ((C, oC') :: (D, listO (acc ++ [v]) k') :: nx) → KK { s with heap := h', toks := tk' }) →
      wpAny (model prog w) A (assign (.Tuple elts kk tpos) (compEnvC scope cl C env) (.ref T)) (fun _ s₃ =>
          wpAny (model prog w) A (eval elt (compEnvC scope cl C env)) (fun x s₄ => wpAny (model prog w) A (call (.builtin "list.append") [.ref D, x]) (fun _ s₅ => KK s₅) NoE s₄) NoE s₃) NoE { s with heap := h, toks := tk })
    (fin : ∀ vs k' oC' m₃' h' tk', vs.length = n → (∀ q v, vs[q]? = some v → Out q v) → LCg.NsObj oC' m₃' → Fr g L h' m → News g L h' ((C, oC') :: (D, listO vs k') :: rest) → R (.ok .next) { s with heap := h', toks := tk' }) :
    CompAt prog w A (.ListComp elt [⟨.Tuple elts kk tpos, iter, [], 0⟩] scope pos) 0 (.ref I) (.ref D) (compEnvC scope cl C env) R s := by
  have fC := wt_ne hfp (allLt_right aC)
  have fD := wt_ne hfp (allLt_right aD)
  have owC : C ∉ wr := fun q => fC _ (wt_sub W _ q) rfl
  have owD : D ∉ wr := fun q => fD _ (wt_sub W _ q) rfl
  have key : ∀ (j i : Nat) (its : List (Addr × Obj)) (acc : List Value) (k : Nat) (oC : Obj) (m₃ : Str → Option Value) (h : Heap) (tk : Nat), i + j = n → acc.length = i → (∀ q v, acc[q]? = some v → Out q v) → WT prog w A g L I fp wr n i Pt its → LCg.NsObj oC m₃ → Fr g L h m →
      News g L h ((C, oC) :: (D, listO acc k) :: (rest ++ its)) → CompAt prog w A (.ListComp elt [⟨.Tuple elts kk tpos, iter, [], 0⟩] scope pos) 0 (.ref I) (.ref D) (compEnvC scope cl C env) R { s with heap := h, toks := tk } := by
    intro j
    induction j with
    | zero =>
      intro i its acc k oC m₃ h tk hij hl hO W hC F N
      have hin : i = n := hij
      subst hin
      refine comp_turn (wt_end (news' := (C, oC) :: (D, listO acc k) :: rest) W F N (fun p hp => .tail _ (.tail _ (List.mem_append_right _ hp))) ?_ ?_ fun h' tk' F' N' => fin acc k oC m₃ h' tk' hl hO hC F' N')
      · intro p hp
        rcases List.mem_cons.mp hp with rfl | hp
        · exact .head _
        · rcases List.mem_cons.mp hp with rfl | hp
          · exact .tail _ (.head _)
          · exact .tail _ (.tail _ (List.mem_append_left _ hp))
      · intro p hp
        rcases List.mem_cons.mp hp with rfl | hp
        · exact owC
        · rcases List.mem_cons.mp hp with rfl | hp
          · exact owD
          · exact ow p hp
    | succ j ih =>
      intro i its acc k oC m₃ h tk hij hl hO W hC F N
      refine comp_turn (wt_next (news' := (C, oC) :: (D, listO acc k) :: rest) W (by k_extra "om") F N (fun p hp => .tail _ (.tail _ (List.mem_append_right _ hp))) ?_ ?_ fun T vals its' h' tk' hP hT W' hi' F' N' => ?_)
      · intro p hp
        rcases List.mem_cons.mp hp with rfl | hp
        · exact .head _
        · rcases List.mem_cons.mp hp with rfl | hp
          · exact .tail _ (.head _)
          · exact .tail _ (.tail _ (List.mem_append_left _ hp))
      · intro p hp
        rcases List.mem_cons.mp hp with rfl | hp
        · exact owC
        · rcases List.mem_cons.mp hp with rfl | hp
          · exact owD
          · exact ow p hp
      · refine turn _ i T vals acc k oC m₃ (rest ++ its') h' tk' (by k_extra "om") hP hT hl (off_both (allLt_left aC) fC hi') (off_both (allLt_left aD) fD hi') (fun p hp => List.mem_append_left _ hp) hC F' N' fun oC' m₃' v k' h2 tk2 ho hC' F2 N2 => ?_
        refine ih (i + 1) its' (acc ++ [v]) k' oC' m₃' h2 tk2 (by k_extra "om") (by rw [List.length_append, hl]; rfl) ?_ W' hC' F2 N2
        intro q u hq
        rcases Nat.lt_or_ge q acc.length with hlt | hge
        · rw [List.getElem?_append_left hlt] at hq
          exact hO q u hq
        · rw [List.getElem?_append_right hge] at hq
          cases hqe : q - acc.length with
          | zero =>
            rw [hqe] at hq
            have : q = i := by k_extra "om"
            subst this
            cases hq
            exact ho
          | succ r => rw [hqe] at hq; exact nomatch hq
  exact key n 0 its [] n0 oC m₃ s.heap s.toks (Nat.zero_add _) rfl (fun q v h => nomatch h) W hC F N
end
end
section
noncomputable abbrev tiO (t : Addr) (i : Nat) : Obj := { cls := .type "tuple_iterator", data := .fields #[.ref t, .int i 0] }
section
variable {prog : Program} {w : World} {A : Around} {E : Value → Shared → Prop} {s : Shared} {g : Heap} {L I : Addr} {m : Str → Option Value} {news its : List (Addr × Obj)}
theorem tup_item {it t : Addr} {i : Nat} {items : Array Value} {x : Value} {Q : Value → Shared → Prop} (hit : s.heap.IsTupleIter it t i) (ht : s.heap.IsTuple t items) (hx : items[i]? = some x)
    (hQ : ∀ h', h'.IsTupleIter it t (i + 1) → Heap.SameBut it s.heap h' → Q x { s with heap := h' }) : wpAny (model prog w) A (Builtin.SmallTypes.nextOf (.ref it)) Q E s := by
  obtain ⟨o, ho, hc, hd⟩ := id hit
  obtain ⟨ot, hot, _, nt, hdt⟩ := ht
  unfold Builtin.SmallTypes.nextOf
  refine wpAny_bind (wpAny_callSpecial?_slot (name := Str.ofString "__next__") hit.typeIs F.slot_tuple_iterator_next (wpAny_call_entry F.slot_tuple_iterator_next hit.typeIs F.entry_tuple_iterator_next ?_ (F.args_tuple_iterator_next_1 _)))
  show wpAny _ _ (field (.ref it) 0 >>= _) _ _ s
  refine wpAny_bind (wpAny_field ho hd (x := .ref t) rfl ?_)
  show wpAny _ _ (if (Value.ref t == Value.none) = true then _ else _) _ _ s
  rw [if_neg (by intro k; cases k)]
  show wpAny _ _ (field (.ref it) 1 >>= _) _ _ s
  refine wpAny_bind (wpAny_field ho hd (x := .int i 0) rfl ?_)
  show wpAny _ _ (seqItems? (.ref t) >>= _) _ _ s
  refine wpAny_bind (wpAny_seqItems hot hdt ?_)
  rw [show ((i : Int)).toNat = i from rfl]
  simp only [hx]
  refine wpAny_bind (wpAny_setField ho hd (by simp) (wpAny_pure ⟨x, rfl, wpAny_pure (hQ _ ⟨_, Heap.get?_update_self _ ho (Obj.isFreed_of_fields (Obj.data_mapFields hd _)), (Obj.cls_mapFields ..).trans hc, ?_⟩ (Heap.SameBut.update ..))⟩))
  rw [Obj.data_mapFields hd]
  simp [rawInt]
theorem tup_stop {it t : Addr} {i : Nat} {items : Array Value} {Q : Value → Shared → Prop} (hh : A.handled = none) (hit : s.heap.IsTupleIter it t i) (ht : s.heap.IsTuple t items) (hx : items[i]? = none)
    (hE : ∀ h' e, Heap.ExtBut it s.heap h' → (∃ o, h'.get? e = some o ∧ o.cls = .type "StopIteration") → E (.ref e) { s with heap := h' }) : wpAny (model prog w) A (Builtin.SmallTypes.nextOf (.ref it)) Q E s := by
  obtain ⟨o, ho, hc, hd⟩ := id hit
  obtain ⟨ot, hot, _, nt, hdt⟩ := ht
  unfold Builtin.SmallTypes.nextOf
  refine wpAny_bind (wpAny_callSpecial?_slot (name := Str.ofString "__next__") hit.typeIs F.slot_tuple_iterator_next (wpAny_call_entry F.slot_tuple_iterator_next hit.typeIs F.entry_tuple_iterator_next ?_ (F.args_tuple_iterator_next_1 _)))
  show wpAny _ _ (field (.ref it) 0 >>= _) _ _ s
  refine wpAny_bind (wpAny_field ho hd (x := .ref t) rfl ?_)
  show wpAny _ _ (if (Value.ref t == Value.none) = true then _ else _) _ _ s
  rw [if_neg (by intro k; cases k)]
  show wpAny _ _ (field (.ref it) 1 >>= _) _ _ s
  refine wpAny_bind (wpAny_field ho hd (x := .int i 0) rfl ?_)
  show wpAny _ _ (seqItems? (.ref t) >>= _) _ _ s
  refine wpAny_bind (wpAny_seqItems hot hdt ?_)
  rw [show ((i : Int)).toNat = i from rfl]
  simp only [hx]
  refine wpAny_bind (wpAny_rule (wpAny_bind (wpAny_setField ho hd (by simp) ?_)))
  show wpAny _ _ (newExc (.type "StopIteration") [] >>= _) _ _ _
  refine wpAny_bind ?_
  simp only [newExc, newTuple]
  refine wpAny_bind (wpAny_newObj_type ?_ (by size_fits))
  refine wpAny_bind (m := firstArgMember _ _) (wpAny_of_eq (a := Value.none) (by first | rfl | (simp only [firstArgMember]; rfl)) ?_)
  refine wpAny_newObj_type ?_ (by size_fits)
  simp only [raiseNew]
  refine wpAny_bind (wpAny_handled ?_)
  rw [show A.in1.handled = none from hh]
  refine wpAny_bind (wpAny_pure (wpAny_throw ?_))
  exact hE _ _ (((Heap.SameBut.update ..).extBut.push _).push _) ⟨_, Heap.get?_push_size _ rfl, rfl⟩
theorem draws_tup (hh : A.handled = none) (it t : Addr) (hne : t ≠ it) (items : Array Value) :
    Draws prog w A it [it, t] items.size (fun i v => items[i]? = some v) (fun i h => h.IsTupleIter it t i ∧ h.IsTuple t items) where
  live := fun _ _ st => let ⟨o, ho, _⟩ := st.1; ⟨o, ho⟩
  frame := fun _ h h' st hk => by
    obtain ⟨⟨o, ho, r⟩, o2, ho2, r2⟩ := st
    exact ⟨⟨o, hk it (by simp) o ho, r⟩, o2, hk t (by simp) o2 ho2, r2⟩
  item := fun i s Q E hi st hQ => by
    refine tup_item st.1 st.2 (x := items[i]) (by simp [hi]) fun h' hit' hs' => ?_
    exact hQ _ h' s.toks (by simp [hi]) ⟨hit', st.2.extBut hs'.extBut hne⟩ hs'
  done := fun s Q E st hE => tup_stop hh st.1 st.2 (by simp) hE
theorem enum_new (t : Addr) (o : Obj) (items : Array Value) (n : Nat) (hc : o.cls = .type "tuple") (hd : o.data = .seq items n) :
    Meets (Builtin.«enumerate.__new__» ⟨[.type "enumerate", .ref t], []⟩) (fun _ R s => s.heap.get? t = some o ∧
      R (.ok (.ret (.ref (s.heap.push { cls := .type "tuple_iterator", data := .fields #[.ref t, .int 0 0] }).objs.size)))
        { s with heap := (s.heap.push { cls := .type "tuple_iterator", data := .fields #[.ref t, .int 0 0] }).push { cls := .type "enumerate", data := .fields #[.none, .bool false, .ref s.heap.objs.size, rawInt 0, .none, .none] } }) :=
  .of_wp fun prog w A R s h => by
    obtain ⟨hp, g, d, tk, os⟩ := s
    obtain ⟨hl, h⟩ := h
    have hsub := sub_enumerate
    have hT : Heap.IsTuple (Shared.heap ⟨hp, g, d, tk, os⟩) t items := ⟨_, hl, hc, n, hd⟩
    wp_walk using AutoSeq1.wpAny_loadPart' hl
    refine wpAny_stack_any fun st => wpAny_pure ?_
    split
    · rename_i c _ _ _ _ _
      cases (c == Value.type "enumerate")
      · wp_walk using AutoSeq1.wpAny_loadPart' hl, wpAny_pyIter_tuple hT
        exact ⟨_, rfl, h⟩
      · wp_walk using AutoSeq1.wpAny_loadPart' hl, wpAny_pyIter_tuple hT
        exact ⟨_, rfl, h⟩
    · wp_walk using AutoSeq1.wpAny_loadPart' hl, wpAny_pyIter_tuple hT
      exact ⟨_, rfl, h⟩
theorem enum_r {t : Addr} {vs : List Value} {Q : Value → Shared → Prop} (hh : A.handled = none) (F9 : Fr g L s.heap m) (N : News g L s.heap news) (hm : (t, tupO vs) ∈ news)
    (h : ∀ e fp wr its h', WT prog w A g L e fp wr vs.length 0 (fun i vals => ∃ tk x, vs[i]? = some x ∧ vals = #[.int (i : Int) tk, x]) its → (∀ p ∈ news, p.1 ∉ wr) → (∀ b ∈ fp, ∃ o, (b, o) ∈ its) → Fr g L h' m → News g L h' (news ++ its) → Q (.ref e) { s with heap := h' }) :
    wpAny (model prog w) A (call (.type "enumerate") [.ref t]) Q E s := by
  have a1 := N _ hm
  have lt1 : @_root_.LT.lt Nat instLTNat t s.heap.objs.size := Heap.lt_size a1.1
  refine callType_new F.called_enumerate (by decide) (F.typeCall_enumerate_1 _) (F.newCall_enumerate_1 _) (fun obj => F.args_object_init_2 obj _) F.entry_enumerate_new
    (enum_new t (tupO vs) vs.toArray 0 rfl rfl) ⟨a1.1, ?_⟩
  have hz : (s.heap.push (tiO t 0)).objs.size = s.heap.objs.size + 1 := Heap.size_push ..
  show _ ∧ _
  rw [show (s.heap.push { cls := .type "tuple_iterator", data := .fields #[.ref t, .int 0 0] }).objs.size = s.heap.objs.size + 1 from hz]
  generalize hh' : (s.heap.push { cls := .type "tuple_iterator", data := .fields #[.ref t, .int 0 0] }).push { cls := .type "enumerate", data := .fields #[.none, .bool false, .ref s.heap.objs.size, rawInt 0, .none, .none] } = h'
  have hk : ∀ b o, s.heap.get? b = some o → h'.get? b = some o := fun b o x => by rw [← hh']; exact Heap.get?_push_of_some _ (Heap.get?_push_of_some _ x)
  have he : IsEnum h' (s.heap.objs.size + 1) s.heap.objs.size 0 .none := by
    have := Heap.get?_push_size (s.heap.push (tiO t 0)) (o := { cls := .type "enumerate", data := .fields #[.none, .bool false, .ref s.heap.objs.size, rawInt 0, .none, .none] }) rfl
    rw [hz] at this
    rw [← hh']
    exact this
  have hi : h'.IsTupleIter s.heap.objs.size t 0 := ⟨tiO t 0, by rw [← hh']; exact Heap.get?_push_of_some _ (Heap.get?_push_size _ rfl), rfl, rfl⟩
  have ht : h'.IsTuple t vs.toArray := ⟨_, hk _ _ a1.1, rfl, _, rfl⟩
  refine ⟨⟨_, he, rfl⟩, ?_⟩
  have D := draws_tup (prog := prog) (w := w) (A := A.in1) hh s.heap.objs.size t (Nat.ne_of_lt lt1) vs.toArray
  have W := WalksT.enumerateD D (s.heap.objs.size + 1) (Nat.succ_ne_self _) (fun q => by
    simp only [List.mem_cons, List.not_mem_nil, or_false] at q
    rcases q with q | q
    · have q' : @Eq Nat (s.heap.objs.size + 1) s.heap.objs.size := q
      k_extra "om"
    · have q' : @Eq Nat (s.heap.objs.size + 1) t := q
      k_extra "om") (List.mem_cons_self ..)
  have F' : Fr g L h' m := by
    obtain ⟨o, es, ep, e1, e2, e3, e4⟩ := F9.ns
    exact ⟨⟨o, es, ep, hk L o e1, e2, e3, e4⟩, fun b o e => hk b o (F9.keep b o e), F9.above⟩
  have hg : ∀ b ∈ [s.heap.objs.size + 1, s.heap.objs.size, t], g.get? b = none ∧ b ≠ L := by
    intro b hb
    simp only [List.mem_cons, List.not_mem_nil, or_false] at hb
    rcases hb with rfl | rfl | rfl
    · exact fresh_none F9 (by k_extra "om")
    · exact fresh_none F9 (by k_extra "om")
    · exact ⟨a1.2.2, a1.2.1⟩
  rw [List.size_toArray] at W
  have e : (fun (i : Nat) (vals : Array Value) => ∃ tk x, vs.toArray[i]? = some x ∧ vals = #[.int (i : Int) tk, x]) = (fun i vals => ∃ tk x, vs[i]? = some x ∧ vals = #[.int (i : Int) tk, x]) := by
    funext i vals; simp
  rw [e] at W
  obtain ⟨oi, gi, _⟩ := id hi
  refine h _ _ _ (liveAt h' [s.heap.objs.size + 1, s.heap.objs.size, t]) h' ⟨_, _, W, fun h'' e => ?_, fun p hp => (liveAt_of hp).1, hg⟩ (fun p hp q => ?_) (fun b hb => ?_) F' fun p hp => ?_
  · exact W.frame 0 h' h'' ⟨⟨_, he⟩, hi, ht⟩ fun b hb o x => e (b, o) (liveAt_mem hb x)
  · have t9 : @_root_.LT.lt Nat instLTNat p.1 s.heap.objs.size := Heap.lt_size (N p hp).1
    simp only [List.mem_cons, List.not_mem_nil, or_false] at q
    rcases q with q | q
    · have q' : @Eq Nat p.1 (s.heap.objs.size + 1) := q
      k_extra "om"
    · have q' : @Eq Nat p.1 s.heap.objs.size := q
      k_extra "om"
  · simp only [List.mem_cons, List.not_mem_nil, or_false] at hb
    rcases hb with rfl | rfl | rfl
    · exact ⟨_, liveAt_mem (by simp) he⟩
    · exact ⟨_, liveAt_mem (by simp) gi⟩
    · exact ⟨_, liveAt_mem (by simp) (hk _ _ a1.1)⟩
  · rcases List.mem_append.mp hp with hp | hp
    · exact ⟨hk _ _ (N p hp).1, (N p hp).2⟩
    · obtain ⟨b1, b2⟩ := liveAt_of hp
      exact ⟨b2, (hg _ b1).2, (hg _ b1).1⟩
end
end
section
theorem ints_ex : ∀ {ws : List Value}, (∀ v ∈ ws, ∃ z t, v = Value.int z t) → ∃ zs, IntsAre ws zs
  | [], _ => ⟨[], .nil⟩
  | v :: r, h => by
    obtain ⟨z, t, e⟩ := h v (.head _)
    obtain ⟨zs, hz⟩ := ints_ex fun u hu => h u (.tail _ hu)
    exact ⟨z :: zs, e ▸ .cons z t hz⟩
theorem ints_at : ∀ {vs : List Value} {ns : List Int}, IntsAre vs ns → ∀ v ∈ vs, ∃ z t, v = Value.int z t
  | _, _, .nil, _, h => nomatch h
  | _, _, .cons k t r, v, h => by
    rcases List.mem_cons.mp h with rfl | h
    · exact ⟨k, t, rfl⟩
    · exact ints_at r v h
section
variable {prog : Program} {w : World} {A : Around} {E : Value → Shared → Prop} {s : Shared} {g : Heap} {L l : Addr} {m : Str → Option Value} {news : List (Addr × Obj)} {vs : List Value} {ns : List Int} {n : Nat}
theorem sum_r {Q : Value → Shared → Prop} (hh : A.handled = none) (F : Fr g L s.heap m) (N : News g L s.heap news) (hm : (l, listO vs n) ∈ news) (hi : IntsAre vs ns)
    (h : ∀ z t h' tk, Fr g L h' m → News g L h' news → Q (.int z t) { s with heap := h', toks := tk }) : wpAny (model prog w) A (call (.builtin "sum") [.ref l]) Q E s := by
  have a1 := N _ hm
  obtain ⟨xs, hx⟩ := hi.allInts.items
  refine sum_intListG hh (l := l) (xs := xs) (hx ▸ ⟨_, a1.1, rfl, n, rfl⟩) fun h' tk t' hk => ?_
  obtain ⟨o, es, ep, e1, e2, e3, e4⟩ := F.ns
  exact h _ _ h' tk ⟨⟨o, es, ep, hk L o e1, e2, e3, e4⟩, fun b o e => hk b o (F.keep b o e), F.above⟩ fun p hp => ⟨hk _ _ (N p hp).1, (N p hp).2⟩
theorem step_r {value slice : PySem.Expr} {i k : Int} {t u : Tok} {ops : List Value} {Q : Value → Shared → Prop} (F : Fr g L s.heap m) (N : News g L s.heap news) (hm : (l, listO vs n) ∈ news) (hi : IntsAre vs ns) (hz : ns.length ≤ 1000) (h0 : k ≠ 0)
    (h : ∀ D ws zs h', IntsAre ws zs → Fr g L h' m → News g L h' ((D, listO ws 0) :: news) → (∀ p ∈ news, p.1 < D) → Q (.ref D) { s with heap := h' })
    (hs : subscripted slice false (.ref l) (.ref s.heap.objs.size) = operate ops (getItem (.ref l) (.ref s.heap.objs.size))) (ht : ∀ r, letTemporaryGo value (.ref l) r = pure ()) :
    wpAny (model prog w) A (subscriptTail value slice (.ref l) (.ref s.heap.objs.size)) Q E { s with heap := s.heap.push { cls := .type "slice", data := .fields #[.int i t, .none, .int k u] } } := by
  have a1 := N _ hm
  obtain ⟨zs, hzs⟩ := ints_ex (ws := (slicePick vs.toArray (some i) none (some k)).toList) fun v hv => by
    unfold slicePick at hv
    simp only [List.mem_filterMap] at hv
    obtain ⟨j, _, hj⟩ := hv
    exact ints_at hi v (by simpa using Array.mem_of_getElem? hj)
  refine kmk_slice3_lit F N (its := vs.toArray) ⟨_, a1.1, rfl, n, rfl⟩ (IsPart.int _ _) IsPart.none (IsPart.int _ _) (fun e => h0 (Option.some.inj e)) rfl (fun D h' F' N' l1 => h D _ zs h' hzs F' N' l1) hs ht ?_
  rw [List.size_toArray, hi.length, sizeLine_eq]
  k_extra "om"
end
end
section
variable {w : World} {mean : ExcName → Option Value} {mg mb : Str → Option Value} {dp un : Nat} {gd : Option (List Code)} {cn : Str} {cs : Scope} {L a : Addr} {ccd : Value} {cl : List (Str × Addr)} {outer : List Env}
   {A₀ : Around} {base h₀ : Heap} {m : Str → Option Value} {s : Shared} {Q E : Value → Shared → Prop}
open G0 G3 G4 G8 G10 G11 G32
theorem paired_ints (f : Int → Int) : ∀ {vs ys : List Value} {ns : List Int}, IntsAre vs ns → Paired (fun x v => ∃ (z : Int) (t0 t1 : Tok), (∀ t, x t = Value.int z t0) ∧ v = .int (f z) t1) (cV vs) ys → IntsAre ys (ns.map f)
  | _, _, _, .nil, .nil => .nil
  | _, _, _, .cons k t0 r, .cons ⟨k', t0', t1, e, e2⟩ p => by
    have := e 0
    cases this
    subst e2
    exact .cons _ _ (paired_ints f r p)
theorem law0 {ow : Addr} {vals : List Value} {ns : List Int} {oc : Obj} {rr : List (Addr × Obj)} {sc : Scope} {st : Stmt} {Lk fa : Addr} {cd : Value} {g : Heap} {m1 : Str → Option Value} {Qf : Flow → Shared → Prop} (hsc : sc = scL)
   (B : Below callerA g [] g) (F : Fr g Lk s.heap m1) (X : (K w.params).In g) (N : News g Lk s.heap ((Lk + 1, oc) :: rr))
   (T : Top topProg LL mean mg mb g) (hst : st = lS 0)
   (hcd : ∃ v, oc.data = Data.cell v) (hk : Has m1 [(Str.ofString "script", .ref ow)]) (hs : g.IsList ow vals.toArray) (hI : IntsAre vals ns) (hz : ns.length ≤ 63) (e1 : ∀ p ∈ rr, p.1 ≠ Lk + 1)
   (hret : ∀ Dc cv n oc' h' tk', Fr g Lk h' m1 → News g Lk h' ((Dc, listO cv n) :: (Lk + 1, oc') :: rr) → AllLt Dc ((Lk + 1, oc) :: rr) → IntsAre cv ((ns.take 12).map fun z => Int.fmod z (10 ^ Int.toNat 6)) → oc'.data = Data.cell (some (.ref Dc)) → Qf .next { s with heap := h', toks := tk' }) : wpAny (model PP w) (callerA.deeper (envOfC (Str.ofString "law") sc Lk fa cd)) (exec st (envOfC (Str.ofString "law") sc Lk fa cd)) Qf (fun e s' => wpAny (model PP w) (callerA.deeper (envOfC (Str.ofString "law") sc Lk fa cd)) (leaving (envOfC (Str.ofString "law") sc Lk fa cd) e) (fun _ s'' => E e s'') (fun e' s'' => E e' s'') s') s := by
  conv at hsc => rhs; whnf
  conv at hst => rhs; whnf
  subst hsc; subst hst
  obtain ⟨v0, hcd⟩ := hcd
  rw [← kst_same hk] at F
  k_steps
  k_extra "mine held"
  k_extra "mine cexpr"
  k_steps
  rename_i D1 ws1 h1 F1 N1 hI1 hC1 hL1 l1
  k_extra "mine held"
  k_extra "mine ylist"
  k_extra "mine cbegin"
  k_dflt (refine' comp_map_r (fun x v => ∃ (z : Int) (t0 t1 : Tok), (∀ t, x t = Value.int z t0) ∧ v = .int (Int.fmod z (10 ^ Int.toNat 6)) t1) (fun s h => comp_turn h) ?v01 ?v02 ?v03 ?v0F ?v0N ?v0U1 ?v0U2 ?v0U3 ?v0Y ?v0C ?v0s ?v0z ?v0e ?v0f)
  case v01 => exact rfl
  case v02 => exact rfl
  case v03 => exact rfl
  case v0F => k_asm
  case v0N => k_asm
  case v0U1 => k_extra "mine rem"
  case v0U2 => k_extra "mine rem"
  case v0U3 => k_extra "mine rem"
  case v0Y => k_asm
  case v0C => k_asm
  case v0s => k_extra "mine sub"
  case v0z =>
    rw [show (cV ws1).length = ws1.length from List.length_map _, hI1.length, hC1]
    have : min 12 ns.length ≤ 12 := Nat.min_le_left _ _
    show 0 + _ < 1048576
    k_extra "om"
  case v0e =>
    intro x hx t oC0 io0 acc0 n0 m0 h0 tk0 Q0 c01 c02 c03 F0 N0 ret
    obtain ⟨z, t0, hz0, rfl⟩ := ints_cV hI1 hx
    have c4 : m0 (Str.ofString "cell") = some (.int z t0) := c02
    k_steps
    exact ret _ _ _ ⟨z, t0, _, fun _ => rfl, rfl⟩ (by k_asm) (by k_asm)
  case v0f =>
    intro ys0 oD0 nD0 mD0 hD0 tD0 hP0 cD0 cE0 FD0 ND0
    k_extra "mine cend"
    k_steps
    rw [kst_same hk] at *
    exact hret _ _ _ _ _ _ (by k_asm) (by k_extra "mine news") (by k_extra "mine lt24") (paired_ints _ hI1 hP0) (by with_reducible assumption)
end
section
variable {w : World} {mean : ExcName → Option Value} {mg mb : Str → Option Value} {dp un : Nat} {gd : Option (List Code)} {cn : Str} {cs : Scope} {L a : Addr} {ccd : Value} {cl : List (Str × Addr)} {outer : List Env}
   {A₀ : Around} {base h₀ : Heap} {m : Str → Option Value} {s : Shared} {Q E : Value → Shared → Prop}
open G0 G3 G4 G5 G8 G10 G11 G32 G34 G41 G45 G49
theorem five_int {a b c d e : Int} {p q r s t : Tok} : ∀ (i : Nat) (x : Value), [Value.int a p, .int b q, .int c r, .int d s, .int e t][i]? = some x → ∃ z u, x = .int z u :=
  pick1_cons ⟨_, _, rfl⟩ (pick1_cons ⟨_, _, rfl⟩ (pick1_cons ⟨_, _, rfl⟩ (pick1_cons ⟨_, _, rfl⟩ (pick1_cons ⟨_, _, rfl⟩ fun _ _ e => nomatch e))))
theorem law1 {Dc : Addr} {cv : List Value} {cs9 : List Int} {n : Nat} {oc : Obj} {rr : List (Addr × Obj)} {sc : Scope} {st : Stmt} {Lk fa : Addr} {cd : Value} {g : Heap} {m1 : Str → Option Value} {Qf : Flow → Shared → Prop} (hsc : sc = scL)
   (B : Below callerA g [] g) (F : Fr g Lk s.heap m1) (X : (K w.params).In g) (N : News g Lk s.heap ((Lk + 1, oc) :: (Dc, listO cv n) :: rr))
   (T : Top topProg LL mean mg mb g) (hst : st = lS 1)
   (hcd : oc.data = Data.cell (some (.ref Dc))) (hI : IntsAre cv cs9) (hz : cs9.length ≤ 12) (e1 : ∀ p ∈ rr, p.1 ≠ Lk + 1)
   (hret : ∀ Dh h0 h1 h2 h3 h4 t0 t1 t2 t3 t4 k h' tk', Fr g Lk h' (fun y => if y = Str.ofString "heaps" then some (.ref Dh) else m1 y) → News g Lk h' ((Dh, listO [.int h0 t0, .int h1 t1, .int h2 t2, .int h3 t3, .int h4 t4] k) :: (Lk + 1, oc) :: (Dc, listO cv n) :: rr) → AllLt Dh ((Lk + 1, oc) :: (Dc, listO cv n) :: rr) → Qf .next { s with heap := h', toks := tk' }) : wpAny (model PP w) (callerA.deeper (envOfC (Str.ofString "law") sc Lk fa cd)) (exec st (envOfC (Str.ofString "law") sc Lk fa cd)) Qf (fun e s' => wpAny (model PP w) (callerA.deeper (envOfC (Str.ofString "law") sc Lk fa cd)) (leaving (envOfC (Str.ofString "law") sc Lk fa cd) e) (fun _ s'' => E e s'') (fun e' s'' => E e' s'') s') s := by
  conv at hsc => rhs; whnf
  conv at hst => rhs; whnf
  subst hsc; subst hst
  have RRm0 : (Lk + 1, oc) ∈ (Lk + 1, oc) :: (Dc, listO cv n) :: rr := by repeat (first | exact List.Mem.head _ | apply List.Mem.tail)
  have RRm1 : (Dc, listO cv n) ∈ (Lk + 1, oc) :: (Dc, listO cv n) :: rr := by repeat (first | exact List.Mem.head _ | apply List.Mem.tail)
  generalize RRe : (Lk + 1, oc) :: (Dc, listO cv n) :: rr = RR at N hret RRm0 RRm1 
  clear RRe
  k_steps
  k_extra "mine held"
  k_extra "mine cassign"
  k_steps
  refine Hold.out ?_
  try k_unmd
  k_dflt (refine' enum_r ?eh ?eF ?eN ?em ?_; (case eh => exact rfl); (case eF => k_asm); (case eN => k_asm); (case em => k_extra "mine mem"); intro en fp wr its0 h0 W0 ow0 fpo F0 N0)
  try dsimp only
  simp only [List.cons_append] at N0
  k_steps
  refine Hold.out ?_
  try k_unmd
  refine wt_self W0 N0 (by k_extra "mine subw") ?_
  try dsimp only
  k_dflt (refine' comp_begin ?b0F ?b0N ?b0c ?b0k ?b0s ?_; (case b0F => k_asm); (case b0N => k_asm); (case b0c => decide +kernel); (case b0k => exact rfl); (case b0s => exact fun s' l Q' N' hs hq => wt_self W0 N' (fun p hp => hs p (by repeat (first | exact hp | exact List.mem_append_right _ hp | apply List.mem_cons_of_mem))) hq); intro Dn Cn oCn hn tkn hCn Fn Nn lDn lCn; (try k_lt lDn); (try k_lt lCn))
  try dsimp only
  have aC : AllLt Cn (RR ++ its0) := by k_extra "mine lt24"
  have aD : AllLt Dn (RR ++ its0) := by k_extra "mine lt24"
  k_dflt (refine' comp_wt (rest := RR) (fun i v => ∃ z t, v = .int z t) W0 ?vF ?vN ?vC aC aD ?vl fpo (fun p hp => ow0 p (.tail _ hp)) ?vt ?vf)
  case vF => k_asm
  case vN => k_extra "mine news"
  case vC => k_asm
  case vl => exact lCn.1
  case vt =>
    intro KK i T vals acc8 k8 oC8 m8 nx8 h8 tk8 hi hP hT hz cC8 cD8 hs8 hC8 F8 N8 kont8
    have hz8 : acc8.length < 5 := hz ▸ hi
    clear hi hz
    obtain ⟨tq, x, hx, rfl⟩ := hP
    obtain ⟨z, u, rfl⟩ := five_int _ _ hx
    have hm0 := hs8 _ RRm0
    have hm1 := hs8 _ RRm1
    k_steps
    exact kont8 _ _ _ _ _ _ ⟨_, _, rfl⟩ (by assumption) (by k_asm) (by k_extra "mine news")
  case vf =>
    intro vs k8 oC8 m8 h8 tk8 hl hO hC8 F8 N8
    obtain ⟨va, vb, vc, vd, ve, rfl⟩ := five_of hl
    obtain ⟨za, ta, rfl⟩ := hO 0 _ rfl
    obtain ⟨zb, tb, rfl⟩ := hO 1 _ rfl
    obtain ⟨zc, tc, rfl⟩ := hO 2 _ rfl
    obtain ⟨zd, td, rfl⟩ := hO 3 _ rfl
    obtain ⟨ze, te, rfl⟩ := hO 4 _ rfl
    try dsimp only
    have aCr := allLt_left aC
    have aDr := allLt_left aD
    refine comp_use ?_
    k_steps
    k_dflt (refine' comp_fin ?yF ?yN ?yU ?yC ?_)
    case yF => k_asm
    case yN => k_asm
    case yU => k_extra "mine rem"
    case yC => k_asm
    intro h9 F9 N9
    try dsimp only
    k_steps
    exact hret _ _ _ _ _ _ _ _ _ _ _ _ _ _ (by k_asm) (by k_extra "mine news") aDr
end
section
variable {w : World} {mean : ExcName → Option Value} {mg mb : Str → Option Value} {dp un : Nat} {gd : Option (List Code)} {cn : Str} {cs : Scope} {L a : Addr} {ccd : Value} {cl : List (Str × Addr)} {outer : List Env}
   {A₀ : Around} {base h₀ : Heap} {m : Str → Option Value} {s : Shared} {Q E : Value → Shared → Prop}
open G0 G3 G4 G8 G10 G11 G32
theorem ints4 {a0 a1 a2 a3 : Int} {t0 t1 t2 t3 : Tok} {x : Tok → Value} (hx : x ∈ cV [.int a0 t0, .int a1 t1, .int a2 t2, .int a3 t3]) : ∃ z t, x = fun _ => Value.int z t := by
  simp only [cV, List.map_cons, List.map_nil, List.mem_cons, List.not_mem_nil, or_false] at hx
  rcases hx with rfl | rfl | rfl | rfl <;> exact ⟨_, _, rfl⟩
theorem paired1 {f : Int → Int} {a : Int} {t : Tok} {v : Value} : (∃ (z : Int) (t0 t1 : Tok), (∀ t' : Tok, (fun _ => Value.int a t) t' = Value.int z t0) ∧ v = .int (f z) t1) → ∃ u, v = .int (f a) u
  | ⟨_, _, _, e, e2⟩ => by
    have e := e 0
    cases e
    exact ⟨_, e2⟩
theorem paired4 {f : Int → Int} {a0 a1 a2 a3 : Int} {t0 t1 t2 t3 : Tok} {ys : List Value} (h : Paired (fun x v => ∃ (z : Int) (t0 t1 : Tok), (∀ t, x t = Value.int z t0) ∧ v = .int (f z) t1) (cV [.int a0 t0, .int a1 t1, .int a2 t2, .int a3 t3]) ys) : ∃ u0 u1 u2 u3, ys = [.int (f a0) u0, .int (f a1) u1, .int (f a2) u2, .int (f a3) u3] := by
  cases h with
  | cons p0 h =>
    cases h with
    | cons p1 h =>
      cases h with
      | cons p2 h =>
        cases h with
        | cons p3 h =>
          cases h
          obtain ⟨u0, rfl⟩ := paired1 p0
          obtain ⟨u1, rfl⟩ := paired1 p1
          obtain ⟨u2, rfl⟩ := paired1 p2
          obtain ⟨u3, rfl⟩ := paired1 p3
          exact ⟨_, _, _, _, rfl⟩
theorem law2 {Dh : Addr} {h0 h1 h2 h3 h4 : Int} {t0 t1 t2 t3 t4 : Tok} {k : Nat} {oc : Obj} {rr : List (Addr × Obj)} {sc : Scope} {st : Stmt} {Lk fa : Addr} {cd : Value} {g : Heap} {m1 : Str → Option Value} {Qf : Flow → Shared → Prop} (hsc : sc = scL)
   (B : Below callerA g [] g) (F : Fr g Lk s.heap m1) (X : (K w.params).In g) (N : News g Lk s.heap ((Lk + 1 + 1, oc) :: (Dh, listO [.int h0 t0, .int h1 t1, .int h2 t2, .int h3 t3, .int h4 t4] k) :: rr))
   (T : Top topProg LL mean mg mb g) (hst : st = lS 2)
   (hcd : ∃ v, oc.data = Data.cell v) (hk : Has m1 [(Str.ofString "heaps", .ref Dh)]) (e1 : ∀ p ∈ rr, p.1 ≠ Lk + 1 + 1) (e2 : Apart Dh (Lk + 1 + 1))
   (hret : ∀ Dm u0 u1 u2 u3 ub k' oc' h' tk', Fr g Lk h' (fun y => if y = Str.ofString "marks" then some (.ref Dm) else m1 y) → News g Lk h' ((Dm, listO [.int (Int.fdiv h0 4000) u0, .int (Int.fdiv h1 4000) u1, .int (Int.fdiv h2 4000) u2, .int (Int.fdiv h3 4000) u3] k') :: (Lk + 1 + 1, oc') :: (Dh, listO [.int h0 t0, .int h1 t1, .int h2 t2, .int h3 t3, .int h4 t4] k) :: rr) → AllLt Dm ((Lk + 1 + 1, oc') :: (Dh, listO [.int h0 t0, .int h1 t1, .int h2 t2, .int h3 t3, .int h4 t4] k) :: rr) → oc'.data = Data.cell (some (.int (Int.fmod h4 2000) ub)) → Qf .next { s with heap := h', toks := tk' }) : wpAny (model PP w) (callerA.deeper (envOfC (Str.ofString "law") sc Lk fa cd)) (exec st (envOfC (Str.ofString "law") sc Lk fa cd)) Qf (fun e s' => wpAny (model PP w) (callerA.deeper (envOfC (Str.ofString "law") sc Lk fa cd)) (leaving (envOfC (Str.ofString "law") sc Lk fa cd) e) (fun _ s'' => E e s'') (fun e' s'' => E e' s'') s') s := by
  conv at hsc => rhs; whnf
  conv at hst => rhs; whnf
  subst hsc; subst hst
  rw [← kst_same hk] at F
  obtain ⟨v0, hcd⟩ := hcd
  k_steps
  k_extra "mine held"
  k_extra "mine cexpr"
  k_steps
  k_extra "mine held"
  k_extra "mine ylist"
  k_extra "mine cbegin"
  k_dflt (refine' comp_map_r (fun x v => ∃ (z : Int) (t0 t1 : Tok), (∀ t, x t = Value.int z t0) ∧ v = .int (Int.fdiv z 4000) t1) (fun s h => comp_turn h) ?v01 ?v02 ?v03 ?v0F ?v0N ?v0U1 ?v0U2 ?v0U3 ?v0Y ?v0C ?v0s ?v0z ?v0e ?v0f)
  case v01 => exact rfl
  case v02 => exact rfl
  case v03 => exact rfl
  case v0F => k_asm
  case v0N => k_asm
  case v0U1 => k_extra "mine rem"
  case v0U2 => k_extra "mine rem"
  case v0U3 => k_extra "mine rem"
  case v0Y => k_asm
  case v0C => k_asm
  case v0s => k_extra "mine sub"
  case v0z =>
    exact Nat.le_of_ble_eq_true rfl
  case v0e =>
    intro x hx t oC0 io0 acc0 n0 m0 h0 tk0 Q0 c01 c02 c03 F0 N0 ret
    obtain ⟨z, t0, rfl⟩ := ints4 hx
    have c4 : m0 (Str.ofString "heap") = some (.int z t0) := c02
    k_steps
    exact ret _ _ _ ⟨z, t0, _, fun _ => rfl, rfl⟩ (by k_asm) (by k_asm)
  case v0f =>
    intro ys0 oD0 nD0 mD0 hD0 tD0 hP0 cD0 cE0 FD0 ND0
    k_extra "mine cend"
    k_steps
    rw [kst_same hk] at *
    obtain ⟨u0, u1, u2, u3, rfl⟩ := paired4 hP0
    exact hret _ _ _ _ _ _ _ _ _ _ (by k_asm) (by k_extra "mine news") (by k_extra "mine lt24") (by assumption)
end
section
variable {w : World} {mean : ExcName → Option Value} {mg mb : Str → Option Value} {dp un : Nat} {gd : Option (List Code)} {cn : Str} {cs : Scope} {L a : Addr} {ccd : Value} {cl : List (Str × Addr)} {outer : List Env}
   {A₀ : Around} {base h₀ : Heap} {m : Str → Option Value} {s : Shared} {Q E : Value → Shared → Prop}
open G0 G3 G4 G8 G10 G11 G32 G34 G41 G49
theorem law3 {Dh : Addr} {h0 h1 h2 h3 h4 b9 : Int} {t0 t1 t2 t3 t4 ub : Tok} {k : Nat} {oc : Obj} {rr : List (Addr × Obj)} {sc : Scope} {st : Stmt} {Lk fa : Addr} {cd : Value} {g : Heap} {m1 : Str → Option Value} {Qf : Flow → Shared → Prop} (hsc : sc = scL)
   (B : Below callerA g [] g) (F : Fr g Lk s.heap m1) (X : (K w.params).In g) (N : News g Lk s.heap ((Lk + 1 + 1, oc) :: (Dh, listO [.int h0 t0, .int h1 t1, .int h2 t2, .int h3 t3, .int h4 t4] k) :: rr))
   (T : Top topProg LL mean mg mb g) (hst : st = lS 3)
   (hcd : oc.data = Data.cell (some (.int b9 ub))) (hk : Has m1 [(Str.ofString "heaps", .ref Dh)]) (e1 : ∀ p ∈ rr, p.1 ≠ Lk + 1 + 1) (e2 : Apart Dh (Lk + 1 + 1))
   (hret : ∀ Dr c0 c1 c2 c3 a00 a01 a02 a03 a10 a11 a12 a13 a20 a21 a22 a23 a30 a31 a32 a33 k' h' tk', Fr g Lk h' (fun y => if y = Str.ofString "rows" then some (.ref Dr) else m1 y) → News g Lk h' ((Dr, listO [.ref c0, .ref c1, .ref c2, .ref c3] k') :: (c0, tupO [.int (b9 + Int.fmod h0 80) a00, .int (1 + Int.fmod (Int.fdiv h0 80) 50) a01, .int (Int.fmod (Int.fdiv h0 4000) 250) a02, .int (Int.fmod (Int.fdiv h0 4000) 83) a03]) :: (c1, tupO [.int (b9 + Int.fmod h1 80) a10, .int (1 + Int.fmod (Int.fdiv h1 80) 50) a11, .int (Int.fmod (Int.fdiv h1 4000) 250) a12, .int (Int.fmod (Int.fdiv h1 4000) 83) a13]) :: (c2, tupO [.int (b9 + Int.fmod h2 80) a20, .int (1 + Int.fmod (Int.fdiv h2 80) 50) a21, .int (Int.fmod (Int.fdiv h2 4000) 250) a22, .int (Int.fmod (Int.fdiv h2 4000) 83) a23]) :: (c3, tupO [.int (b9 + Int.fmod h3 80) a30, .int (1 + Int.fmod (Int.fdiv h3 80) 50) a31, .int (Int.fmod (Int.fdiv h3 4000) 250) a32, .int (Int.fmod (Int.fdiv h3 4000) 83) a33]) :: (Lk + 1 + 1, oc) :: (Dh, listO [.int h0 t0, .int h1 t1, .int h2 t2, .int h3 t3, .int h4 t4] k) :: rr) → AllLt Dr ((Lk + 1 + 1, oc) :: (Dh, listO [.int h0 t0, .int h1 t1, .int h2 t2, .int h3 t3, .int h4 t4] k) :: rr) → AllLt c0 ((Lk + 1 + 1, oc) :: (Dh, listO [.int h0 t0, .int h1 t1, .int h2 t2, .int h3 t3, .int h4 t4] k) :: rr) → AllLt c1 ((Lk + 1 + 1, oc) :: (Dh, listO [.int h0 t0, .int h1 t1, .int h2 t2, .int h3 t3, .int h4 t4] k) :: rr) → AllLt c2 ((Lk + 1 + 1, oc) :: (Dh, listO [.int h0 t0, .int h1 t1, .int h2 t2, .int h3 t3, .int h4 t4] k) :: rr) → AllLt c3 ((Lk + 1 + 1, oc) :: (Dh, listO [.int h0 t0, .int h1 t1, .int h2 t2, .int h3 t3, .int h4 t4] k) :: rr) → Qf .next { s with heap := h', toks := tk' }) : wpAny (model PP w) (callerA.deeper (envOfC (Str.ofString "law") sc Lk fa cd)) (exec st (envOfC (Str.ofString "law") sc Lk fa cd)) Qf (fun e s' => wpAny (model PP w) (callerA.deeper (envOfC (Str.ofString "law") sc Lk fa cd)) (leaving (envOfC (Str.ofString "law") sc Lk fa cd) e) (fun _ s'' => E e s'') (fun e' s'' => E e' s'') s') s := by
  conv at hsc => rhs; whnf
  conv at hst => rhs; whnf
  subst hsc; subst hst
  rw [← kst_same hk] at F
  have RRm0 : (Lk + 1 + 1, oc) ∈ (Lk + 1 + 1, oc) :: (Dh, listO [.int h0 t0, .int h1 t1, .int h2 t2, .int h3 t3, .int h4 t4] k) :: rr := by repeat (first | exact List.Mem.head _ | apply List.Mem.tail)
  have RRm1 : (Dh, listO [.int h0 t0, .int h1 t1, .int h2 t2, .int h3 t3, .int h4 t4] k) ∈ (Lk + 1 + 1, oc) :: (Dh, listO [.int h0 t0, .int h1 t1, .int h2 t2, .int h3 t3, .int h4 t4] k) :: rr := by repeat (first | exact List.Mem.head _ | apply List.Mem.tail)
  generalize RRe : (Lk + 1 + 1, oc) :: (Dh, listO [.int h0 t0, .int h1 t1, .int h2 t2, .int h3 t3, .int h4 t4] k) :: rr = RR at N hret RRm0 RRm1 
  clear RRe
  k_steps
  k_extra "mine held"
  k_extra "mine cassign"
  k_steps
  k_extra "mine held"
  k_extra "mine ylist"
  k_extra "mine cbegin"
  k_dflt (refine' comp_four (p0 := (.int h0 t0, h0)) (p1 := (.int h1 t1, h1)) (p2 := (.int h2 t2, h2)) (p3 := (.int h3 t3, h3)) (fun p => ∃ t, p.1 = .int p.2 t) (fun a o => ∃ a0 a1 a2 a3, o = tupO [.int (b9 + Int.fmod a 80) a0, .int (1 + Int.fmod (Int.fdiv a 80) 50) a1, .int (Int.fmod (Int.fdiv a 4000) 250) a2, .int (Int.fmod (Int.fdiv a 4000) 83) a3]) ?va1 ?vaF ?vaN ?vaY ?vaU1 ?vaC ?vaU2 ?vaU3 ?vas ?vap0 ?vap1 ?vap2 ?vap3 ?vat ?vaf)
  case va1 => exact rfl
  case vaF => k_asm
  case vaN => k_asm
  case vaY => k_asm
  case vaU1 => k_extra "mine rem"
  case vaC => k_asm
  case vaU2 => k_extra "mine rem"
  case vaU3 => k_extra "mine rem"
  case vas => k_extra "mine sub"
  case vap0 => exact ⟨_, rfl⟩
  case vap1 => exact ⟨_, rfl⟩
  case vap2 => exact ⟨_, rfl⟩
  case vap3 => exact ⟨_, rfl⟩
  case vat =>
    intro KK p8 acc8 n8 io8 oC8 m8 es8 h8 tk8 hz8 hP8 hs8 cI8 cC8 cD8 hC8 F8 N8 kont8
    obtain ⟨v8, x0⟩ := p8
    dsimp only at hP8
    obtain ⟨t8, rfl⟩ := hP8
    have hm9 := hs8 _ (.tail _ RRm0)
    dsimp only
    k_steps
    rename Fr _ _ _ _ => FZ
    rename News _ _ _ _ => NZ
    refine kont8 _ _ _ _ _ _ _ ⟨_, _, _, _, rfl⟩ ?val (by assumption) FZ NZ
    case val => k_extra "mine lt24"
  case vaf =>
    intro e0 e1 e2 e3 o0 o1 o2 o3 n9 oC9 m9 h9 tk9 hO0 hO1 hO2 hO3 l0 l1 l2 l3 nC9 hC9 F9 N9
    obtain ⟨b00, b01, b02, b03, rfl⟩ := hO0
    obtain ⟨b10, b11, b12, b13, rfl⟩ := hO1
    obtain ⟨b20, b21, b22, b23, rfl⟩ := hO2
    obtain ⟨b30, b31, b32, b33, rfl⟩ := hO3
    dsimp only at N9 nC9
    refine comp_use ?_
    k_steps
    k_extra "mine cfin"
    k_steps
    rw [kst_same hk] at *
    exact hret _ e0 e1 e2 e3 _ _ _ _ _ _ _ _ _ _ _ _ _ _ _ _ _ _ _ (by k_asm) (by k_extra "mine news") (by k_extra "mine lt24") l0.2 l1.2 l2.2 l3.2
end
section
variable {w : World} {mean : ExcName → Option Value} {mg mb : Str → Option Value} {dp un : Nat} {gd : Option (List Code)} {cn : Str} {cs : Scope} {L a : Addr} {ccd : Value} {cl : List (Str × Addr)} {outer : List Env}
   {A₀ : Around} {base h₀ : Heap} {m : Str → Option Value} {s : Shared} {Q E : Value → Shared → Prop}
open G0 G3 G4 G5 G8 G10 G11 G32 G34 G41 G49 G51
theorem word_m {o1 : Addr} {x0 x1 x2 x3 : Int} {k0 k1 k2 k3 k4 : Tok} {q : Int} {news : List (Addr × Obj)} (B : Below A₀ base outer h₀) (F : Fr h₀ L s.heap m) (X : (K w.params).In h₀) (N : News h₀ L s.heap news)
   (T : Top topProg LL mean mg mb h₀) (hk : cs.kind = .function) (hdp : dp + 60 < recursionLimit) (hu : un + 480 < cLine)
   (hm : (o1, tupO [.int x0 k0, .int x1 k1, .int x2 k2, .int x3 k3]) ∈ news) (hx0 : 0 ≤ x0) (hx1 : 0 ≤ x1) (hx2 : 0 ≤ x2) (hx3 : 0 ≤ x3) (hy0 : x0 < 4096) (hy1 : x1 < 4096) (hy2 : x2 < 4096) (hy3 : x3 < 4096)
   (hret : ∀ t h' tk', Fr h₀ L h' m → News h₀ L h' news → Q (.str ⟨(wordL q (octs x0 x1 x2 x3)).toArray⟩ t) { s with heap := h', toks := tk' }) :
   wpAny (model PP w) (ktrTop dp un gd cn cs L a ccd cl outer) (call (.ref 268) [.ref o1, .int q k4]) Q E s :=
  word_c (rest := news) B F X (fun p hp => by
    rcases List.mem_cons.mp hp with h | hp
    · rw [h]; exact N _ hm
    · exact N _ hp) T hk hdp hu hx0 hx1 hx2 hx3 hy0 hy1 hy2 hy3 fun t h' tk' F' N' => hret t h' tk' F' fun p hp => N' p (.tail _ hp)
theorem octs_len (x0 x1 x2 x3 : Int) : (octs x0 x1 x2 x3).length ≤ 8 := by
  unfold octs
  simp only [List.length_append, List.length_map, List.length_nil]
  have h0 := octL_len x0
  have h1 := octL_len x1
  have h2 := octL_len x2
  have h3 := octL_len x3
  k_extra "om"
theorem wordL_len (q : Int) (os : List Nat) : (wordL q os).length ≤ 2 * os.length + 2 := by
  unfold wordL
  have hq := flat_le qf (fun c => by unfold qf; split <;> simp) os
  have hb := flat_le bf (fun c => Nat.le_refl _) os
  split <;> simp only [List.length_append, List.length_cons, List.length_nil] <;> k_extra "om"
theorem word_len (q x0 x1 x2 x3 : Int) : (wordL q (octs x0 x1 x2 x3)).length ≤ 18 := by
  have h1 := wordL_len q (octs x0 x1 x2 x3)
  have h2 := octs_len x0 x1 x2 x3
  k_extra "om"
theorem words4_len (q0 q1 q2 q3 x00 x01 x02 x03 x10 x11 x12 x13 x20 x21 x22 x23 x30 x31 x32 x33 : Int) : ∀ l ∈ ([wordL q0 (octs x00 x01 x02 x03), wordL q1 (octs x10 x11 x12 x13), wordL q2 (octs x20 x21 x22 x23), wordL q3 (octs x30 x31 x32 x33)] : List (List Nat)), l.length ≤ 1000 := by
  intro l hl
  simp only [List.mem_cons, List.not_mem_nil, or_false] at hl
  rcases hl with rfl | rfl | rfl | rfl <;> exact Nat.le_trans (word_len _ _ _ _ _) (by decide)
inductive W4At (RR : List (Addr × Obj)) : List Nat → Value → Value → Prop
  | mk {c : Addr} {x0 x1 x2 x3 q : Int} {a0 a1 a2 a3 u : Tok} (hm : (c, tupO [.int x0 a0, .int x1 a1, .int x2 a2, .int x3 a3]) ∈ RR) (l0 : 0 ≤ x0) (l1 : 0 ≤ x1) (l2 : 0 ≤ x2) (l3 : 0 ≤ x3) (m0 : x0 < 4096) (m1 : x1 < 4096) (m2 : x2 < 4096) (m3 : x3 < 4096) : W4At RR (wordL (Int.fmod q 2) (octs x0 x1 x2 x3)) (.ref c) (.int q u)
open G27
theorem law4 {Dr Dm c0 c1 c2 c3 : Addr} {x00 x01 x02 x03 x10 x11 x12 x13 x20 x21 x22 x23 x30 x31 x32 x33 q0 q1 q2 q3 : Int} {a00 a01 a02 a03 a10 a11 a12 a13 a20 a21 a22 a23 a30 a31 a32 a33 u0 u1 u2 u3 : Tok} {k k2 : Nat} {rr : List (Addr × Obj)} {sc : Scope} {st : Stmt} {Lk fa : Addr} {cd : Value} {g : Heap} {m1 : Str → Option Value} {Qf : Flow → Shared → Prop} (hsc : sc = scL)
   (B : Below callerA g [] g) (F : Fr g Lk s.heap m1) (X : (K w.params).In g) (N : News g Lk s.heap ((Dr, listO [.ref c0, .ref c1, .ref c2, .ref c3] k) :: (c0, tupO [.int x00 a00, .int x01 a01, .int x02 a02, .int x03 a03]) :: (c1, tupO [.int x10 a10, .int x11 a11, .int x12 a12, .int x13 a13]) :: (c2, tupO [.int x20 a20, .int x21 a21, .int x22 a22, .int x23 a23]) :: (c3, tupO [.int x30 a30, .int x31 a31, .int x32 a32, .int x33 a33]) :: (Dm, listO [.int q0 u0, .int q1 u1, .int q2 u2, .int q3 u3] k2) :: rr))
   (T : Top topProg LL mean mg mb g) (hst : st = lS 4)
   (hk : Has m1 [(Str.ofString "rows", .ref Dr), (Str.ofString "marks", .ref Dm)]) (l00 : 0 ≤ x00) (m00 : x00 < 4096) (l01 : 0 ≤ x01) (m01 : x01 < 4096) (l02 : 0 ≤ x02) (m02 : x02 < 4096) (l03 : 0 ≤ x03) (m03 : x03 < 4096) (l10 : 0 ≤ x10) (m10 : x10 < 4096) (l11 : 0 ≤ x11) (m11 : x11 < 4096) (l12 : 0 ≤ x12) (m12 : x12 < 4096) (l13 : 0 ≤ x13) (m13 : x13 < 4096) (l20 : 0 ≤ x20) (m20 : x20 < 4096) (l21 : 0 ≤ x21) (m21 : x21 < 4096) (l22 : 0 ≤ x22) (m22 : x22 < 4096) (l23 : 0 ≤ x23) (m23 : x23 < 4096) (l30 : 0 ≤ x30) (m30 : x30 < 4096) (l31 : 0 ≤ x31) (m31 : x31 < 4096) (l32 : 0 ≤ x32) (m32 : x32 < 4096) (l33 : 0 ≤ x33) (m33 : x33 < 4096)
   (hret : ∀ tt h' tk', Fr g Lk h' (fun y => if y = Str.ofString "text" then some (.str ⟨([wordL (Int.fmod q0 2) (octs x00 x01 x02 x03), wordL (Int.fmod q1 2) (octs x10 x11 x12 x13), wordL (Int.fmod q2 2) (octs x20 x21 x22 x23), wordL (Int.fmod q3 2) (octs x30 x31 x32 x33)] : List (List Nat)).flatten.toArray⟩ tt) else m1 y) → News g Lk h' ((Dr, listO [.ref c0, .ref c1, .ref c2, .ref c3] k) :: (c0, tupO [.int x00 a00, .int x01 a01, .int x02 a02, .int x03 a03]) :: (c1, tupO [.int x10 a10, .int x11 a11, .int x12 a12, .int x13 a13]) :: (c2, tupO [.int x20 a20, .int x21 a21, .int x22 a22, .int x23 a23]) :: (c3, tupO [.int x30 a30, .int x31 a31, .int x32 a32, .int x33 a33]) :: (Dm, listO [.int q0 u0, .int q1 u1, .int q2 u2, .int q3 u3] k2) :: rr) → Qf .next { s with heap := h', toks := tk' }) : wpAny (model PP w) (callerA.deeper (envOfC (Str.ofString "law") sc Lk fa cd)) (exec st (envOfC (Str.ofString "law") sc Lk fa cd)) Qf (fun e s' => wpAny (model PP w) (callerA.deeper (envOfC (Str.ofString "law") sc Lk fa cd)) (leaving (envOfC (Str.ofString "law") sc Lk fa cd) e) (fun _ s'' => E e s'') (fun e' s'' => E e' s'') s') s := by
  conv at hsc => rhs; whnf
  conv at hst => rhs; whnf
  subst hsc; subst hst
  rw [← kst_same hk] at F
  have RRm0 : (Dr, listO [.ref c0, .ref c1, .ref c2, .ref c3] k) ∈ (Dr, listO [.ref c0, .ref c1, .ref c2, .ref c3] k) :: (c0, tupO [.int x00 a00, .int x01 a01, .int x02 a02, .int x03 a03]) :: (c1, tupO [.int x10 a10, .int x11 a11, .int x12 a12, .int x13 a13]) :: (c2, tupO [.int x20 a20, .int x21 a21, .int x22 a22, .int x23 a23]) :: (c3, tupO [.int x30 a30, .int x31 a31, .int x32 a32, .int x33 a33]) :: (Dm, listO [.int q0 u0, .int q1 u1, .int q2 u2, .int q3 u3] k2) :: rr := by repeat (first | exact List.Mem.head _ | apply List.Mem.tail)
  have RRm1 : (c0, tupO [.int x00 a00, .int x01 a01, .int x02 a02, .int x03 a03]) ∈ (Dr, listO [.ref c0, .ref c1, .ref c2, .ref c3] k) :: (c0, tupO [.int x00 a00, .int x01 a01, .int x02 a02, .int x03 a03]) :: (c1, tupO [.int x10 a10, .int x11 a11, .int x12 a12, .int x13 a13]) :: (c2, tupO [.int x20 a20, .int x21 a21, .int x22 a22, .int x23 a23]) :: (c3, tupO [.int x30 a30, .int x31 a31, .int x32 a32, .int x33 a33]) :: (Dm, listO [.int q0 u0, .int q1 u1, .int q2 u2, .int q3 u3] k2) :: rr := by repeat (first | exact List.Mem.head _ | apply List.Mem.tail)
  have RRm2 : (c1, tupO [.int x10 a10, .int x11 a11, .int x12 a12, .int x13 a13]) ∈ (Dr, listO [.ref c0, .ref c1, .ref c2, .ref c3] k) :: (c0, tupO [.int x00 a00, .int x01 a01, .int x02 a02, .int x03 a03]) :: (c1, tupO [.int x10 a10, .int x11 a11, .int x12 a12, .int x13 a13]) :: (c2, tupO [.int x20 a20, .int x21 a21, .int x22 a22, .int x23 a23]) :: (c3, tupO [.int x30 a30, .int x31 a31, .int x32 a32, .int x33 a33]) :: (Dm, listO [.int q0 u0, .int q1 u1, .int q2 u2, .int q3 u3] k2) :: rr := by repeat (first | exact List.Mem.head _ | apply List.Mem.tail)
  have RRm3 : (c2, tupO [.int x20 a20, .int x21 a21, .int x22 a22, .int x23 a23]) ∈ (Dr, listO [.ref c0, .ref c1, .ref c2, .ref c3] k) :: (c0, tupO [.int x00 a00, .int x01 a01, .int x02 a02, .int x03 a03]) :: (c1, tupO [.int x10 a10, .int x11 a11, .int x12 a12, .int x13 a13]) :: (c2, tupO [.int x20 a20, .int x21 a21, .int x22 a22, .int x23 a23]) :: (c3, tupO [.int x30 a30, .int x31 a31, .int x32 a32, .int x33 a33]) :: (Dm, listO [.int q0 u0, .int q1 u1, .int q2 u2, .int q3 u3] k2) :: rr := by repeat (first | exact List.Mem.head _ | apply List.Mem.tail)
  have RRm4 : (c3, tupO [.int x30 a30, .int x31 a31, .int x32 a32, .int x33 a33]) ∈ (Dr, listO [.ref c0, .ref c1, .ref c2, .ref c3] k) :: (c0, tupO [.int x00 a00, .int x01 a01, .int x02 a02, .int x03 a03]) :: (c1, tupO [.int x10 a10, .int x11 a11, .int x12 a12, .int x13 a13]) :: (c2, tupO [.int x20 a20, .int x21 a21, .int x22 a22, .int x23 a23]) :: (c3, tupO [.int x30 a30, .int x31 a31, .int x32 a32, .int x33 a33]) :: (Dm, listO [.int q0 u0, .int q1 u1, .int q2 u2, .int q3 u3] k2) :: rr := by repeat (first | exact List.Mem.head _ | apply List.Mem.tail)
  have RRm5 : (Dm, listO [.int q0 u0, .int q1 u1, .int q2 u2, .int q3 u3] k2) ∈ (Dr, listO [.ref c0, .ref c1, .ref c2, .ref c3] k) :: (c0, tupO [.int x00 a00, .int x01 a01, .int x02 a02, .int x03 a03]) :: (c1, tupO [.int x10 a10, .int x11 a11, .int x12 a12, .int x13 a13]) :: (c2, tupO [.int x20 a20, .int x21 a21, .int x22 a22, .int x23 a23]) :: (c3, tupO [.int x30 a30, .int x31 a31, .int x32 a32, .int x33 a33]) :: (Dm, listO [.int q0 u0, .int q1 u1, .int q2 u2, .int q3 u3] k2) :: rr := by repeat (first | exact List.Mem.head _ | apply List.Mem.tail)
  generalize RRe : (Dr, listO [.ref c0, .ref c1, .ref c2, .ref c3] k) :: (c0, tupO [.int x00 a00, .int x01 a01, .int x02 a02, .int x03 a03]) :: (c1, tupO [.int x10 a10, .int x11 a11, .int x12 a12, .int x13 a13]) :: (c2, tupO [.int x20 a20, .int x21 a21, .int x22 a22, .int x23 a23]) :: (c3, tupO [.int x30 a30, .int x31 a31, .int x32 a32, .int x33 a33]) :: (Dm, listO [.int q0 u0, .int q1 u1, .int q2 u2, .int q3 u3] k2) :: rr = RR at N hret RRm0 RRm1 RRm2 RRm3 RRm4 RRm5 
  clear RRe
  have hrow : ∀ i x y, [Value.ref c0, .ref c1, .ref c2, .ref c3][i]? = some x → [Value.int q0 u0, .int q1 u1, .int q2 u2, .int q3 u3][i]? = some y → W4At RR (([wordL (Int.fmod q0 2) (octs x00 x01 x02 x03), wordL (Int.fmod q1 2) (octs x10 x11 x12 x13), wordL (Int.fmod q2 2) (octs x20 x21 x22 x23), wordL (Int.fmod q3 2) (octs x30 x31 x32 x33)] : List (List Nat)).getD i []) x y :=
    pick_cons (.mk RRm1 l00 l01 l02 l03 m00 m01 m02 m03) (pick_cons (.mk RRm2 l10 l11 l12 l13 m10 m11 m12 m13) (pick_cons (.mk RRm3 l20 l21 l22 l23 m20 m21 m22 m23) (pick_cons (.mk RRm4 l30 l31 l32 l33 m30 m31 m32 m33) (pick_nil))))
  clear RRm1 RRm2 RRm3 RRm4 l00 m00 l01 m01 l02 m02 l03 m03 l10 m10 l11 m11 l12 m12 l13 m13 l20 m20 l21 m21 l22 m22 l23 m23 l30 m30 l31 m31 l32 m32 l33 m33
  k_steps
  k_extra "mine held"
  k_extra "mine cexpr"
  k_steps
  refine Hold.out ?_
  try k_unmd
  k_dflt (refine' zip_r ?eh ?eF ?eN ?em ?em2 ?_; (case eh => exact rfl); (case eF => k_asm); (case eN => k_asm); (case em => k_extra "mine mem"); (case em2 => k_extra "mine mem"); intro en fp wr its0 h0 W0 ow0 fpo F0 N0)
  try dsimp only
  k_steps
  refine Hold.out ?_
  try k_unmd
  refine wt_self W0 N0 (by k_extra "mine subw") ?_
  try dsimp only
  k_dflt (refine' comp_begin ?b0F ?b0N ?b0c ?b0k ?b0s ?_; (case b0F => k_asm); (case b0N => k_asm); (case b0c => decide +kernel); (case b0k => exact rfl); (case b0s => exact fun s' l Q' N' hs hq => wt_self W0 N' (fun p hp => hs p (by repeat (first | exact hp | exact List.mem_append_right _ hp | apply List.mem_cons_of_mem))) hq); intro Dn Cn oCn hn tkn hCn Fn Nn lDn lCn; (try k_lt lDn); (try k_lt lCn))
  try dsimp only
  have aC : AllLt Cn (RR ++ its0) := lCn.2
  have aD : AllLt Dn (RR ++ its0) := allLt_of lDn
  k_dflt (refine' comp_wt (rest := RR) (fun i v => ∃ t, v = .str ⟨(([wordL (Int.fmod q0 2) (octs x00 x01 x02 x03), wordL (Int.fmod q1 2) (octs x10 x11 x12 x13), wordL (Int.fmod q2 2) (octs x20 x21 x22 x23), wordL (Int.fmod q3 2) (octs x30 x31 x32 x33)] : List (List Nat)).getD i []).toArray⟩ t) W0 ?vF ?vN ?vC aC aD ?vl fpo ow0 ?vt ?vf)
  case vF => k_asm
  case vN => k_asm
  case vC => k_asm
  case vl => exact lCn.1
  case vt =>
    intro KK i T vals acc8 k8 oC8 m8 nx8 h8 tk8 hi hP hT hz cC8 cD8 hs8 hC8 F8 N8 kont8
    obtain ⟨x, y, hx, hy, rfl⟩ := hP
    have hr := hrow i x y hx hy
    have hz8 : acc8.length < 4 := hz ▸ hi
    generalize hwd : List.getD ([wordL (Int.fmod q0 2) (octs x00 x01 x02 x03), wordL (Int.fmod q1 2) (octs x10 x11 x12 x13), wordL (Int.fmod q2 2) (octs x20 x21 x22 x23), wordL (Int.fmod q3 2) (octs x30 x31 x32 x33)] : List (List Nat)) i [] = wl at hr kont8
    clear hrow hx hy hwd hz
    cases hr with
    | mk hm l0 l1 l2 l3 m0 m1 m2 m3 =>
      have hm9 := hs8 _ hm
      k_steps
      exact kont8 _ _ _ _ _ _ ⟨_, rfl⟩ (by assumption) (by k_asm) (by k_asm)
  case vf =>
    intro vs k8 oC8 m8 h8 tk8 hl hO hC8 F8 N8
    obtain ⟨va, vb, vc, vd, rfl⟩ := four_of hl
    obtain ⟨ta, rfl⟩ := hO 0 _ rfl
    obtain ⟨tb, rfl⟩ := hO 1 _ rfl
    obtain ⟨tc, rfl⟩ := hO 2 _ rfl
    obtain ⟨td, rfl⟩ := hO 3 _ rfl
    try dsimp only
    have aCr := allLt_left aC
    have aDr := allLt_left aD
    k_extra "mine cend"
    k_steps
    k_dflt (refine' join_r (ls := [wordL (Int.fmod q0 2) (octs x00 x01 x02 x03), wordL (Int.fmod q1 2) (octs x10 x11 x12 x13), wordL (Int.fmod q2 2) (octs x20 x21 x22 x23), wordL (Int.fmod q3 2) (octs x30 x31 x32 x33)]) ?jN ?jm ?jh ?jb ?jz ?_; (case jN => k_asm); (case jm => k_extra "mine mem"); (case jh => exact .cons _ _ (.cons _ _ (.cons _ _ (.cons _ _ .nil)))); (case jb => exact words4_len _ _ _ _ _ _ _ _ _ _ _ _ _ _ _ _ _ _ _ _); (case jz => exact Nat.le_of_ble_eq_true rfl); intro tj kj)
    k_steps
    rw [kst_same hk] at *
    exact hret _ _ _ (by k_asm) (by k_extra "mine news")
end
section
variable {w : World} {mean : ExcName → Option Value} {mg mb : Str → Option Value} {dp un : Nat} {gd : Option (List Code)} {cn : Str} {cs : Scope} {L a : Addr} {ccd : Value} {cl : List (Str × Addr)} {outer : List Env}
   {A₀ : Around} {base h₀ : Heap} {m : Str → Option Value} {s : Shared} {Q E : Value → Shared → Prop}
open G0
theorem octs_ne (x0 x1 x2 x3 : Int) : octs x0 x1 x2 x3 ≠ [] := by
  intro h
  have h1 := congrArg List.length h
  unfold octs at h1
  simp only [List.length_append, List.length_map, List.length_nil] at h1
  have : 1 ≤ (octL x0).length := by unfold octL; split <;> simp
  k_extra "om"
theorem nls_q : ∀ os : List Nat, nls ((os.map qf).flatten) = nls os
  | [] => rfl
  | c :: r => by
    rw [List.map_cons, List.flatten_cons, nls_append, nls_q r]
    show _ = nl c + nls r
    congr 1
    unfold qf
    split
    · show nl 92 + (nl c + 0) = nl c
      rw [show nl 92 = 0 from rfl]; k_extra "om"
    · show nl c + 0 = nl c
      k_extra "om"
theorem nls_b : ∀ os : List Nat, nls ((os.map bf).flatten) = nls os
  | [] => rfl
  | c :: r => by
    rw [List.map_cons, List.flatten_cons, nls_append, nls_b r]
    show nl 92 + (nl c + 0) + nls r = nl c + nls r
    rw [show nl 92 = 0 from rfl]; k_extra "om"
theorem nls_w (q : Int) (os : List Nat) : nls (wordL q os) = nls os + (if q = 0 then 1 else 0) := by
  unfold wordL
  split
  · rw [nls_append, nls_b]
    rfl
  · rw [nls_append, nls_append, nls_q]
    show nl 34 + 0 + nls os + (nl 34 + 0) = _
    rw [show nl 34 = 0 from rfl]; k_extra "om"
/-- the next word of the text, in quotation marks or with a backslash ahead of every sign -/
theorem gt_w {x d S : Addr} {LT : LexT} {vs ps : List Value} {ln : Int} {tl : Tok} {n2 n3 : Nat} {news r0 r1 r2 r3 : List (Addr × Obj)} {q : Int} {os rest : List Nat} (B : Below A₀ base outer h₀) (F : Fr h₀ L s.heap m) (X : (K w.params).In h₀) (N : News h₀ L s.heap news)
   (T : Top topProg LL mean mg mb h₀) (hk : cs.kind = .function) (hdp : dp + 80 < recursionLimit) (hu : un + 800 < cLine)
   (LX0 : LexAt w r0 x d S LT) (R1 : RemF LT.pb (listO ps n3) news r1) (R2 : RemF d (lexDict w LT ln tl) r1 r2) (R3 : RemF S (listO vs n2) r2 r3) (LS : ∀ p ∈ r0, p ∈ r3) (hln : 0 ≤ ln) (hlu : ln < 50000) (CH : CodeHd base 255 251) (hp0 : ps = []) (hl : LeftIs vs (wordL q os ++ rest)) (ho : os ≠ []) (hz : os.length ≤ 100) (hz2 : rest.length ≤ 500)
   (hret : ∀ t tl us n2 n3 h' tk', LeftIs us rest → Fr h₀ L h' m → News h₀ L h' ((d, lexDict w LT (ln + nls (wordL q os)) tl) :: (S, listO us n2) :: (LT.pb, listO [] n3) :: r3) → Q (.str (toS os) t) { s with heap := h', toks := tk' }) :
   wpAny (model PP w) (ktrTop dp un gd cn cs L a ccd cl outer) (call (.ref 235) [.ref x]) Q E s := by
  by_cases hq : q = 0
  · obtain _ | ⟨c0, os⟩ := os
    · exact absurd rfl ho
    have e : wordL q (c0 :: os) ++ rest = 92 :: c0 :: ((os.map bf).flatten ++ 10 :: rest) := by
      unfold wordL
      rw [if_pos hq]
      simp [bf]
    rw [e] at hl
    refine gt_b B F X N T hk hdp hu LX0 R1 R2 R3 LS hln hlu CH hp0 hl (by rw [List.length_cons] at hz; k_extra "om") hz2 fun t tl us n2 n3 h' tk' a F' N' => ?_
    rw [nls_w, if_pos hq, ← Int.add_assoc] at hret
    exact hret t tl us n2 n3 h' tk' a F' N'
  · have e : wordL q os ++ rest = 34 :: ((os.map qf).flatten ++ 34 :: rest) := by
      unfold wordL
      rw [if_neg hq]
      simp
    rw [e] at hl
    refine gt_q B F X N T hk hdp hu LX0 R1 R2 R3 LS hln hlu CH hp0 hl hz hz2 fun t tl us n2 n3 h' tk' a F' N' => ?_
    rw [nls_w, if_neg hq, Int.add_zero] at hret
    exact hret t tl us n2 n3 h' tk' a F' N'
end
section
variable {w : World} {mean : ExcName → Option Value} {mg mb : Str → Option Value} {dp un : Nat} {gd : Option (List Code)} {cn : Str} {cs : Scope} {L a : Addr} {ccd : Value} {cl : List (Str × Addr)} {outer : List Env}
   {A₀ : Around} {base h₀ : Heap} {m : Str → Option Value} {s : Shared} {Q E : Value → Shared → Prop}
open G0 G3 G4 G8 G10 G11 G28
theorem law5 {tx : List Nat} {tt : Tok} {oc : Obj} {rr : List (Addr × Obj)} {sc : Scope} {st : Stmt} {Lk fa : Addr} {cd : Value} {g : Heap} {m1 : Str → Option Value} {Qf : Flow → Shared → Prop} (hsc : sc = scL)
   (B : Below callerA g [] g) (F : Fr g Lk s.heap m1) (X : (K w.params).In g) (N : News g Lk s.heap ((251, tabObj #[]) :: (Lk + 1 + 1 + 1, oc) :: rr))
   (T : Top topProg LL mean mg mb g) (hst : st = lS 5)
   (hcd : ∃ v, oc.data = Data.cell v) (hk : Has m1 [(Str.ofString "text", .str (toS tx) tt)]) (e1 : ∀ p ∈ rr, p.1 ≠ Lk + 1 + 1 + 1) (e3 : ∀ p ∈ rr, p.1 ≠ 251) (e4 : Apart (Lk + 1 + 1 + 1) 251) (CH : CodeHd g 255 251) (hz : tx.length ≤ 1000)
   (hret : ∀ (x d S : Nat) LT vs tl n n2 rf tb oc' h' tk', Fr g Lk h' m1 → News g Lk h' ((LT.pb, listO [] n) :: (d, lexDict w LT 1 tl) :: (S, listO vs n2) :: (Lk + 1 + 1 + 1, oc') :: (rf ++ rr)) → oc'.data = Data.cell (some (.ref x)) → LexAt w rf x d S LT → LeftIs vs tx → (251, tabObj tb) ∈ rf →
     (∀ p ∈ (Lk + 1 + 1 + 1, oc') :: (rf ++ rr), p.1 ≠ d) → (∀ p ∈ (Lk + 1 + 1 + 1, oc') :: (rf ++ rr), p.1 ≠ S) → (∀ p ∈ (Lk + 1 + 1 + 1, oc') :: (rf ++ rr), p.1 ≠ LT.pb) → @_root_.LT.lt Nat instLTNat S d → @_root_.LT.lt Nat instLTNat d LT.pb → Qf .next { s with heap := h', toks := tk' }) : wpAny (model PP w) (callerA.deeper (envOfC (Str.ofString "law") sc Lk fa cd)) (exec st (envOfC (Str.ofString "law") sc Lk fa cd)) Qf (fun e s' => wpAny (model PP w) (callerA.deeper (envOfC (Str.ofString "law") sc Lk fa cd)) (leaving (envOfC (Str.ofString "law") sc Lk fa cd) e) (fun _ s'' => E e s'') (fun e' s'' => E e' s'') s') s := by
  conv at hsc => rhs; whnf
  conv at hst => rhs; whnf
  subst hsc; subst hst
  rw [← kst_same hk] at F
  obtain ⟨v0, hcd⟩ := hcd
  have hz2 : (toS tx).cps.size ≤ 1000 := hz
  k_steps
  obtain ⟨tb, htb⟩ := hg
  obtain ⟨rf, r1, r2, r3, r4⟩ := hF.rf htb
  have hC := hs _ (.head _)
  have d1 : Apart (Lk + 1 + 1 + 1) d := g1 _ hC
  have d2 : Apart (Lk + 1 + 1 + 1) S := g2 _ hC
  have d3 : Apart (Lk + 1 + 1 + 1) LT.pb := g3 _ hC
  have sub : ∀ p ∈ rf ++ rr, p ∈ r := fun p hp => by
    rcases List.mem_append.mp hp with hp | hp
    · exact r1 p hp
    · exact hs p (.tail _ hp)
  have d4 : ∀ p ∈ rf ++ rr, p.1 ≠ Lk + 1 + 1 + 1 := fun p hp => by
    rcases List.mem_append.mp hp with hp | hp
    · rcases r4 p hp with e | e
      · rw [e]; exact Apart.en e4
      · exact Nat.ne_of_gt (e _ (.head _))
    · exact e1 p hp
  have N5 : News g Lk h7 ((LT.pb, listO [] n) :: (d, lexDict w LT 1 tl) :: (S, listO vs n2) :: (Lk + 1 + 1 + 1, oc) :: (rf ++ rr)) := fun p hp => N7 p (by
    simp only [List.mem_cons] at hp ⊢
    rcases hp with h | h | h | h | h
    · exact .inl h
    · exact .inr (.inl h)
    · exact .inr (.inr (.inl h))
    · rw [h]; exact .inr (.inr (.inr hC))
    · exact .inr (.inr (.inr (sub p h))))
  clear N7
  k_steps
  rw [kst_same hk] at *
  have s1 : ∀ oc' : Obj, ∀ p ∈ (Lk + 1 + 1 + 1, oc') :: (rf ++ rr), p.1 ≠ d := fun oc' => List.forall_mem_cons.mpr ⟨d1, fun p hp => g1 p (sub p hp)⟩
  have s2 : ∀ oc' : Obj, ∀ p ∈ (Lk + 1 + 1 + 1, oc') :: (rf ++ rr), p.1 ≠ S := fun oc' => List.forall_mem_cons.mpr ⟨d2, fun p hp => g2 p (sub p hp)⟩
  have s3 : ∀ oc' : Obj, ∀ p ∈ (Lk + 1 + 1 + 1, oc') :: (rf ++ rr), p.1 ≠ LT.pb := fun oc' => List.forall_mem_cons.mpr ⟨d3, fun p hp => g3 p (sub p hp)⟩
  exact hret x d S LT vs tl n n2 rf tb _ _ _ (by k_asm) (by k_asm) (by assumption) r2 hL r3 (s1 _) (s2 _) (s3 _) o1 o2
end
section
variable {w : World} {mean : ExcName → Option Value} {mg mb : Str → Option Value} {dp un : Nat} {gd : Option (List Code)} {cn : Str} {cs : Scope} {L a : Addr} {ccd : Value} {cl : List (Str × Addr)} {outer : List Env}
   {A₀ : Around} {base h₀ : Heap} {m : Str → Option Value} {s : Shared} {Q E : Value → Shared → Prop}
open G0 G3 G4 G8 G10 G11 G29 G32 G34 G41 G49
theorem take_pick {α : Type} : ∀ {l : List α} {k : Nat}, k < l.length → ∃ p, p ∈ l ∧ l.drop k = p :: l.drop (k + 1) ∧ l.take (k + 1) = l.take k ++ [p]
  | x :: r, 0, _ => ⟨x, .head _, rfl, rfl⟩
  | x :: r, k + 1, h => by
    obtain ⟨p, a, b, c⟩ := take_pick (l := r) (Nat.lt_of_succ_lt_succ h)
    exact ⟨p, .tail _ a, b, congrArg (x :: ·) c⟩
noncomputable abbrev txW (ws : List (Int × List Nat)) : List Nat := (ws.map fun p => wordL p.1 p.2).flatten
theorem txW_len {ws : List (Int × List Nat)} (h : ∀ p ∈ ws, p.2 ≠ [] ∧ p.2.length ≤ 8) : (txW ws).length ≤ 18 * ws.length := by
  induction ws with
  | nil => exact Nat.le_refl _
  | cons p r ih =>
    have h1 := ih fun q hq => h q (.tail _ hq)
    have h2 := (h p (.head _)).2
    have h3 := wordL_len p.1 p.2
    simp only [txW, List.map_cons, List.flatten_cons, List.length_append, List.length_cons] at h1 ⊢
    k_extra "om"
theorem tx_peel {vs : List Value} {l : List Nat} {ls : List (List Nat)} : TxAre vs (l :: ls) → ∃ t vs', vs = .str (toS l) t :: vs' ∧ TxAre vs' ls
  | .cons _ t h => ⟨t, _, rfl, h⟩
theorem tx_four {vs : List Value} {a b c d : List Nat} (h : TxAre vs [a, b, c, d]) : ∃ t0 t1 t2 t3, vs = [.str (toS a) t0, .str (toS b) t1, .str (toS c) t2, .str (toS d) t3] := by
  obtain ⟨t0, v1, e0, h⟩ := tx_peel h
  obtain ⟨t1, v2, e1, h⟩ := tx_peel h
  obtain ⟨t2, v3, e2, h⟩ := tx_peel h
  obtain ⟨t3, v4, e3, h⟩ := tx_peel h
  cases h
  exact ⟨t0, t1, t2, t3, by rw [e0, e1, e2, e3]⟩
theorem clear_three {I C D a b c : Addr} {o1 o2 o3 p1 p2 p3 : Obj} {r : List (Addr × Obj)} (h : Clear I C D ((a, o1) :: (b, o2) :: (c, o3) :: r)) : Clear I C D ((a, p1) :: (b, p2) :: (c, p3) :: r) := by
  have key : ∀ {X : Addr}, (∀ p ∈ (a, o1) :: (b, o2) :: (c, o3) :: r, p.1 ≠ X) → ∀ p ∈ (a, p1) :: (b, p2) :: (c, p3) :: r, p.1 ≠ X := fun h =>
    allC (h _ (.head _) : _) (allC (h _ (.tail _ (.head _)) : _) (allC (h _ (.tail _ (.tail _ (.head _))) : _) fun p hp => h p (.tail _ (.tail _ (.tail _ hp)))))
  exact ⟨key h.1, key h.2.1, key h.2.2⟩
theorem law6 {x d S Dr c0 c1 c2 c3 : Addr} {LT : LexT} {vs : List Value} {tl : Tok} {n n2 k : Nat} {oc : Obj} {q0 q1 q2 q3 : Int} {os0 os1 os2 os3 : List Nat} {rr : List (Addr × Obj)} {sc : Scope} {st : Stmt} {Lk fa : Addr} {cd : Value} {g : Heap} {m1 : Str → Option Value} {Qf : Flow → Shared → Prop} (hsc : sc = scL)
   (B : Below callerA g [] g) (F : Fr g Lk s.heap m1) (X : (K w.params).In g) (N : News g Lk s.heap ((LT.pb, listO [] n) :: (d, lexDict w LT 1 tl) :: (S, listO vs n2) :: rr))
   (T : Top topProg LL mean mg mb g) (hst : st = lS 6)
   (LX : LexAt w rr x d S LT) (hdr : (Dr, listO [.ref c0, .ref c1, .ref c2, .ref c3] k) ∈ rr) (hcl : (Lk + 1 + 1 + 1, oc) ∈ rr) (hcd : oc.data = Data.cell (some (.ref x))) (CH : CodeHd g 255 251)
   (e2 : ∀ p ∈ rr, p.1 ≠ LT.pb) (e3 : ∀ p ∈ rr, p.1 ≠ d) (e4 : ∀ p ∈ rr, p.1 ≠ S) (e8 : Apart LT.pb d) (e9 : Apart LT.pb S) (e0 : Apart d S)
   (hk : Has m1 [(Str.ofString "rows", .ref Dr)]) (hL : LeftIs vs (wordL q0 os0 ++ (wordL q1 os1 ++ (wordL q2 os2 ++ (wordL q3 os3 ++ []))))) (hn0 : os0 ≠ []) (hl0 : os0.length ≤ 8) (hn1 : os1 ≠ []) (hl1 : os1.length ≤ 8) (hn2 : os2 ≠ []) (hl2 : os2.length ≤ 8) (hn3 : os3 ≠ []) (hl3 : os3.length ≤ 8)
   (hret : ∀ Dw t0 t1 t2 t3 k' vs' n n2 tl' h' tk', Fr g Lk h' (fun y => if y = Str.ofString "words" then some (.ref Dw) else m1 y) → News g Lk h' ((Dw, listO [.str (toS os0) t0, .str (toS os1) t1, .str (toS os2) t2, .str (toS os3) t3] k') :: (LT.pb, listO [] n) :: (d, lexDict w LT (1 + nls (wordL q0 os0) + nls (wordL q1 os1) + nls (wordL q2 os2) + nls (wordL q3 os3)) tl') :: (S, listO vs' n2) :: rr) → LeftIs vs' [] → AllLt Dw rr → Apart Dw LT.pb → Apart Dw d → Apart Dw S → Qf .next { s with heap := h', toks := tk' }) : wpAny (model PP w) (callerA.deeper (envOfC (Str.ofString "law") sc Lk fa cd)) (exec st (envOfC (Str.ofString "law") sc Lk fa cd)) Qf (fun e s' => wpAny (model PP w) (callerA.deeper (envOfC (Str.ofString "law") sc Lk fa cd)) (leaving (envOfC (Str.ofString "law") sc Lk fa cd) e) (fun _ s'' => E e s'') (fun e' s'' => E e' s'') s') s := by
  conv at hsc => rhs; whnf
  conv at hst => rhs; whnf
  subst hsc; subst hst
  rw [← kst_same hk] at F
  have x1 : (x, instObj 245 d) ∈ rr := by
    obtain ⟨d1, f, c', C, pb1, oc, oC, q, t0, t1, t2, t3, t4, t5, tw, n4, ws, t9, doc, pm, ctv, a1, a2, a3, a4, a5, a6, a7, a8, a9⟩ := id LX
    exact a1
  have b2 : Apart x LT.pb := e2 _ x1
  have b3 : Apart x d := e3 _ x1
  have b4 : Apart x S := e4 _ x1
  have b5 : Apart Dr LT.pb := e2 _ hdr
  have b6 : Apart Dr d := e3 _ hdr
  have b7 : Apart Dr S := e4 _ hdr
  have c5 : Apart (Lk + 1 + 1 + 1) LT.pb := e2 _ hcl
  have c6 : Apart (Lk + 1 + 1 + 1) d := e3 _ hcl
  have c7 : Apart (Lk + 1 + 1 + 1) S := e4 _ hcl
  have hW : ∀ p ∈ ([(q0, os0), (q1, os1), (q2, os2), (q3, os3)] : List (Int × List Nat)), p.2 ≠ [] ∧ p.2.length ≤ 8 := allC ⟨hn0, hl0⟩ (allC ⟨hn1, hl1⟩ (allC ⟨hn2, hl2⟩ (allC ⟨hn3, hl3⟩ (List.forall_mem_nil _))))
  clear hn0 hl0 hn1 hl1 hn2 hl2 hn3 hl3
  k_steps
  k_extra "mine held"
  k_extra "mine cassign"
  k_steps
  k_extra "mine held"
  k_extra "mine ylist"
  k_extra "mine cbegin"
  k_dflt (refine' ind_turn (fun es₀ done acc es m₃ => ∃ us n n2 ln tl, es = (LT.pb, listO [] n) :: (d, lexDict w LT ln tl) :: (S, listO us n2) :: rr ∧ LeftIs us (txW (List.drop done.length ([(q0, os0), (q1, os1), (q2, os2), (q3, os3)] : List (Int × List Nat)))) ∧ ln = (List.take done.length ([(q0, os0), (q1, os1), (q2, os2), (q3, os3)] : List (Int × List Nat))).foldl (fun a p => a + nls (wordL p.1 p.2)) 1 ∧ 0 ≤ ln ∧ ln ≤ 1 + 18 * (done.length : Int) ∧ TxAre acc ((List.take done.length ([(q0, os0), (q1, os1), (q2, os2), (q3, os3)] : List (Int × List Nat))).map Prod.snd)) ?v1 ?vF ?vN ?vY ?vU1 ?vC ?vU2 ?vU3 ?vs ?vI ?vt ?vf)
  case v1 => exact rfl
  case vF => k_asm
  case vN => k_asm
  case vY => k_asm
  case vU1 => k_extra "mine rem"
  case vC => k_asm
  case vU2 => k_extra "mine rem"
  case vU3 => k_extra "mine rem"
  case vs => k_extra "mine sub"
  case vI => exact ⟨_, _, _, _, _, rfl, hL, rfl, by decide, by decide, .nil⟩
  case vt =>
    intro KK x9 r9 done acc n8 io8 oC8 m8 es h8 tk8 t8 hall hI hcl8 hsub Y8 hC8 F8 N8 kont
    obtain ⟨us, n5, n6, ln, tl5, rfl, hL5, hln, h0, h1, hT⟩ := hI
    have hd : done.length < 4 := by
      have h := congrArg List.length hall
      rw [List.length_append, List.length_cons] at h
      have h : done.length + (r9.length + 1) = 4 := h
      k_extra "om"
    obtain ⟨⟨q, os⟩, hpm, hdr5, htk⟩ := take_pick (l := ([(q0, os0), (q1, os1), (q2, os2), (q3, os3)] : List (Int × List Nat))) hd
    have ho : os ≠ [] := (hW _ hpm).1
    have hz8 : os.length ≤ 8 := (hW _ hpm).2
    have hz6 : (txW (List.drop (done.length + 1) ([(q0, os0), (q1, os1), (q2, os2), (q3, os3)] : List (Int × List Nat)))).length ≤ 500 := by
      refine Nat.le_trans (txW_len fun p hp => hW p (List.mem_of_mem_drop hp)) ?_
      rw [List.length_drop]
      exact Nat.le_trans (Nat.mul_le_mul_left 18 (Nat.sub_le 4 _)) (by decide)
    have hL6 : LeftIs us (wordL q os ++ txW (List.drop (done.length + 1) ([(q0, os0), (q1, os1), (q2, os2), (q3, os3)] : List (Int × List Nat)))) := by
      rw [hdr5] at hL5
      exact hL5
    have hk1 : ∀ us', LeftIs us' (txW (List.drop (done.length + 1) ([(q0, os0), (q1, os1), (q2, os2), (q3, os3)] : List (Int × List Nat)))) → LeftIs us' (txW (List.drop (done ++ [x9]).length ([(q0, os0), (q1, os1), (q2, os2), (q3, os3)] : List (Int × List Nat)))) := fun us' h => by rw [List.length_append]; exact h
    have hk2 : ln + nls (wordL q os) = (List.take (done ++ [x9]).length ([(q0, os0), (q1, os1), (q2, os2), (q3, os3)] : List (Int × List Nat))).foldl (fun a p => a + nls (wordL p.1 p.2)) 1 := by
      rw [List.length_append]
      show _ = (List.take (done.length + 1) ([(q0, os0), (q1, os1), (q2, os2), (q3, os3)] : List (Int × List Nat))).foldl (fun a p => a + nls (wordL p.1 p.2)) 1
      rw [htk, List.foldl_append, ← hln]
      rfl
    have hk3 : ∀ acc', TxAre acc' ((List.take done.length ([(q0, os0), (q1, os1), (q2, os2), (q3, os3)] : List (Int × List Nat))).map Prod.snd ++ [os]) → TxAre acc' ((List.take (done ++ [x9]).length ([(q0, os0), (q1, os1), (q2, os2), (q3, os3)] : List (Int × List Nat))).map Prod.snd) := fun acc' h => by
      rw [List.length_append]
      show TxAre acc' ((List.take (done.length + 1) ([(q0, os0), (q1, os1), (q2, os2), (q3, os3)] : List (Int × List Nat))).map Prod.snd)
      rw [htk, List.map_append]
      exact h
    have nb := nls_le (wordL q os)
    have wl := wordL_len q os
    have ha : acc.length ≤ 4 := by
      rw [hT.length, List.length_map, List.length_take]
      exact Nat.le_trans (Nat.min_le_right _ _) (Nat.le_refl _)
    generalize txW (List.drop (done.length + 1) ([(q0, os0), (q1, os1), (q2, os2), (q3, os3)] : List (Int × List Nat))) = rest at hz6 hL6 hk1
    clear hL5 hdr5 htk hpm hln hW hL hall hret
    generalize hdl : (done ++ [x9]).length = dl at kont hk1 hk2 hk3
    have hdl : dl = done.length + 1 := by rw [← hdl, List.length_append]; rfl
    dsimp only [blk] at N8
    have hcl9 := hcl8
    obtain ⟨cI, cC, cD⟩ := hcl9
    k_steps
    exact kont _ _ _ _ _ _ _ _ ⟨_, _, _, _, _, rfl, hk1 _ (by assumption), hk2, by k_extra "om", by k_extra "om", hk3 _ (hT.append (.cons _ _ .nil))⟩ (clear_three hcl8) (fun p hp => by rw [List.mem_singleton.mp hp]; exact .tail _ (.tail _ (.tail _ hdr))) rfl (by assumption) (by k_asm) (by k_extra "mine news")
  case vf =>
    intro acc9 n9 oC9 m9 es9 h9 tk9 hI hcl8 hC9 F9 N9
    obtain ⟨us, n5, n6, ln, tl5, rfl, hL5, rfl, h0, h1, hT⟩ := hI
    have hT : TxAre acc9 [os0, os1, os2, os3] := hT
    have hL5 : LeftIs us [] := hL5
    obtain ⟨t0, t1, t2, t3, rfl⟩ := tx_four hT
    obtain ⟨cI, cC, cD⟩ := hcl8
    clear hL h0 h1 hW hT
    refine comp_use ?_
    k_steps
    k_extra "mine cfin"
    k_steps
    rw [kst_same hk] at *
    exact hret _ _ _ _ _ _ _ _ _ _ _ _ (by k_asm) (by k_extra "mine news") hL5 (by k_extra "mine lt24") (by k_ne) (by k_ne) (by k_ne)
end
section
variable {w : World} {mean : ExcName → Option Value} {mg mb : Str → Option Value} {dp un : Nat} {gd : Option (List Code)} {cn : Str} {cs : Scope} {L a : Addr} {ccd : Value} {cl : List (Str × Addr)} {outer : List Env}
   {A₀ : Around} {base h₀ : Heap} {m : Str → Option Value} {s : Shared} {Q E : Value → Shared → Prop}
open G0 G3 G4 G8 G10 G11 G32 G34 G41 G49 G52
theorem law7 {Dr c0 c1 c2 c3 : Addr} {x00 x01 x02 x03 x10 x11 x12 x13 x20 x21 x22 x23 x30 x31 x32 x33 : Int} {a00 a01 a02 a03 a10 a11 a12 a13 a20 a21 a22 a23 a30 a31 a32 a33 : Tok} {k : Nat} {rr : List (Addr × Obj)} {sc : Scope} {st : Stmt} {Lk fa : Addr} {cd : Value} {g : Heap} {m1 : Str → Option Value} {Qf : Flow → Shared → Prop} (hsc : sc = scL)
   (B : Below callerA g [] g) (F : Fr g Lk s.heap m1) (X : (K w.params).In g) (N : News g Lk s.heap ((Dr, listO [.ref c0, .ref c1, .ref c2, .ref c3] k) :: (c0, tupO [.int x00 a00, .int x01 a01, .int x02 a02, .int x03 a03]) :: (c1, tupO [.int x10 a10, .int x11 a11, .int x12 a12, .int x13 a13]) :: (c2, tupO [.int x20 a20, .int x21 a21, .int x22 a22, .int x23 a23]) :: (c3, tupO [.int x30 a30, .int x31 a31, .int x32 a32, .int x33 a33]) :: rr))
   (T : Top topProg LL mean mg mb g) (hst : st = lS 7)
   (hk : Has m1 [(Str.ofString "rows", .ref Dr)])
   (hret : ∀ De e0 e1 e2 e3 b00 b01 b02 b03 b04 b10 b11 b12 b13 b14 b20 b21 b22 b23 b24 b30 b31 b32 b33 b34 k' h' tk', Fr g Lk h' (fun y => if y = Str.ofString "due" then some (.ref De) else m1 y) → News g Lk h' ((De, listO [.ref e0, .ref e1, .ref e2, .ref e3] k') :: (e0, tupO [.int (2 * x00) b00, .int (2 * x00 + 2 * x01) b01, .int (2 * x02) b02, .int (Int.fdiv x03 2) b03, .str (if (Int.fmod x03 2 == 1) = true then Str.ofString "True" else Str.ofString "False") b04]) :: (e1, tupO [.int (2 * x10) b10, .int (2 * x10 + 2 * x11) b11, .int (2 * x12) b12, .int (Int.fdiv x13 2) b13, .str (if (Int.fmod x13 2 == 1) = true then Str.ofString "True" else Str.ofString "False") b14]) :: (e2, tupO [.int (2 * x20) b20, .int (2 * x20 + 2 * x21) b21, .int (2 * x22) b22, .int (Int.fdiv x23 2) b23, .str (if (Int.fmod x23 2 == 1) = true then Str.ofString "True" else Str.ofString "False") b24]) :: (e3, tupO [.int (2 * x30) b30, .int (2 * x30 + 2 * x31) b31, .int (2 * x32) b32, .int (Int.fdiv x33 2) b33, .str (if (Int.fmod x33 2 == 1) = true then Str.ofString "True" else Str.ofString "False") b34]) :: (Dr, listO [.ref c0, .ref c1, .ref c2, .ref c3] k) :: (c0, tupO [.int x00 a00, .int x01 a01, .int x02 a02, .int x03 a03]) :: (c1, tupO [.int x10 a10, .int x11 a11, .int x12 a12, .int x13 a13]) :: (c2, tupO [.int x20 a20, .int x21 a21, .int x22 a22, .int x23 a23]) :: (c3, tupO [.int x30 a30, .int x31 a31, .int x32 a32, .int x33 a33]) :: rr) → Qf .next { s with heap := h', toks := tk' }) : wpAny (model PP w) (callerA.deeper (envOfC (Str.ofString "law") sc Lk fa cd)) (exec st (envOfC (Str.ofString "law") sc Lk fa cd)) Qf (fun e s' => wpAny (model PP w) (callerA.deeper (envOfC (Str.ofString "law") sc Lk fa cd)) (leaving (envOfC (Str.ofString "law") sc Lk fa cd) e) (fun _ s'' => E e s'') (fun e' s'' => E e' s'') s') s := by
  conv at hsc => rhs; whnf
  conv at hst => rhs; whnf
  subst hsc; subst hst
  rw [← kst_same hk] at F
  have RRm0 : (Dr, listO [.ref c0, .ref c1, .ref c2, .ref c3] k) ∈ (Dr, listO [.ref c0, .ref c1, .ref c2, .ref c3] k) :: (c0, tupO [.int x00 a00, .int x01 a01, .int x02 a02, .int x03 a03]) :: (c1, tupO [.int x10 a10, .int x11 a11, .int x12 a12, .int x13 a13]) :: (c2, tupO [.int x20 a20, .int x21 a21, .int x22 a22, .int x23 a23]) :: (c3, tupO [.int x30 a30, .int x31 a31, .int x32 a32, .int x33 a33]) :: rr := by repeat (first | exact List.Mem.head _ | apply List.Mem.tail)
  have RRm1 : (c0, tupO [.int x00 a00, .int x01 a01, .int x02 a02, .int x03 a03]) ∈ (Dr, listO [.ref c0, .ref c1, .ref c2, .ref c3] k) :: (c0, tupO [.int x00 a00, .int x01 a01, .int x02 a02, .int x03 a03]) :: (c1, tupO [.int x10 a10, .int x11 a11, .int x12 a12, .int x13 a13]) :: (c2, tupO [.int x20 a20, .int x21 a21, .int x22 a22, .int x23 a23]) :: (c3, tupO [.int x30 a30, .int x31 a31, .int x32 a32, .int x33 a33]) :: rr := by repeat (first | exact List.Mem.head _ | apply List.Mem.tail)
  have RRm2 : (c1, tupO [.int x10 a10, .int x11 a11, .int x12 a12, .int x13 a13]) ∈ (Dr, listO [.ref c0, .ref c1, .ref c2, .ref c3] k) :: (c0, tupO [.int x00 a00, .int x01 a01, .int x02 a02, .int x03 a03]) :: (c1, tupO [.int x10 a10, .int x11 a11, .int x12 a12, .int x13 a13]) :: (c2, tupO [.int x20 a20, .int x21 a21, .int x22 a22, .int x23 a23]) :: (c3, tupO [.int x30 a30, .int x31 a31, .int x32 a32, .int x33 a33]) :: rr := by repeat (first | exact List.Mem.head _ | apply List.Mem.tail)
  have RRm3 : (c2, tupO [.int x20 a20, .int x21 a21, .int x22 a22, .int x23 a23]) ∈ (Dr, listO [.ref c0, .ref c1, .ref c2, .ref c3] k) :: (c0, tupO [.int x00 a00, .int x01 a01, .int x02 a02, .int x03 a03]) :: (c1, tupO [.int x10 a10, .int x11 a11, .int x12 a12, .int x13 a13]) :: (c2, tupO [.int x20 a20, .int x21 a21, .int x22 a22, .int x23 a23]) :: (c3, tupO [.int x30 a30, .int x31 a31, .int x32 a32, .int x33 a33]) :: rr := by repeat (first | exact List.Mem.head _ | apply List.Mem.tail)
  have RRm4 : (c3, tupO [.int x30 a30, .int x31 a31, .int x32 a32, .int x33 a33]) ∈ (Dr, listO [.ref c0, .ref c1, .ref c2, .ref c3] k) :: (c0, tupO [.int x00 a00, .int x01 a01, .int x02 a02, .int x03 a03]) :: (c1, tupO [.int x10 a10, .int x11 a11, .int x12 a12, .int x13 a13]) :: (c2, tupO [.int x20 a20, .int x21 a21, .int x22 a22, .int x23 a23]) :: (c3, tupO [.int x30 a30, .int x31 a31, .int x32 a32, .int x33 a33]) :: rr := by repeat (first | exact List.Mem.head _ | apply List.Mem.tail)
  generalize RRe : (Dr, listO [.ref c0, .ref c1, .ref c2, .ref c3] k) :: (c0, tupO [.int x00 a00, .int x01 a01, .int x02 a02, .int x03 a03]) :: (c1, tupO [.int x10 a10, .int x11 a11, .int x12 a12, .int x13 a13]) :: (c2, tupO [.int x20 a20, .int x21 a21, .int x22 a22, .int x23 a23]) :: (c3, tupO [.int x30 a30, .int x31 a31, .int x32 a32, .int x33 a33]) :: rr = RR at N hret RRm0 RRm1 RRm2 RRm3 RRm4 
  clear RRe
  k_steps
  k_extra "mine held"
  k_extra "mine cassign"
  k_steps
  k_extra "mine held"
  k_extra "mine ylist"
  k_extra "mine cbegin"
  k_dflt (refine' comp_four (p0 := (.ref c0, (x00, x01, x02, x03))) (p1 := (.ref c1, (x10, x11, x12, x13))) (p2 := (.ref c2, (x20, x21, x22, x23))) (p3 := (.ref c3, (x30, x31, x32, x33))) (fun p => ∃ c a0 a1 a2 a3, p.1 = .ref c ∧ (c, tupO [.int p.2.1 a0, .int p.2.2.1 a1, .int p.2.2.2.1 a2, .int p.2.2.2.2 a3]) ∈ RR) (fun a o => ∃ b0 b1 b2 b3 b4, o = tupO [.int (2 * a.1) b0, .int (2 * a.1 + 2 * a.2.1) b1, .int (2 * a.2.2.1) b2, .int (Int.fdiv a.2.2.2 2) b3, .str (if (Int.fmod a.2.2.2 2 == 1) = true then Str.ofString "True" else Str.ofString "False") b4]) ?va1 ?vaF ?vaN ?vaY ?vaU1 ?vaC ?vaU2 ?vaU3 ?vas ?vap0 ?vap1 ?vap2 ?vap3 ?vat ?vaf)
  case va1 => exact rfl
  case vaF => k_asm
  case vaN => k_asm
  case vaY => k_asm
  case vaU1 => k_extra "mine rem"
  case vaC => k_asm
  case vaU2 => k_extra "mine rem"
  case vaU3 => k_extra "mine rem"
  case vas => k_extra "mine sub"
  case vap0 => exact ⟨c0, _, _, _, _, rfl, RRm1⟩
  case vap1 => exact ⟨c1, _, _, _, _, rfl, RRm2⟩
  case vap2 => exact ⟨c2, _, _, _, _, rfl, RRm3⟩
  case vap3 => exact ⟨c3, _, _, _, _, rfl, RRm4⟩
  case vat =>
    intro KK p8 acc8 n8 io8 oC8 m8 es8 h8 tk8 hz8 hP8 hs8 cI8 cC8 cD8 hC8 F8 N8 kont8
    obtain ⟨v8, x0, x1, x2, x3⟩ := p8
    obtain ⟨c8, a0, a1, a2, a3, rfl, hm8⟩ := hP8
    have hm9 := hs8 _ hm8
    dsimp only at hm9
    dsimp only
    k_steps
    rename Fr _ _ _ _ => FZ
    rename News _ _ _ _ => NZ
    refine kont8 _ _ _ _ _ _ _ ⟨_, _, _, _, _, rfl⟩ ?val (by assumption) FZ NZ
    case val => k_extra "mine lt24"
  case vaf =>
    intro e0 e1 e2 e3 o0 o1 o2 o3 n9 oC9 m9 h9 tk9 hO0 hO1 hO2 hO3 l0 l1 l2 l3 nC9 hC9 F9 N9
    obtain ⟨b00, b01, b02, b03, b04, rfl⟩ := hO0
    obtain ⟨b10, b11, b12, b13, b14, rfl⟩ := hO1
    obtain ⟨b20, b21, b22, b23, b24, rfl⟩ := hO2
    obtain ⟨b30, b31, b32, b33, b34, rfl⟩ := hO3
    dsimp only at N9 nC9
    refine comp_use ?_
    k_steps
    k_extra "mine cfin"
    k_steps
    rw [kst_same hk] at *
    exact hret _ e0 e1 e2 e3 _ _ _ _ _ _ _ _ _ _ _ _ _ _ _ _ _ _ _ _ _ _ _ (by k_asm) (by k_extra "mine news")
end
section
/-- an object that holds a tuple's items, of whatever class -/
noncomputable def SeqAt (h : Heap) (t : Addr) (items : Array Value) : Prop := ∃ o n, h.get? t = some o ∧ o.data = .seq items n
section
variable {prog : Program} {w : World} {A : Around} {E : Value → Shared → Prop} {s : Shared} {h₀ : Heap} {L : Addr} {m : Str → Option Value} {news : List (Addr × Obj)}
theorem e_iter {h : Heap} (X : (K w.params).In h) : Looks (model PP w) h (typeLookup (.ref 190) (Str.ofString "__iter__")) (some (.builtin "tuple.__iter__")) := looks_findIn X (by kernel_rfl)
theorem ti_bind (self : Value) : bindSpecial (.builtin "tuple.__iter__") self = pure (.builtin "tuple.__iter__", [self]) := by first | exact PySem.F.slot_tuple_iter.bind self | exact (PySem.F.slot_tuple_iter).bind
theorem ti_kind : builtinKind "tuple.__iter__" = some .slot := by decide +kernel
theorem ti_split : splitId "tuple.__iter__" = some ("tuple", "__iter__") := by decide +kernel
theorem ti_plain : plainId "tuple.__iter__" = true := by decide +kernel
theorem ent_iter {x dx : Addr} {vs : List Value} {Q : Value → Shared → Prop} (F : Fr h₀ L s.heap m) (N : News h₀ L s.heap news) (X₀ : (K w.params).In h₀) (hm : (x, entO dx vs) ∈ news)
    (h : Q (.ref s.heap.objs.size) { s with heap := s.heap.push { cls := .type "tuple_iterator", data := .fields #[.ref x, .int 0 0] } }) : wpAny (model PP w) A (pyIter (.ref x)) Q E s := by
  have X : (K w.params).In s.heap := X₀.keeps F.keep
  have ho := (N _ hm).1
  have t1 : Looks (model PP w) s.heap (typeOf (.ref x)) (.ref 190) := (Looks.ld ho).andThen .now
  have sp : Looks (model PP w) s.heap (specialOf (.ref x) (Str.ofString "__iter__")) (some (.builtin "tuple.__iter__")) := t1.andThen (e_iter X)
  have t2 : Looks (model PP w) s.heap (isInstance (.ref x) (.type "tuple")) true := t1.andThen (e_subT X)
  unfold pyIter
  refine wpAny_bind (sp.here ?_)
  show wpAny _ _ (callSpecialIfBoundUnlessNone? (.ref x) "__iter__" _ >>= _) _ _ _
  refine wpAny_bind ?_
  simp only [callSpecialIfBoundUnlessNone?, bindSpecialIfBound?]
  refine wpAny_holding (wpAny_bind (wpAny_bind (sp.here ?_)))
  simp only [ti_bind]
  refine wpAny_bind (wpAny_askSetting (wpAny_ite ?_))
  have fin : wpAny (model PP w) A (call (.builtin "tuple.__iter__") [.ref x]) (fun it s' => wpAny (model PP w) A (do
      match ← specialOf it "__next__" with
      | none => (do rule "iter.non-iterator"; raiseError "TypeError" s!"iter() returned non-iterator of type '{← typeNameOf it}'" : Sem Value)
      | some _ => pure it) Q E s') E s := by
    refine wpAny_call ?_
    refine codeAny_call_builtin ti_plain PyProof.Rows.entry_tuple_iter (@check_slot (model PP w) _ _ _ "tuple.__iter__" "tuple" "__iter__" (.ref x) [] [] _ ti_kind ti_split t2 (PyProof.Rows.args_tuple_iter _) ?_)
    show wpAny _ _ (do ret (← newFields "tuple_iterator" [.ref x, rawInt 0])) _ _ s
    refine wpAny_bind (wpAny_newObj_type (wpAny_pure ?_))
    refine wpAny_bind (wpAny_specialOf (T := "tuple_iterator") ⟨_, Heap.get?_push_size _ rfl, rfl⟩ slot_tupleiter_next.lookup (wpAny_pure h))
  split
  · refine wpAny_bind (wpAny_pure (wpAny_pure ?_))
    dsimp only
    rw [if_neg (show ¬ ((Value.builtin "tuple.__iter__" == Value.none) = true) by decide)]
    exact wpAny_bind (wpAny_mono fin (fun v s' h' => wpAny_pure h') fun _ _ z => z)
  · refine wpAny_tryCatch (wpAny_bind (wpAny_pure (wpAny_pure ?_)))
    dsimp only
    rw [if_neg (show ¬ ((Value.builtin "tuple.__iter__" == Value.none) = true) by decide)]
    exact wpAny_bind (wpAny_mono fin (fun v s' h' => wpAny_pure h') fun _ _ z => z)
theorem sq_item {it t : Addr} {i : Nat} {items : Array Value} {x : Value} {Q : Option Value → Shared → Prop} (hit : IsTupIter s.heap it t i) (ht : SeqAt s.heap t items) (hx : items[i]? = some x)
    (hQ : ∀ h', IsTupIter h' it t (i + 1) → Heap.SameBut it s.heap h' → Q (some x) { s with heap := h' }) : wpAny (model prog w) A (pyNext (.ref it)) Q E s := by
  obtain ⟨o, ho, hc, hd⟩ := id hit
  obtain ⟨ot, nt, hot, hdt⟩ := ht
  unfold pyNext
  refine wpAny_bind (wpAny_attempt (wpAny_callSpecial?_slot (name := Str.ofString "__next__") hit.typeIs slot_tupleiter_next (wpAny_call_entry slot_tupleiter_next hit.typeIs entry_tupleiter_next ?_ (args_tupleiter_next _))))
  show wpAny _ _ (field (.ref it) 0 >>= _) _ _ s
  refine wpAny_bind (wpAny_field ho hd (x := .ref t) rfl ?_)
  show wpAny _ _ (if (Value.ref t == Value.none) = true then _ else _) _ _ s
  rw [if_neg (by intro k; cases k)]
  show wpAny _ _ (field (.ref it) 1 >>= _) _ _ s
  refine wpAny_bind (wpAny_field ho hd (x := .int i 0) rfl ?_)
  show wpAny _ _ (seqItems? (.ref t) >>= _) _ _ s
  refine wpAny_bind (wpAny_seqItems hot hdt ?_)
  rw [show ((i : Int)).toNat = i from rfl]
  simp only [hx]
  refine wpAny_bind (wpAny_setField ho hd (by simp) (wpAny_pure ⟨x, rfl, wpAny_pure (hQ _ ⟨_, Heap.get?_update_self _ ho (Obj.isFreed_of_fields (Obj.data_mapFields hd _)), (Obj.cls_mapFields ..).trans hc, ?_⟩ (Heap.SameBut.update ..))⟩))
  rw [Obj.data_mapFields hd]
  simp [rawInt]
theorem sq_end {it t : Addr} {i : Nat} {items : Array Value} {Q : Option Value → Shared → Prop} (hh : A.handled = none) (hit : IsTupIter s.heap it t i) (ht : SeqAt s.heap t items) (hx : items[i]? = none)
    (hQ : ∀ h', Heap.ExtBut it s.heap h' → Q none { s with heap := h' }) : wpAny (model prog w) A (pyNext (.ref it)) Q E s := by
  obtain ⟨o, ho, hc, hd⟩ := id hit
  obtain ⟨ot, nt, hot, hdt⟩ := ht
  unfold pyNext
  refine wpAny_bind (wpAny_attempt (wpAny_callSpecial?_slot (name := Str.ofString "__next__") hit.typeIs slot_tupleiter_next (wpAny_call_entry slot_tupleiter_next hit.typeIs entry_tupleiter_next ?_ (args_tupleiter_next _))))
  show wpAny _ _ (field (.ref it) 0 >>= _) _ _ s
  refine wpAny_bind (wpAny_field ho hd (x := .ref t) rfl ?_)
  show wpAny _ _ (if (Value.ref t == Value.none) = true then _ else _) _ _ s
  rw [if_neg (by intro k; cases k)]
  show wpAny _ _ (field (.ref it) 1 >>= _) _ _ s
  refine wpAny_bind (wpAny_field ho hd (x := .int i 0) rfl ?_)
  show wpAny _ _ (seqItems? (.ref t) >>= _) _ _ s
  refine wpAny_bind (wpAny_seqItems hot hdt ?_)
  rw [show ((i : Int)).toNat = i from rfl]
  simp only [hx]
  refine wpAny_bind (wpAny_rule (wpAny_bind (wpAny_setField ho hd (by simp) ?_)))
  show wpAny _ _ (newExc (.type "StopIteration") [] >>= _) _ _ _
  refine wpAny_bind ?_
  simp only [newExc, newTuple]
  refine wpAny_bind (wpAny_newObj_type ?_ (by size_fits))
  refine wpAny_bind (m := firstArgMember _ _) (wpAny_of_eq (a := Value.none) (by first | rfl | (simp only [firstArgMember]; rfl)) ?_)
  refine wpAny_newObj_type ?_ (by size_fits)
  simp only [raiseNew]
  refine wpAny_bind (wpAny_handled ?_)
  rw [show A.in1.handled = none from hh]
  refine wpAny_bind (wpAny_pure (wpAny_throw ?_))
  refine wpAny_bind (wpAny_isInstance (T := "StopIteration") (b := true) ⟨_, Heap.get?_push_size _ rfl, rfl⟩ isSubtype_stop ?_)
  exact wpAny_pure (hQ _ (((Heap.SameBut.update ..).extBut.push _).push _))
theorem sq_draw {it t : Addr} {items : Array Value} (hne : t ≠ it) : ∀ (n i : Nat) (s : Shared) (Q : List Value → Shared → Prop), IsTupIter s.heap it t i → SeqAt s.heap t items → i + n ≤ items.size →
    (∀ h', IsTupIter h' it t (i + n) → Heap.SameBut it s.heap h' → Q ((items.toList.drop i).take n) { s with heap := h' }) → wpAny (model prog w) A (draw (.ref it) n) Q E s
  | 0, i, s, Q, hit, _, _, hQ => by
    show wpAny _ _ (pure []) Q E s
    exact wpAny_pure (by simpa using hQ s.heap hit (Heap.SameBut.refl ..))
  | n + 1, i, s, Q, hit, ht, hle, hQ => by
    have hlt : i < items.size := by k_extra "om"
    show wpAny _ _ (pyNext (.ref it) >>= _) Q E s
    refine wpAny_bind (sq_item hit ht (x := items[i]) (by simp [hlt]) fun h₁ hit₁ hs₁ => ?_)
    obtain ⟨o, k, e1, e2⟩ := ht
    refine wpAny_bind (wpAny_holding (sq_draw hne n (i + 1) _ _ hit₁ ⟨o, k, hs₁.extBut _ _ hne e1, e2⟩ (by k_extra "om") fun h₂ hit₂ hs₂ => wpAny_pure ?_))
    have hd : items.toList.drop i = items[i] :: items.toList.drop (i + 1) := by simp [List.drop_eq_getElem_cons, hlt]
    have h9 := hQ h₂ (by rw [show i + (n + 1) = i + 1 + n by k_extra "om"]; exact hit₂) (hs₁.trans hs₂)
    rw [hd, List.take_succ_cons] at h9
    exact h9
/-- a named tuple taken apart into names -/
theorem ent_unpack {elts : List PySem.Expr} {k : Nat} {pos : Pos} {env : Env} {x dx : Addr} {vs : List Value} {Q : Unit → Shared → Prop} (hh : A.handled = none) (F : Fr h₀ L s.heap m) (N : News h₀ L s.heap news) (X₀ : (K w.params).In h₀) (hm : (x, entO dx vs) ∈ news)
    (hn : (assignEach elts env).length = vs.length) (hstar : (assignEach elts env).findIdx? (·.1) = none)
    (h : ∀ h', Fr h₀ L h' m → News h₀ L h' news → wpAny (model PP w) A (assignInOrder ((assignEach elts env).map (·.2)) vs) Q E { s with heap := h' }) : wpAny (model PP w) A (assign (.Tuple elts k pos) env (.ref x)) Q E s := by
  have ho := (N _ hm).1
  have X : (K w.params).In s.heap := X₀.keeps F.keep
  have hlt : x ≠ s.heap.objs.size := Nat.ne_of_lt (Heap.lt_size ho)
  have t1 : Looks (model PP w) s.heap (typeOf (.ref x)) (.ref 190) := (Looks.ld ho).andThen .now
  have sp : Looks (model PP w) s.heap (specialOf (.ref x) (Str.ofString "__iter__")) (some (.builtin "tuple.__iter__")) := t1.andThen (e_iter X)
  rw [assign_Tuple]
  refine wpAny_bind (wpAny_standAt ?_)
  unfold unpack
  refine wpAny_bind (wpAny_holding ?_)
  rw [hstar, hn]
  unfold unpackItems
  refine wpAny_bind ?_
  unfold notIterableAtAll
  refine wpAny_bind (sp.here ?_)
  refine wpAny_pure ?_
  simp only [Bool.false_eq_true, if_false]
  refine wpAny_bind (wpAny_holding (ent_iter F N X₀ hm ?_))
  have hs0 : SeqAt (s.heap.push { cls := .type "tuple_iterator", data := .fields #[.ref x, .int 0 0] }) x vs.toArray := ⟨_, 0, Heap.get?_push_of_some _ ho, rfl⟩
  refine wpAny_bind (wpAny_holding (sq_draw hlt vs.length 0 _ _ ⟨_, Heap.get?_push_size _ rfl, rfl, rfl⟩ hs0 (by rw [List.size_toArray]; k_extra "om") fun h₁ hit₁ hs₁ => ?_))
  have hall : List.take vs.length (List.drop 0 vs.toArray.toList) = vs := by simp
  rw [hall]
  rw [if_neg (by simp)]
  obtain ⟨o, k9, e1, e2⟩ := hs0
  refine wpAny_bind (wpAny_holding (sq_end hh hit₁ ⟨o, k9, hs₁.extBut _ _ hlt e1, e2⟩ (by simp) fun h₂ hx => ?_))
  rw [if_neg (by decide)]
  refine wpAny_pure ?_
  have keep : Heap.ExtBut s.heap.objs.size s.heap h₂ := fun b o' hb e => hx b o' hb (hs₁.extBut b o' hb (Heap.get?_push_of_some _ e))
  exact h h₂ (F.extBut keep (Nat.le_refl _)) (N.extBut keep (Nat.le_refl _))
end
end
section
variable {w : World} {mean : ExcName → Option Value} {mg mb : Str → Option Value} {dp un : Nat} {gd : Option (List Code)} {cn : Str} {cs : Scope} {L a : Addr} {ccd : Value} {cl : List (Str × Addr)} {outer : List Env}
   {A₀ : Around} {base h₀ : Heap} {m : Str → Option Value} {s : Shared} {Q E : Value → Shared → Prop}
open G0 G3 G4 G6 G8 G10 G11 G32 G34 G41 G49 G52
theorem bit_all : ∀ n : Nat, n < 128 → (Builtin.bitAnd (n : Int) 1 != 0) = (Int.fmod (n : Int) 2 == 1) := by decide +kernel
theorem ent_is {x0 x1 x2 x3 : Int} (h0 : 0 ≤ x3) (h1 : x3 < 128) : entOf (x0, x1, x2, x3) = (2 * x0, 2 * x0 + 2 * x1, 2 * x2, Int.fdiv x3 2, (Int.fmod x3 2 == 1)) := by
  obtain ⟨n, rfl⟩ := Int.eq_ofNat_of_zero_le h0
  have hb := bit_all n (by k_extra "om")
  show (x0 * 2, x0 * 2 + x1 * 2, x2 * 2, Int.fdiv (n : Int) (2 ^ Int.toNat 1), Builtin.bitAnd (n : Int) 1 != 0) = _
  rw [hb, Int.mul_comm x0 2, Int.mul_comm x1 2, Int.mul_comm x2 2]
  rfl
theorem ents_pairs {es : List (Addr × Obj)} : ∀ {vs : List Value} {rows : List (Int × Int × Int × Int × Bool)}, EntsAt es vs rows → ∃ ps : List (Value × Int × Int × Int × Int × Bool), ps.map Prod.fst = vs ∧ ps.map Prod.snd = rows ∧ ∀ p ∈ ps, ∃ y z p0 p1 p2 p3, p.1 = .ref y ∧ (y, entO z [.int p.2.1 p0, .int p.2.2.1 p1, .int p.2.2.2.1 p2, .int p.2.2.2.2.1 p3, .bool p.2.2.2.2.2]) ∈ es := by
  intro vs rows h
  induction h with
  | nil => exact ⟨[], rfl, rfl, fun _ h => nomatch h⟩
  | cons h0 _ ih =>
    obtain ⟨ps, a, b, c⟩ := ih
    refine ⟨(_, _, _, _, _, _) :: ps, congrArg _ a, congrArg _ b, fun p hp => ?_⟩
    rcases List.mem_cons.mp hp with rfl | hp
    · exact ⟨_, _, _, _, _, _, rfl, h0⟩
    · exact c p hp
theorem relay8 {a b c d e x : Addr × Obj} {es r : List (Addr × Obj)} (hs : ∀ p ∈ r, p ∈ es) {p : Addr × Obj} (hp : p ∈ a :: b :: c :: d :: e :: r) : p ∈ a :: b :: c :: d :: e :: x :: es := by
  rcases List.mem_cons.mp hp with rfl | hp
  · exact .head _
  refine .tail _ ?_
  rcases List.mem_cons.mp hp with rfl | hp
  · exact .head _
  refine .tail _ ?_
  rcases List.mem_cons.mp hp with rfl | hp
  · exact .head _
  refine .tail _ ?_
  rcases List.mem_cons.mp hp with rfl | hp
  · exact .head _
  refine .tail _ ?_
  rcases List.mem_cons.mp hp with rfl | hp
  · exact .head _
  exact .tail _ (.tail _ (hs _ hp))
theorem allLt_sub0 {d : Addr} {y : Addr × Obj} {es r : List (Addr × Obj)} (h : AllLt d es) (hs : ∀ p ∈ y :: r, p ∈ es) : AllLt d r := allLt_of fun q hq => allLt_lt h q (hs q (.tail _ hq))
theorem allLt_sub {d : Addr} {x y : Addr × Obj} {es r : List (Addr × Obj)} (h : AllLt d (x :: es)) (hs : ∀ p ∈ y :: r, p ∈ es) : AllLt d r := allLt_of fun q hq => allLt_lt h.2 q (hs q (.tail _ hq))
theorem law8 {Dw : Addr} {x00 x01 x02 x03 x10 x11 x12 x13 x20 x21 x22 x23 x30 x31 x32 x33 : Int} {t0 t1 t2 t3 : Tok} {kw : Nat} {rr : List (Addr × Obj)} {sc : Scope} {st : Stmt} {Lk fa : Addr} {cd : Value} {g : Heap} {mm : Str → Option Value} {Qf : Flow → Shared → Prop} (hsc : sc = scL)
   (B : Below callerA g [] g) (F : Fr g Lk s.heap mm) (X : (K w.params).In g) (N : News g Lk s.heap ((Dw, listO [.str (toS (octs x00 x01 x02 x03)) t0, .str (toS (octs x10 x11 x12 x13)) t1, .str (toS (octs x20 x21 x22 x23)) t2, .str (toS (octs x30 x31 x32 x33)) t3] kw) :: rr))
   (T : Top topProg LL mean mg mb g) (hst : st = lS 8)
   (hk : Has mm [(Str.ofString "words", .ref Dw)]) (hr : ∀ r ∈ ([(x00, x01, x02, x03), (x10, x11, x12, x13), (x20, x21, x22, x23), (x30, x31, x32, x33)] : List Row), RowOk r) (l0 : 0 ≤ x03) (m0 : x03 < 128) (l1 : 0 ≤ x13) (m1 : x13 < 128) (l2 : 0 ≤ x23) (m2 : x23 < 128) (l3 : 0 ≤ x33) (m3 : x33 < 128)
   (hb : octs x00 x01 x02 x03 ++ octs x10 x11 x12 x13 ++ octs x20 x21 x22 x23 ++ octs x30 x31 x32 x33 = allB [(x00, x01, x02, x03), (x10, x11, x12, x13), (x20, x21, x22, x23), (x30, x31, x32, x33)]) (hlt : ∀ c ∈ allB [(x00, x01, x02, x03), (x10, x11, x12, x13), (x20, x21, x22, x23), (x30, x31, x32, x33)], c < 128) (hz2 : (allB [(x00, x01, x02, x03), (x10, x11, x12, x13), (x20, x21, x22, x23), (x30, x31, x32, x33)]).length ≤ 1000)
   (hret : ∀ Df f0 f1 f2 f3 b00 b01 b02 b03 b04 b10 b11 b12 b13 b14 b20 b21 b22 b23 b24 b30 b31 b32 b33 b34 k' h' tk', Fr g Lk h' (fun y => if y = Str.ofString "told" then some (.ref Df) else mm y) → News g Lk h' ((Df, listO [.ref f0, .ref f1, .ref f2, .ref f3] k') :: (f0, tupO [.int (2 * x00) b00, .int (2 * x00 + 2 * x01) b01, .int (2 * x02) b02, .int (Int.fdiv x03 2) b03, .str (if (Int.fmod x03 2 == 1) = true then Str.ofString "True" else Str.ofString "False") b04]) :: (f1, tupO [.int (2 * x10) b10, .int (2 * x10 + 2 * x11) b11, .int (2 * x12) b12, .int (Int.fdiv x13 2) b13, .str (if (Int.fmod x13 2 == 1) = true then Str.ofString "True" else Str.ofString "False") b14]) :: (f2, tupO [.int (2 * x20) b20, .int (2 * x20 + 2 * x21) b21, .int (2 * x22) b22, .int (Int.fdiv x23 2) b23, .str (if (Int.fmod x23 2 == 1) = true then Str.ofString "True" else Str.ofString "False") b24]) :: (f3, tupO [.int (2 * x30) b30, .int (2 * x30 + 2 * x31) b31, .int (2 * x32) b32, .int (Int.fdiv x33 2) b33, .str (if (Int.fmod x33 2 == 1) = true then Str.ofString "True" else Str.ofString "False") b34]) :: (Dw, listO [.str (toS (octs x00 x01 x02 x03)) t0, .str (toS (octs x10 x11 x12 x13)) t1, .str (toS (octs x20 x21 x22 x23)) t2, .str (toS (octs x30 x31 x32 x33)) t3] kw) :: rr) → AllLt Df rr → AllLt f0 rr → AllLt f1 rr → AllLt f2 rr → AllLt f3 rr → Qf .next { s with heap := h', toks := tk' }) : wpAny (model PP w) (callerA.deeper (envOfC (Str.ofString "law") sc Lk fa cd)) (exec st (envOfC (Str.ofString "law") sc Lk fa cd)) Qf (fun e s' => wpAny (model PP w) (callerA.deeper (envOfC (Str.ofString "law") sc Lk fa cd)) (leaving (envOfC (Str.ofString "law") sc Lk fa cd) e) (fun _ s'' => E e s'') (fun e' s'' => E e' s'') s') s := by
  conv at hsc => rhs; whnf
  conv at hst => rhs; whnf
  subst hsc; subst hst
  rw [← kst_same hk] at F
  k_steps
  k_extra "mine held"
  k_extra "mine cassign"
  k_steps
  have hE2 : EntsAt es vs [entOf (x00, x01, x02, x03), entOf (x10, x11, x12, x13), entOf (x20, x21, x22, x23), entOf (x30, x31, x32, x33)] := hE
  rw [ent_is l0 m0, ent_is l1 m1, ent_is l2 m2, ent_is l3 m3] at hE2
  obtain ⟨ps, rfl, hps, hPs⟩ := ents_pairs hE2
  have hpl : ps.length = 4 := by
    have h := congrArg List.length hps
    rwa [List.length_map] at h
  clear hE hE2
  k_extra "mine held"
  k_extra "mine ylist"
  k_extra "mine cbegin"
  k_dflt (refine' comp_objs (ps := ps) (fun p => ∃ y z p0 p1 p2 p3, p.1 = .ref y ∧ (y, entO z [.int p.2.1 p0, .int p.2.2.1 p1, .int p.2.2.2.1 p2, .int p.2.2.2.2.1 p3, .bool p.2.2.2.2.2]) ∈ es) (fun a o => ∃ b0 b1 b2 b3 b4, o = tupO [.int a.1 b0, .int a.2.1 b1, .int a.2.2.1 b2, .int a.2.2.2.1 b3, .str (if a.2.2.2.2 = true then Str.ofString "True" else Str.ofString "False") b4]) ?va1 ?vaF ?vaN ?vaY ?vaU1 ?vaC ?vaU2 ?vaU3 ?vas ?vaP ?vat ?vaf)
  case va1 => exact rfl
  case vaF => k_asm
  case vaN => k_asm
  case vaY => k_asm
  case vaU1 => k_extra "mine rem"
  case vaC => k_asm
  case vaU2 => k_extra "mine rem"
  case vaU3 => k_extra "mine rem"
  case vas => k_extra "mine sub"
  case vaP => exact hPs
  case vat =>
    intro KK p8 acc8 n8 io8 oC8 m8 es8 h8 tk8 hz8 hP8 hs8 cI8 cC8 cD8 hC8 F8 N8 kont8
    obtain ⟨v8, x0, x1, x2, x3, x4⟩ := p8
    obtain ⟨c8, z8, a0, a1, a2, a3, rfl, hm8⟩ := hP8
    have hm9 := hs8 _ (.tail _ hm8)
    rw [hpl] at hz8
    dsimp only at hm9
    dsimp only
    k_steps
    rename Fr _ _ _ _ => FZ
    rename News _ _ _ _ => NZ
    refine kont8 _ _ _ _ _ _ _ ⟨_, _, _, _, _, rfl⟩ ?val (by assumption) FZ NZ
    case val => k_extra "mine lt24"
  case vaf =>
    intro os9 n9 oC9 m9 h9 tk9 hOL nC9 hC9 F9 N9
    obtain ⟨e0, e1, e2, e3, o0, o1, o2, o3, hO0, hO1, hO2, hO3, l0, l1, l2, l3⟩ := outL4 hOL hps
    obtain ⟨b00, b01, b02, b03, b04, rfl⟩ := hO0
    obtain ⟨b10, b11, b12, b13, b14, rfl⟩ := hO1
    obtain ⟨b20, b21, b22, b23, b24, rfl⟩ := hO2
    obtain ⟨b30, b31, b32, b33, b34, rfl⟩ := hO3
    dsimp only [List.map, List.cons_append, List.nil_append] at N9 nC9
    refine comp_use ?_
    k_steps
    k_extra "mine cfin"
    k_steps
    rename News _ _ _ _ => N9
    rw [kst_same hk] at *
    exact hret _ e0 e1 e2 e3 _ _ _ _ _ _ _ _ _ _ _ _ _ _ _ _ _ _ _ _ _ _ _ (by k_asm) (fun p hp => N9 p (relay8 hS hp)) (allLt_sub0 (by k_extra "mine lt24") hS) (allLt_sub l0 hS) (allLt_sub l1 hS) (allLt_sub l2 hS) (allLt_sub l3 hS)
end
section
variable {w : World} {mean : ExcName → Option Value} {mg mb : Str → Option Value} {dp un : Nat} {gd : Option (List Code)} {cn : Str} {cs : Scope} {L a : Addr} {ccd : Value} {cl : List (Str × Addr)} {outer : List Env}
   {A₀ : Around} {base h₀ : Heap} {m : Str → Option Value} {s : Shared} {Q E : Value → Shared → Prop}
open G0 G3 G4 G8 G10 G11 G32 G34 G49 G53
theorem tf_ok (b : Bool) : PyData.strOk (if b = true then Str.ofString "True" else Str.ofString "False") = true := by cases b <;> decide +kernel
noncomputable abbrev rowD (x0 x1 x2 x3 : Int) : PyData := .tuple [.int (2 * x0), .int (2 * x0 + 2 * x1), .int (2 * x2), .int (Int.fdiv x3 2), .str (if (Int.fmod x3 2 == 1) = true then Str.ofString "True" else Str.ofString "False")]
theorem row_lay (x0 x1 x2 x3 : Int) : PyData.canLay0 (rowD x0 x1 x2 x3) = true := by
  show (true && (true && (true && (true && (PyData.strOk (if (Int.fmod x3 2 == 1) = true then Str.ofString "True" else Str.ofString "False") && true))))) = true
  rw [tf_ok]
  rfl
theorem rows_shaped (x00 x01 x02 x03 x10 x11 x12 x13 x20 x21 x22 x23 x30 x31 x32 x33 : Int) : PySem.SeqAt.shaped (.list [rowD x00 x01 x02 x03, rowD x10 x11 x12 x13, rowD x20 x21 x22 x23, rowD x30 x31 x32 x33]) = true := by
  unfold PySem.SeqAt.shaped
  rw [show PyData.canLay0 (.list [rowD x00 x01 x02 x03, rowD x10 x11 x12 x13, rowD x20 x21 x22 x23, rowD x30 x31 x32 x33]) = (PyData.canLay0 (rowD x00 x01 x02 x03) && (PyData.canLay0 (rowD x10 x11 x12 x13) && (PyData.canLay0 (rowD x20 x21 x22 x23) && (PyData.canLay0 (rowD x30 x31 x32 x33) && true)))) from rfl]
  rw [row_lay, row_lay, row_lay, row_lay]
  rfl
theorem rows_self (x00 x01 x02 x03 x10 x11 x12 x13 x20 x21 x22 x23 x30 x31 x32 x33 : Int) : (!PyData.eqv (.list [rowD x00 x01 x02 x03, rowD x10 x11 x12 x13, rowD x20 x21 x22 x23, rowD x30 x31 x32 x33]) (.list [rowD x00 x01 x02 x03, rowD x10 x11 x12 x13, rowD x20 x21 x22 x23, rowD x30 x31 x32 x33])) = false := by
  simp [PyData.eqv, PyData.eqvAll]
theorem law9 {Df De f0 f1 f2 f3 e0 e1 e2 e3 : Addr} {x00 x01 x02 x03 x10 x11 x12 x13 x20 x21 x22 x23 x30 x31 x32 x33 : Int} {b00 b01 b02 b03 b04 b10 b11 b12 b13 b14 b20 b21 b22 b23 b24 b30 b31 b32 b33 b34 a00 a01 a02 a03 a04 a10 a11 a12 a13 a14 a20 a21 a22 a23 a24 a30 a31 a32 a33 a34 : Tok} {k k2 : Nat} {rr : List (Addr × Obj)} {sc : Scope} {st : Stmt} {Lk fa : Addr} {cd : Value} {g : Heap} {m1 : Str → Option Value} {Qf : Flow → Shared → Prop} (hsc : sc = scL)
   (B : Below callerA g [] g) (F : Fr g Lk s.heap m1) (X : (K w.params).In g) (N : News g Lk s.heap ((Df, listO [.ref f0, .ref f1, .ref f2, .ref f3] k) :: (f0, tupO [.int (2 * x00) b00, .int (2 * x00 + 2 * x01) b01, .int (2 * x02) b02, .int (Int.fdiv x03 2) b03, .str (if (Int.fmod x03 2 == 1) = true then Str.ofString "True" else Str.ofString "False") b04]) :: (f1, tupO [.int (2 * x10) b10, .int (2 * x10 + 2 * x11) b11, .int (2 * x12) b12, .int (Int.fdiv x13 2) b13, .str (if (Int.fmod x13 2 == 1) = true then Str.ofString "True" else Str.ofString "False") b14]) :: (f2, tupO [.int (2 * x20) b20, .int (2 * x20 + 2 * x21) b21, .int (2 * x22) b22, .int (Int.fdiv x23 2) b23, .str (if (Int.fmod x23 2 == 1) = true then Str.ofString "True" else Str.ofString "False") b24]) :: (f3, tupO [.int (2 * x30) b30, .int (2 * x30 + 2 * x31) b31, .int (2 * x32) b32, .int (Int.fdiv x33 2) b33, .str (if (Int.fmod x33 2 == 1) = true then Str.ofString "True" else Str.ofString "False") b34]) :: (De, listO [.ref e0, .ref e1, .ref e2, .ref e3] k2) :: (e0, tupO [.int (2 * x00) a00, .int (2 * x00 + 2 * x01) a01, .int (2 * x02) a02, .int (Int.fdiv x03 2) a03, .str (if (Int.fmod x03 2 == 1) = true then Str.ofString "True" else Str.ofString "False") a04]) :: (e1, tupO [.int (2 * x10) a10, .int (2 * x10 + 2 * x11) a11, .int (2 * x12) a12, .int (Int.fdiv x13 2) a13, .str (if (Int.fmod x13 2 == 1) = true then Str.ofString "True" else Str.ofString "False") a14]) :: (e2, tupO [.int (2 * x20) a20, .int (2 * x20 + 2 * x21) a21, .int (2 * x22) a22, .int (Int.fdiv x23 2) a23, .str (if (Int.fmod x23 2 == 1) = true then Str.ofString "True" else Str.ofString "False") a24]) :: (e3, tupO [.int (2 * x30) a30, .int (2 * x30 + 2 * x31) a31, .int (2 * x32) a32, .int (Int.fdiv x33 2) a33, .str (if (Int.fmod x33 2 == 1) = true then Str.ofString "True" else Str.ofString "False") a34]) :: rr))
   (T : Top topProg LL mean mg mb g) (hst : st = lS 9)
   (hk : Has m1 [(Str.ofString "told", .ref Df), (Str.ofString "due", .ref De)]) (hret : Qf .next s) : wpAny (model PP w) (callerA.deeper (envOfC (Str.ofString "law") sc Lk fa cd)) (exec st (envOfC (Str.ofString "law") sc Lk fa cd)) Qf (fun e s' => wpAny (model PP w) (callerA.deeper (envOfC (Str.ofString "law") sc Lk fa cd)) (leaving (envOfC (Str.ofString "law") sc Lk fa cd) e) (fun _ s'' => E e s'') (fun e' s'' => E e' s'') s') s := by
  conv at hsc => rhs; whnf
  conv at hst => rhs; whnf
  subst hsc; subst hst
  rw [← kst_same hk] at F
  k_steps
  refine Hold.out ?_
  try k_unmd
  k_dflt (refine' ne_dataH ?r1 ?r2 ?s1 ?s2 ?rm ?_)
  case r1 => ked_read
  case r2 => ked_read
  case s1 => exact rows_shaped x00 x01 x02 x03 x10 x11 x12 x13 x20 x21 x22 x23 x30 x31 x32 x33
  case s2 => exact rows_shaped x00 x01 x02 x03 x10 x11 x12 x13 x20 x21 x22 x23 x30 x31 x32 x33
  case rm => ke_room
  rw [rows_self x00 x01 x02 x03 x10 x11 x12 x13 x20 x21 x22 x23 x30 x31 x32 x33]
  k_steps
  exact hret
end
section
section
variable {prog : Program} {w : World} {A : Around} {E : Value → Shared → Prop} {s : Shared} {g : Heap} {L : Addr} {m : Str → Option Value} {news : List (Addr × Obj)} {a b c d e : Value}
theorem pick2 : ((List.range 2).filterMap fun (k : Nat) => (#[a, b, c, d, e] : Array Value)[((0 : Int) + (k : Int) * 1).toNat]?).toArray = #[a, b] := by first | rfl | simp
theorem apply2 {sl : Addr} {u : Tok} {Q : Int × Int × Nat → Shared → Prop} (hs : s.heap.IsSliceOf sl .none (.int 2 u) .none) (h : Q ((0 : Int), 1, 2) s) :
    wpAny (model prog w) A (Builtin.Slice.sliceApplied (.ref sl) (pure (5 : Int))) Q E s := by
  obtain ⟨os, hos, hcs, hds⟩ := id hs
  unfold Builtin.Slice.sliceApplied Builtin.Slice.sliceFields
  refine wpAny_bind (wpAny_bind (wpAny_field hos hds (x := .none) rfl (wpAny_bind (wpAny_field hos hds (x := .int 2 u) rfl (wpAny_bind (wpAny_field hos hds (x := .none) rfl (wpAny_pure ?_)))))))
  refine wpAny_bind (slicePart_none ?_)
  show wpAny _ _ (if ((1 : Int) == 0) = true then _ else _) _ _ s
  rw [if_neg (by decide)]
  refine wpAny_bind (slicePart_none (wpAny_bind (slicePart_int (wpAny_bind (wpAny_pure ?_)))))
  show wpAny _ _ (match Builtin.Slice.sliceAdjust none (some (2 : Int)) 1 (5 : Int) with | (lo, hi) => pure (lo, (1 : Int), Builtin.Slice.slicePlaces lo hi 1)) _ _ s
  rw [show Builtin.Slice.sliceAdjust none (some (2 : Int)) 1 (5 : Int) = ((0 : Int), (2 : Int)) by decide]
  show wpAny _ _ (pure ((0 : Int), (1 : Int), Builtin.Slice.slicePlaces (0 : Int) (2 : Int) 1)) _ _ s
  rw [show Builtin.Slice.slicePlaces (0 : Int) (2 : Int) 1 = 2 by decide]
  exact wpAny_pure h
/-- the first two of five, as a tuple -/
theorem two_r {value slice : PySem.Expr} {t : Addr} {u : Tok} {Q : Value → Shared → Prop} (F : Fr g L s.heap m) (N : News g L s.heap news) (hm : (t, tupO [a, b, c, d, e]) ∈ news)
    (h : ∀ D h', Fr g L h' m → News g L h' ((D, tupO [a, b]) :: news) → (∀ p ∈ news, p.1 < D) → Q (.ref D) { s with heap := h' })
    (hs : subscripted slice false (.ref t) (.ref s.heap.objs.size) = operate [.ref s.heap.objs.size, .ref t] (getItem (.ref t) (.ref s.heap.objs.size)))
    (hg : ∀ r, letTemporaryGo value (.ref t) r = pure ()) :
    wpAny (model prog w) A (subscriptTail value slice (.ref t) (.ref s.heap.objs.size)) Q E { s with heap := s.heap.push { cls := .type "slice", data := .fields #[.none, .int 2 u, .none] } } := by
  have ht : IsTup s.heap t #[a, b, c, d, e] := ⟨_, (N _ hm).1, rfl, 0, rfl⟩
  have ht' : IsTup (s.heap.push { cls := .type "slice", data := .fields #[.none, .int 2 u, .none] }) t #[a, b, c, d, e] := ht.keeps fun _ _ e => Heap.get?_push_of_some _ e
  have hsl := Heap.IsSliceOf.new s.heap .none (.int 2 u) .none
  have N1 := News.push (F.push { cls := .type "slice", data := .fields #[.none, .int 2 u, .none] }) (N.grown fun _ _ e => Heap.get?_push_of_some _ e) (tupO [a, b])
  rw [Heap.size_push] at N1
  generalize hh : s.heap.push { cls := .type "slice", data := .fields #[.none, .int 2 u, .none] } = h1 at *
  have hz1 : h1.objs.size = s.heap.objs.size + 1 := by rw [← hh, Heap.size_push]
  refine subscriptTail_ops (s := { s with heap := h1 }) ht'.typeIs slot_tuple_getitem.lookup ?_ hs hg
  obtain ⟨os, hos, hcs, hds⟩ := id hsl
  have hTs : Shared.TypeIs { s with heap := h1 } (.ref s.heap.objs.size) "slice" := ⟨os, hos, hcs⟩
  have F1 : Fr g L (h1.push (tupO [a, b])) m := by
    rw [← hh]
    exact (F.push _).push _
  unfold getItem
  try with_reducible refine wpAny_holding ?_
  first | refine wpAny_bind (wpAny_pure ?_) | skip
  refine wpAny_bind (wpAny_sequenceKey ht'.typeIs (by decide) ?_)
  refine wpAny_bind (wpAny_callSpecial?_slot (name := Str.ofString "__getitem__") ht'.typeIs slot_tuple_getitem (wpAny_call_entry slot_tuple_getitem ht'.typeIs entry_tuple_getitem ?_ (args_tuple_getitem _ _)))
  show wpAny _ _ (Builtin.Tuple.tupleItemsOf (.ref t) >>= _) _ _ _
  refine wpAny_bind (tupleItemsOf_ ht' ?_)
  refine wpAny_bind (wpAny_typeOf hTs ?_)
  rw [if_pos (by decide)]
  refine wpAny_bind (apply2 hsl ?_)
  show wpAny _ _ (if ((0 : Int) == 0 && (1 : Int) == 1 && (2 : Nat) == 5) = true then _ else _) _ _ _
  rw [if_neg (by decide), pick2]
  have fin : Q (.ref h1.objs.size) { s with heap := h1.push (tupO [a, b]) } := by
    rw [hz1]
    exact h _ _ F1 N1 fun p hp => Nat.lt_succ_of_lt (Heap.lt_size (N p hp).1)
  have hok : sizeOk (.seq (#[a, b] : Array Value)) := by
    show (2 : Nat) ≤ sizeLine
    rw [sizeLine_eq]; k_extra "om"
  first
    | exact wpAny_bind (m := Builtin.Tuple.tupleExact _) (wpAny_newObj_type (wpAny_pure ⟨_, rfl, wpAny_pure fin⟩) hok)
    | exact wpAny_bind (m := Builtin.Tuple.tupleExact _) (wpAny_newObj_type (wpAny_bind (wpAny_pure (wpAny_pure ⟨_, rfl, wpAny_pure fin⟩))) hok)
    | exact wpAny_bind (wpAny_bind (m := Builtin.Tuple.tupleExact _) (wpAny_newObj_type (wpAny_pure (wpAny_pure ⟨_, rfl, wpAny_pure fin⟩)) hok))
    | exact wpAny_bind (wpAny_bind (m := Builtin.Tuple.tupleExact _) (wpAny_newObj_type (wpAny_pure ⟨_, rfl, wpAny_pure fin⟩) hok))
end
end
section
variable {w : World} {mean : ExcName → Option Value} {mg mb : Str → Option Value} {dp un : Nat} {gd : Option (List Code)} {cn : Str} {cs : Scope} {L a : Addr} {ccd : Value} {cl : List (Str × Addr)} {outer : List Env}
   {A₀ : Around} {base h₀ : Heap} {m : Str → Option Value} {s : Shared} {Q E : Value → Shared → Prop}
open G0 G3 G4 G8 G10 G11 G32 G34 G41 G46 G49
theorem law10 {Df f0 f1 f2 f3 : Addr} {x00 x01 x02 x03 x10 x11 x12 x13 x20 x21 x22 x23 x30 x31 x32 x33 : Int} {b00 b01 b02 b03 b04 b10 b11 b12 b13 b14 b20 b21 b22 b23 b24 b30 b31 b32 b33 b34 : Tok} {k : Nat} {rr : List (Addr × Obj)} {sc : Scope} {st : Stmt} {Lk fa : Addr} {cd : Value} {g : Heap} {m1 : Str → Option Value} {Qf : Flow → Shared → Prop} (hsc : sc = scL)
   (B : Below callerA g [] g) (F : Fr g Lk s.heap m1) (X : (K w.params).In g) (N : News g Lk s.heap ((Df, listO [.ref f0, .ref f1, .ref f2, .ref f3] k) :: (f0, tupO [.int (2 * x00) b00, .int (2 * x00 + 2 * x01) b01, .int (2 * x02) b02, .int (Int.fdiv x03 2) b03, .str (if (Int.fmod x03 2 == 1) = true then Str.ofString "True" else Str.ofString "False") b04]) :: (f1, tupO [.int (2 * x10) b10, .int (2 * x10 + 2 * x11) b11, .int (2 * x12) b12, .int (Int.fdiv x13 2) b13, .str (if (Int.fmod x13 2 == 1) = true then Str.ofString "True" else Str.ofString "False") b14]) :: (f2, tupO [.int (2 * x20) b20, .int (2 * x20 + 2 * x21) b21, .int (2 * x22) b22, .int (Int.fdiv x23 2) b23, .str (if (Int.fmod x23 2 == 1) = true then Str.ofString "True" else Str.ofString "False") b24]) :: (f3, tupO [.int (2 * x30) b30, .int (2 * x30 + 2 * x31) b31, .int (2 * x32) b32, .int (Int.fdiv x33 2) b33, .str (if (Int.fmod x33 2 == 1) = true then Str.ofString "True" else Str.ofString "False") b34]) :: rr))
   (T : Top topProg LL mean mg mb g) (hst : st = lS 10)
   (hk : Has m1 [(Str.ofString "told", .ref Df)])
   (hret : ∀ Dg g0 g1 g2 g3 d00 d01 d10 d11 d20 d21 d30 d31 k' h' tk', Fr g Lk h' (fun y => if y = Str.ofString "blocks" then some (.ref Dg) else m1 y) → News g Lk h' ((Dg, listO [.ref g0, .ref g1, .ref g2, .ref g3] k') :: (g0, tupO [.int (2 * x00) d00, .int (2 * x00 + 2 * x01) d01]) :: (g1, tupO [.int (2 * x10) d10, .int (2 * x10 + 2 * x11) d11]) :: (g2, tupO [.int (2 * x20) d20, .int (2 * x20 + 2 * x21) d21]) :: (g3, tupO [.int (2 * x30) d30, .int (2 * x30 + 2 * x31) d31]) :: (Df, listO [.ref f0, .ref f1, .ref f2, .ref f3] k) :: (f0, tupO [.int (2 * x00) b00, .int (2 * x00 + 2 * x01) b01, .int (2 * x02) b02, .int (Int.fdiv x03 2) b03, .str (if (Int.fmod x03 2 == 1) = true then Str.ofString "True" else Str.ofString "False") b04]) :: (f1, tupO [.int (2 * x10) b10, .int (2 * x10 + 2 * x11) b11, .int (2 * x12) b12, .int (Int.fdiv x13 2) b13, .str (if (Int.fmod x13 2 == 1) = true then Str.ofString "True" else Str.ofString "False") b14]) :: (f2, tupO [.int (2 * x20) b20, .int (2 * x20 + 2 * x21) b21, .int (2 * x22) b22, .int (Int.fdiv x23 2) b23, .str (if (Int.fmod x23 2 == 1) = true then Str.ofString "True" else Str.ofString "False") b24]) :: (f3, tupO [.int (2 * x30) b30, .int (2 * x30 + 2 * x31) b31, .int (2 * x32) b32, .int (Int.fdiv x33 2) b33, .str (if (Int.fmod x33 2 == 1) = true then Str.ofString "True" else Str.ofString "False") b34]) :: rr) → AllLt Dg rr → AllLt g0 rr → AllLt g1 rr → AllLt g2 rr → AllLt g3 rr → Qf .next { s with heap := h', toks := tk' }) : wpAny (model PP w) (callerA.deeper (envOfC (Str.ofString "law") sc Lk fa cd)) (exec st (envOfC (Str.ofString "law") sc Lk fa cd)) Qf (fun e s' => wpAny (model PP w) (callerA.deeper (envOfC (Str.ofString "law") sc Lk fa cd)) (leaving (envOfC (Str.ofString "law") sc Lk fa cd) e) (fun _ s'' => E e s'') (fun e' s'' => E e' s'') s') s := by
  conv at hsc => rhs; whnf
  conv at hst => rhs; whnf
  subst hsc; subst hst
  rw [← kst_same hk] at F
  have RRm0 : (Df, listO [.ref f0, .ref f1, .ref f2, .ref f3] k) ∈ (Df, listO [.ref f0, .ref f1, .ref f2, .ref f3] k) :: (f0, tupO [.int (2 * x00) b00, .int (2 * x00 + 2 * x01) b01, .int (2 * x02) b02, .int (Int.fdiv x03 2) b03, .str (if (Int.fmod x03 2 == 1) = true then Str.ofString "True" else Str.ofString "False") b04]) :: (f1, tupO [.int (2 * x10) b10, .int (2 * x10 + 2 * x11) b11, .int (2 * x12) b12, .int (Int.fdiv x13 2) b13, .str (if (Int.fmod x13 2 == 1) = true then Str.ofString "True" else Str.ofString "False") b14]) :: (f2, tupO [.int (2 * x20) b20, .int (2 * x20 + 2 * x21) b21, .int (2 * x22) b22, .int (Int.fdiv x23 2) b23, .str (if (Int.fmod x23 2 == 1) = true then Str.ofString "True" else Str.ofString "False") b24]) :: (f3, tupO [.int (2 * x30) b30, .int (2 * x30 + 2 * x31) b31, .int (2 * x32) b32, .int (Int.fdiv x33 2) b33, .str (if (Int.fmod x33 2 == 1) = true then Str.ofString "True" else Str.ofString "False") b34]) :: rr := by repeat (first | exact List.Mem.head _ | apply List.Mem.tail)
  have RRm1 : (f0, tupO [.int (2 * x00) b00, .int (2 * x00 + 2 * x01) b01, .int (2 * x02) b02, .int (Int.fdiv x03 2) b03, .str (if (Int.fmod x03 2 == 1) = true then Str.ofString "True" else Str.ofString "False") b04]) ∈ (Df, listO [.ref f0, .ref f1, .ref f2, .ref f3] k) :: (f0, tupO [.int (2 * x00) b00, .int (2 * x00 + 2 * x01) b01, .int (2 * x02) b02, .int (Int.fdiv x03 2) b03, .str (if (Int.fmod x03 2 == 1) = true then Str.ofString "True" else Str.ofString "False") b04]) :: (f1, tupO [.int (2 * x10) b10, .int (2 * x10 + 2 * x11) b11, .int (2 * x12) b12, .int (Int.fdiv x13 2) b13, .str (if (Int.fmod x13 2 == 1) = true then Str.ofString "True" else Str.ofString "False") b14]) :: (f2, tupO [.int (2 * x20) b20, .int (2 * x20 + 2 * x21) b21, .int (2 * x22) b22, .int (Int.fdiv x23 2) b23, .str (if (Int.fmod x23 2 == 1) = true then Str.ofString "True" else Str.ofString "False") b24]) :: (f3, tupO [.int (2 * x30) b30, .int (2 * x30 + 2 * x31) b31, .int (2 * x32) b32, .int (Int.fdiv x33 2) b33, .str (if (Int.fmod x33 2 == 1) = true then Str.ofString "True" else Str.ofString "False") b34]) :: rr := by repeat (first | exact List.Mem.head _ | apply List.Mem.tail)
  have RRm2 : (f1, tupO [.int (2 * x10) b10, .int (2 * x10 + 2 * x11) b11, .int (2 * x12) b12, .int (Int.fdiv x13 2) b13, .str (if (Int.fmod x13 2 == 1) = true then Str.ofString "True" else Str.ofString "False") b14]) ∈ (Df, listO [.ref f0, .ref f1, .ref f2, .ref f3] k) :: (f0, tupO [.int (2 * x00) b00, .int (2 * x00 + 2 * x01) b01, .int (2 * x02) b02, .int (Int.fdiv x03 2) b03, .str (if (Int.fmod x03 2 == 1) = true then Str.ofString "True" else Str.ofString "False") b04]) :: (f1, tupO [.int (2 * x10) b10, .int (2 * x10 + 2 * x11) b11, .int (2 * x12) b12, .int (Int.fdiv x13 2) b13, .str (if (Int.fmod x13 2 == 1) = true then Str.ofString "True" else Str.ofString "False") b14]) :: (f2, tupO [.int (2 * x20) b20, .int (2 * x20 + 2 * x21) b21, .int (2 * x22) b22, .int (Int.fdiv x23 2) b23, .str (if (Int.fmod x23 2 == 1) = true then Str.ofString "True" else Str.ofString "False") b24]) :: (f3, tupO [.int (2 * x30) b30, .int (2 * x30 + 2 * x31) b31, .int (2 * x32) b32, .int (Int.fdiv x33 2) b33, .str (if (Int.fmod x33 2 == 1) = true then Str.ofString "True" else Str.ofString "False") b34]) :: rr := by repeat (first | exact List.Mem.head _ | apply List.Mem.tail)
  have RRm3 : (f2, tupO [.int (2 * x20) b20, .int (2 * x20 + 2 * x21) b21, .int (2 * x22) b22, .int (Int.fdiv x23 2) b23, .str (if (Int.fmod x23 2 == 1) = true then Str.ofString "True" else Str.ofString "False") b24]) ∈ (Df, listO [.ref f0, .ref f1, .ref f2, .ref f3] k) :: (f0, tupO [.int (2 * x00) b00, .int (2 * x00 + 2 * x01) b01, .int (2 * x02) b02, .int (Int.fdiv x03 2) b03, .str (if (Int.fmod x03 2 == 1) = true then Str.ofString "True" else Str.ofString "False") b04]) :: (f1, tupO [.int (2 * x10) b10, .int (2 * x10 + 2 * x11) b11, .int (2 * x12) b12, .int (Int.fdiv x13 2) b13, .str (if (Int.fmod x13 2 == 1) = true then Str.ofString "True" else Str.ofString "False") b14]) :: (f2, tupO [.int (2 * x20) b20, .int (2 * x20 + 2 * x21) b21, .int (2 * x22) b22, .int (Int.fdiv x23 2) b23, .str (if (Int.fmod x23 2 == 1) = true then Str.ofString "True" else Str.ofString "False") b24]) :: (f3, tupO [.int (2 * x30) b30, .int (2 * x30 + 2 * x31) b31, .int (2 * x32) b32, .int (Int.fdiv x33 2) b33, .str (if (Int.fmod x33 2 == 1) = true then Str.ofString "True" else Str.ofString "False") b34]) :: rr := by repeat (first | exact List.Mem.head _ | apply List.Mem.tail)
  have RRm4 : (f3, tupO [.int (2 * x30) b30, .int (2 * x30 + 2 * x31) b31, .int (2 * x32) b32, .int (Int.fdiv x33 2) b33, .str (if (Int.fmod x33 2 == 1) = true then Str.ofString "True" else Str.ofString "False") b34]) ∈ (Df, listO [.ref f0, .ref f1, .ref f2, .ref f3] k) :: (f0, tupO [.int (2 * x00) b00, .int (2 * x00 + 2 * x01) b01, .int (2 * x02) b02, .int (Int.fdiv x03 2) b03, .str (if (Int.fmod x03 2 == 1) = true then Str.ofString "True" else Str.ofString "False") b04]) :: (f1, tupO [.int (2 * x10) b10, .int (2 * x10 + 2 * x11) b11, .int (2 * x12) b12, .int (Int.fdiv x13 2) b13, .str (if (Int.fmod x13 2 == 1) = true then Str.ofString "True" else Str.ofString "False") b14]) :: (f2, tupO [.int (2 * x20) b20, .int (2 * x20 + 2 * x21) b21, .int (2 * x22) b22, .int (Int.fdiv x23 2) b23, .str (if (Int.fmod x23 2 == 1) = true then Str.ofString "True" else Str.ofString "False") b24]) :: (f3, tupO [.int (2 * x30) b30, .int (2 * x30 + 2 * x31) b31, .int (2 * x32) b32, .int (Int.fdiv x33 2) b33, .str (if (Int.fmod x33 2 == 1) = true then Str.ofString "True" else Str.ofString "False") b34]) :: rr := by repeat (first | exact List.Mem.head _ | apply List.Mem.tail)
  have RRlt : ∀ {a : Addr}, AllLt a ((Df, listO [.ref f0, .ref f1, .ref f2, .ref f3] k) :: (f0, tupO [.int (2 * x00) b00, .int (2 * x00 + 2 * x01) b01, .int (2 * x02) b02, .int (Int.fdiv x03 2) b03, .str (if (Int.fmod x03 2 == 1) = true then Str.ofString "True" else Str.ofString "False") b04]) :: (f1, tupO [.int (2 * x10) b10, .int (2 * x10 + 2 * x11) b11, .int (2 * x12) b12, .int (Int.fdiv x13 2) b13, .str (if (Int.fmod x13 2 == 1) = true then Str.ofString "True" else Str.ofString "False") b14]) :: (f2, tupO [.int (2 * x20) b20, .int (2 * x20 + 2 * x21) b21, .int (2 * x22) b22, .int (Int.fdiv x23 2) b23, .str (if (Int.fmod x23 2 == 1) = true then Str.ofString "True" else Str.ofString "False") b24]) :: (f3, tupO [.int (2 * x30) b30, .int (2 * x30 + 2 * x31) b31, .int (2 * x32) b32, .int (Int.fdiv x33 2) b33, .str (if (Int.fmod x33 2 == 1) = true then Str.ofString "True" else Str.ofString "False") b34]) :: rr) → AllLt a (rr) := fun h => And.right (And.right (And.right (And.right (And.right (h)))))
  generalize RRe : (Df, listO [.ref f0, .ref f1, .ref f2, .ref f3] k) :: (f0, tupO [.int (2 * x00) b00, .int (2 * x00 + 2 * x01) b01, .int (2 * x02) b02, .int (Int.fdiv x03 2) b03, .str (if (Int.fmod x03 2 == 1) = true then Str.ofString "True" else Str.ofString "False") b04]) :: (f1, tupO [.int (2 * x10) b10, .int (2 * x10 + 2 * x11) b11, .int (2 * x12) b12, .int (Int.fdiv x13 2) b13, .str (if (Int.fmod x13 2 == 1) = true then Str.ofString "True" else Str.ofString "False") b14]) :: (f2, tupO [.int (2 * x20) b20, .int (2 * x20 + 2 * x21) b21, .int (2 * x22) b22, .int (Int.fdiv x23 2) b23, .str (if (Int.fmod x23 2 == 1) = true then Str.ofString "True" else Str.ofString "False") b24]) :: (f3, tupO [.int (2 * x30) b30, .int (2 * x30 + 2 * x31) b31, .int (2 * x32) b32, .int (Int.fdiv x33 2) b33, .str (if (Int.fmod x33 2 == 1) = true then Str.ofString "True" else Str.ofString "False") b34]) :: rr = RR at N hret RRm0 RRm1 RRm2 RRm3 RRm4  RRlt
  clear RRe
  k_steps
  k_extra "mine held"
  k_extra "mine cassign"
  k_steps
  k_extra "mine held"
  k_extra "mine ylist"
  k_extra "mine cbegin"
  k_dflt (refine' comp_four (p0 := (.ref f0, (2 * x00, 2 * x00 + 2 * x01))) (p1 := (.ref f1, (2 * x10, 2 * x10 + 2 * x11))) (p2 := (.ref f2, (2 * x20, 2 * x20 + 2 * x21))) (p3 := (.ref f3, (2 * x30, 2 * x30 + 2 * x31))) (fun p => ∃ f b0 b1 v2 v3 v4, p.1 = .ref f ∧ (f, tupO [.int p.2.1 b0, .int p.2.2 b1, v2, v3, v4]) ∈ RR) (fun a o => ∃ b0 b1, o = tupO [.int a.1 b0, .int a.2 b1]) ?va1 ?vaF ?vaN ?vaY ?vaU1 ?vaC ?vaU2 ?vaU3 ?vas ?vap0 ?vap1 ?vap2 ?vap3 ?vat ?vaf)
  case va1 => exact rfl
  case vaF => k_asm
  case vaN => k_asm
  case vaY => k_asm
  case vaU1 => k_extra "mine rem"
  case vaC => k_asm
  case vaU2 => k_extra "mine rem"
  case vaU3 => k_extra "mine rem"
  case vas => k_extra "mine sub"
  case vap0 => exact ⟨f0, _, _, _, _, _, rfl, RRm1⟩
  case vap1 => exact ⟨f1, _, _, _, _, _, rfl, RRm2⟩
  case vap2 => exact ⟨f2, _, _, _, _, _, rfl, RRm3⟩
  case vap3 => exact ⟨f3, _, _, _, _, _, rfl, RRm4⟩
  case vat =>
    intro KK p8 acc8 n8 io8 oC8 m8 es8 h8 tk8 hz8 hP8 hs8 cI8 cC8 cD8 hC8 F8 N8 kont8
    obtain ⟨v8, x0, x1⟩ := p8
    obtain ⟨c8, a0, a1, v2, v3, v4, rfl, hm8⟩ := hP8
    have hm9 := hs8 _ hm8
    dsimp only at hm9
    dsimp only
    k_steps
    rename Fr _ _ _ _ => FZ
    rename News _ _ _ _ => NZ
    refine kont8 _ _ _ _ _ _ _ ⟨_, _, rfl⟩ ?val (by assumption) FZ NZ
    case val => k_extra "mine lt24"
  case vaf =>
    intro e0 e1 e2 e3 o0 o1 o2 o3 n9 oC9 m9 h9 tk9 hO0 hO1 hO2 hO3 l0 l1 l2 l3 nC9 hC9 F9 N9
    obtain ⟨b00, b01, rfl⟩ := hO0
    obtain ⟨b10, b11, rfl⟩ := hO1
    obtain ⟨b20, b21, rfl⟩ := hO2
    obtain ⟨b30, b31, rfl⟩ := hO3
    dsimp only at N9 nC9
    refine comp_use ?_
    k_steps
    k_extra "mine cfin"
    k_steps
    rw [kst_same hk] at *
    exact hret _ e0 e1 e2 e3 _ _ _ _ _ _ _ _ _ _ _ (by k_asm) (by k_extra "mine news") (RRlt (by k_extra "mine lt24")) (RRlt l0) (RRlt l1) (RRlt l2) (RRlt l3)
end
section
variable {w : World} {mean : ExcName → Option Value} {mg mb : Str → Option Value} {dp un : Nat} {gd : Option (List Code)} {cn : Str} {cs : Scope} {L a : Addr} {ccd : Value} {cl : List (Str × Addr)} {outer : List Env}
   {A₀ : Around} {base h₀ : Heap} {m : Str → Option Value} {s : Shared} {Q E : Value → Shared → Prop}
open G0 G3 G4 G8 G10 G11 G32 G34 G49
theorem ways_m {o b0 b1 b2 b3 : Addr} {x0 x1 x2 x3 y0 y1 y2 y3 : Int} {n : Nat} {k0 k1 k2 k3 k4 k5 k6 k7 : Tok} {news : List (Addr × Obj)} (B : Below A₀ base outer h₀) (F : Fr h₀ L s.heap m) (X : (K w.params).In h₀) (N : News h₀ L s.heap news)
   (T : Top topProg LL mean mg mb h₀) (hk : cs.kind = .function) (hdp : dp + 60 < recursionLimit) (hu : un + 480 < cLine)
   (ho : (o, listO [.ref b0, .ref b1, .ref b2, .ref b3] n) ∈ news) (h0 : (b0, tupO [.int x0 k0, .int y0 k1]) ∈ news) (h1 : (b1, tupO [.int x1 k2, .int y1 k3]) ∈ news) (h2 : (b2, tupO [.int x2 k4, .int y2 k5]) ∈ news) (h3 : (b3, tupO [.int x3 k6, .int y3 k7]) ∈ news)
   (hret : ∀ t h' tk', Fr h₀ L h' m → News h₀ L h' news → Q (.int (waysP [(x0, y0), (x1, y1), (x2, y2), (x3, y3)]) t) { s with heap := h', toks := tk' }) :
   wpAny (model PP w) (ktrTop dp un gd cn cs L a ccd cl outer) (call (.ref 294) [.ref o]) Q E s :=
  ways_c (rest := news) B F X (fun p hp => by
    rcases List.mem_cons.mp hp with h | hp
    · rw [h]; exact N _ ho
    · rcases List.mem_cons.mp hp with h | hp
      · rw [h]; exact N _ h0
      · rcases List.mem_cons.mp hp with h | hp
        · rw [h]; exact N _ h1
        · rcases List.mem_cons.mp hp with h | hp
          · rw [h]; exact N _ h2
          · rcases List.mem_cons.mp hp with h | hp
            · rw [h]; exact N _ h3
            · exact N _ hp) T hk hdp hu fun t h' tk' F' N' => hret t h' tk' F' fun p hp => N' p (.tail _ (.tail _ (.tail _ (.tail _ (.tail _ hp)))))
open G30
theorem law11 {x d S Dg g0 g1 g2 g3 : Addr} {LT : LexT} {vs : List Value} {ln : Int} {tl : Tok} {n n2 k kk : Nat} {oc : Obj} {X0 X1 X2 X3 Y0 Y1 Y2 Y3 : Int} {d00 d01 d10 d11 d20 d21 d30 d31 : Tok} {M : Mat} {rr : List (Addr × Obj)} {sc : Scope} {st : Stmt} {Lk fa : Addr} {cd : Value} {g : Heap} {m1 : Str → Option Value} {Qf : Flow → Shared → Prop} (hsc : sc = scL)
   (B : Below callerA g [] g) (F : Fr g Lk s.heap m1) (X : (K w.params).In g) (N : News g Lk s.heap ((LT.pb, listO [] n) :: (d, lexDict w LT ln tl) :: (S, listO vs n2) :: (Dg, listO [.ref g0, .ref g1, .ref g2, .ref g3] k) :: (g0, tupO [.int X0 d00, .int Y0 d01]) :: (g1, tupO [.int X1 d10, .int Y1 d11]) :: (g2, tupO [.int X2 d20, .int Y2 d21]) :: (g3, tupO [.int X3 d30, .int Y3 d31]) :: rr))
   (T : Top topProg LL mean mg mb g) (hst : st = lS 11)
   (LX : LexAt w rr x d S LT) (hln : 0 ≤ ln) (hlu : ln < 50000) (hcl : (Lk + 1 + 1 + 1, oc) ∈ rr) (hcd : oc.data = Data.cell (some (.ref x))) (CH : CodeHd g 255 251)
   (e2 : ∀ p ∈ (Dg, listO [.ref g0, .ref g1, .ref g2, .ref g3] k) :: (g0, tupO [.int X0 d00, .int Y0 d01]) :: (g1, tupO [.int X1 d10, .int Y1 d11]) :: (g2, tupO [.int X2 d20, .int Y2 d21]) :: (g3, tupO [.int X3 d30, .int Y3 d31]) :: rr, p.1 ≠ LT.pb) (e3 : ∀ p ∈ (Dg, listO [.ref g0, .ref g1, .ref g2, .ref g3] k) :: (g0, tupO [.int X0 d00, .int Y0 d01]) :: (g1, tupO [.int X1 d10, .int Y1 d11]) :: (g2, tupO [.int X2 d20, .int Y2 d21]) :: (g3, tupO [.int X3 d30, .int Y3 d31]) :: rr, p.1 ≠ d) (e4 : ∀ p ∈ (Dg, listO [.ref g0, .ref g1, .ref g2, .ref g3] k) :: (g0, tupO [.int X0 d00, .int Y0 d01]) :: (g1, tupO [.int X1 d10, .int Y1 d11]) :: (g2, tupO [.int X2 d20, .int Y2 d21]) :: (g3, tupO [.int X3 d30, .int Y3 d31]) :: rr, p.1 ≠ S) (e8 : Apart LT.pb d) (e9 : Apart LT.pb S) (e0 : Apart d S)
   (hk : Has m1 [(Str.ofString "blocks", .ref Dg)]) (hL : LeftIs vs []) (hM : ∀ i j, i < 4 → j < 4 → getM M i j = apP [(X0, Y0), (X1, Y1), (X2, Y2), (X3, Y3)] i j) (hk9 : kindsO M = some kk) (hkz : kk ≤ 100) (hkw : (kk : Int) = waysP [(X0, Y0), (X1, Y1), (X2, Y2), (X3, Y3)])
   (hret : ∀ n n2 h' tk', Fr g Lk h' m1 → News g Lk h' ((LT.pb, listO [] n) :: (d, lexDict w LT ln tl) :: (S, listO vs n2) :: (Dg, listO [.ref g0, .ref g1, .ref g2, .ref g3] k) :: (g0, tupO [.int X0 d00, .int Y0 d01]) :: (g1, tupO [.int X1 d10, .int Y1 d11]) :: (g2, tupO [.int X2 d20, .int Y2 d21]) :: (g3, tupO [.int X3 d30, .int Y3 d31]) :: rr) → Qf .next { s with heap := h', toks := tk' }) : wpAny (model PP w) (callerA.deeper (envOfC (Str.ofString "law") sc Lk fa cd)) (exec st (envOfC (Str.ofString "law") sc Lk fa cd)) Qf (fun e s' => wpAny (model PP w) (callerA.deeper (envOfC (Str.ofString "law") sc Lk fa cd)) (leaving (envOfC (Str.ofString "law") sc Lk fa cd) e) (fun _ s'' => E e s'') (fun e' s'' => E e' s'') s') s := by
  conv at hsc => rhs; whnf
  conv at hst => rhs; whnf
  subst hsc; subst hst
  rw [← kst_same hk] at F
  have hbl : PairsAt ((Dg, listO [.ref g0, .ref g1, .ref g2, .ref g3] k) :: (g0, tupO [.int X0 d00, .int Y0 d01]) :: (g1, tupO [.int X1 d10, .int Y1 d11]) :: (g2, tupO [.int X2 d20, .int Y2 d21]) :: (g3, tupO [.int X3 d30, .int Y3 d31]) :: rr) [.ref g0, .ref g1, .ref g2, .ref g3] [(X0, Y0), (X1, Y1), (X2, Y2), (X3, Y3)] := .cons (by k_mem) (.cons (by k_mem) (.cons (by k_mem) (.cons (by k_mem) .nil)))
  simp only [List.forall_mem_cons] at e2 e3 e4
  obtain ⟨a1, a2, a3, a4, a5, e2⟩ := e2
  obtain ⟨b1, b2, b3, b4, b5, e3⟩ := e3
  obtain ⟨c1, c2, c3, c4, c5, e4⟩ := e4
  have A1 : Apart Dg LT.pb := a1
  have A2 : Apart g0 LT.pb := a2
  have A3 : Apart g1 LT.pb := a3
  have A4 : Apart g2 LT.pb := a4
  have A5 : Apart g3 LT.pb := a5
  have B1 : Apart Dg d := b1
  have B2 : Apart g0 d := b2
  have B3 : Apart g1 d := b3
  have B4 : Apart g2 d := b4
  have B5 : Apart g3 d := b5
  have C1 : Apart Dg S := c1
  have C2 : Apart g0 S := c2
  have C3 : Apart g1 S := c3
  have C4 : Apart g2 S := c4
  have C5 : Apart g3 S := c5
  have c6 : Apart (Lk + 1 + 1 + 1) LT.pb := e2 _ hcl
  have c7 : Apart (Lk + 1 + 1 + 1) d := e3 _ hcl
  have c8 : Apart (Lk + 1 + 1 + 1) S := e4 _ hcl
  clear a1 a2 a3 a4 a5 b1 b2 b3 b4 b5 c1 c2 c3 c4 c5
  replace N : News g Lk s.heap ((LT.pb, listO [] n) :: (d, lexDict w LT ln tl) :: (S, listO vs n2) :: (Lk + 1 + 1 + 1, oc) :: (Dg, listO [.ref g0, .ref g1, .ref g2, .ref g3] k) :: (g0, tupO [.int X0 d00, .int Y0 d01]) :: (g1, tupO [.int X1 d10, .int Y1 d11]) :: (g2, tupO [.int X2 d20, .int Y2 d21]) :: (g3, tupO [.int X3 d30, .int Y3 d31]) :: rr) := fun p hp => by
    apply N
    simp only [List.mem_cons] at hp ⊢
    rcases hp with h | h | h | h | h
    · exact .inl h
    · exact .inr (.inl h)
    · exact .inr (.inr (.inl h))
    · rw [h]; exact .inr (.inr (.inr (.inr (.inr (.inr (.inr (.inr hcl)))))))
    · exact .inr (.inr (.inr h))
  k_steps
  all_goals try exact absurd hkw (by assumption)
  rw [kst_same hk] at *
  exact hret _ _ _ _ (by k_asm) (by k_extra "mine news")
end
section
open PySem.StrLaws in
theorem occ_cnt (l : List Nat) (c : Nat) (cnt : List Nat → Nat) (h0 : cnt [] = 0) (h1 : ∀ x r, cnt (x :: r) = (if x = c then 1 else 0) + cnt r) :
    ∀ (k i : Nat) (st : Array Nat × Nat), i + k = l.length + 1 → st.2 ≤ i → st.1.size ≤ i →
      (forIn (List.range' i k) st (occBody (toS l) ⟨#[c]⟩ l.length (l.length + 1))).run.fst.size = st.1.size + cnt (l.drop i)
  | 0, i, st, hk, _, _ => by
    have : l.drop i = [] := List.drop_eq_nil_of_le (by k_extra "om")
    rw [this, h0]
    rfl
  | k + 1, i, st, hk, hf, hs => by
    rw [List.range'_succ, List.forIn_cons]
    have hone := subAt_one (toS l) c i
    have hlen : (toS l).length = l.length := rfl
    have hc1 : (toS l).cps.toList = l := rfl
    rw [hlen, hc1] at hone
    unfold occBody
    by_cases hc : l[i]? = some c
    · obtain ⟨hlt, he⟩ := List.getElem?_eq_some_iff.mp hc
      have hm := hone.mpr hc
      rw [if_pos ⟨⟨⟨by k_extra "om", hf⟩, hm.1⟩, hm.2⟩]
      have ih := occ_cnt l c cnt h0 h1 k (i + 1) (st.1.push i, i + (⟨#[c]⟩ : Str).length) (by k_extra "om") (Nat.le_refl _) (by rw [Array.size_push]; k_extra "om")
      rw [List.drop_eq_getElem_cons hlt, h1, he, if_pos rfl]
      refine Eq.trans ih ?_
      rw [Array.size_push]
      k_extra "om"
    · rw [if_neg fun z => hc (hone.mp ⟨z.1.2, z.2⟩)]
      have ih := occ_cnt l c cnt h0 h1 k (i + 1) (st.1, st.2) (by k_extra "om") (by show st.2 ≤ i + 1; k_extra "om") (by show st.1.size ≤ i + 1; k_extra "om")
      refine Eq.trans ih ?_
      by_cases hlt : i < l.length
      · rw [List.drop_eq_getElem_cons hlt, h1, if_neg (fun e => hc (by rw [List.getElem?_eq_getElem hlt, e]))]
        simp
      · rw [List.drop_eq_nil_of_le (by k_extra "om"), List.drop_eq_nil_of_le (by k_extra "om")]
theorem count_nl (l : List Nat) : Txt.count (toS l) (Str.ofString "\n") = nls l := by
  have e : Str.ofString "\n" = ⟨#[10]⟩ := by decide +kernel
  rw [e]
  have h := occ_cnt l 10 (fun l => (l.filter (fun x => x == 10)).length) rfl (fun x r => by
    by_cases hx : x = 10
    · rw [if_pos hx, List.filter_cons_of_pos (by simp [hx]), List.length_cons]; k_extra "om"
    · rw [if_neg hx, List.filter_cons_of_neg (by simp [hx])]; k_extra "om") (l.length + 1) 0 (#[], 0) (by k_extra "om") (Nat.le_refl _) (Nat.le_refl _)
  have hn : ∀ l : List Nat, nls l = ((l.filter (fun x => x == 10)).length : Int) := by
    intro l
    induction l with
    | nil => rfl
    | cons x r ih =>
      show nl x + nls r = _
      rw [ih]
      unfold nl
      by_cases hx : x = 10
      · rw [if_pos hx, List.filter_cons_of_pos (by simp [hx]), List.length_cons]; k_extra "om"
      · rw [if_neg hx, List.filter_cons_of_neg (by simp [hx])]; k_extra "om"
  rw [hn]
  unfold Txt.count
  rw [PySem.StrLaws.occ_eq, Array.length_toList]
  show ((_ : Nat) : Int) = _
  rw [show (toS l).length + 1 - 0 = l.length + 1 from rfl]
  refine congrArg (fun n : Nat => (n : Int)) (Eq.trans h ?_)
  simp
end
section
variable {w : World} {mean : ExcName → Option Value} {mg mb : Str → Option Value} {dp un : Nat} {gd : Option (List Code)} {cn : Str} {cs : Scope} {L a : Addr} {ccd : Value} {cl : List (Str × Addr)} {outer : List Env}
   {A₀ : Around} {base h₀ : Heap} {m : Str → Option Value} {s : Shared} {Q E : Value → Shared → Prop}
open G0 G3 G4 G8 G10 G11 G31 G32 G34 G49
theorem fin_shaped (z : Int) : PySem.SeqAt.shaped (.tuple [.str (Str.ofString ""), .int z]) = true := by
  unfold PySem.SeqAt.shaped
  rw [show PyData.canLay0 (.tuple [.str (Str.ofString ""), .int z]) = (PyData.strOk (Str.ofString "") && (true && true)) from rfl, show PyData.strOk (Str.ofString "") = true by decide +kernel]
  rfl
theorem fin_self (z : Int) : PyData.eqv (.tuple [.str (Str.ofString ""), .int z]) (.tuple [.str (Str.ofString ""), .int z]) = true := by
  simp [PyData.eqv, PyData.eqvAll]
theorem law12 {x d S : Addr} {LT : LexT} {vs : List Value} {ln : Int} {tl tt : Tok} {n n2 : Nat} {oc : Obj} {tx : List Nat} {rr : List (Addr × Obj)} {sc : Scope} {st : Stmt} {Lk fa : Addr} {cd : Value} {g : Heap} {m1 : Str → Option Value} {Qf : Flow → Shared → Prop} (hsc : sc = scL)
   (B : Below callerA g [] g) (F : Fr g Lk s.heap m1) (X : (K w.params).In g) (N : News g Lk s.heap ((LT.pb, listO [] n) :: (d, lexDict w LT ln tl) :: (S, listO vs n2) :: rr))
   (T : Top topProg LL mean mg mb g) (hst : st = lS 12)
   (LX : LexAt w rr x d S LT) (hln : 0 ≤ ln) (hlu : ln < 50000) (hcl : (Lk + 1 + 1 + 1, oc) ∈ rr) (hcd : oc.data = Data.cell (some (.ref x))) (CH : CodeHd g 255 251)
   (e2 : ∀ p ∈ rr, p.1 ≠ LT.pb) (e3 : ∀ p ∈ rr, p.1 ≠ d) (e4 : ∀ p ∈ rr, p.1 ≠ S) (e8 : Apart LT.pb d) (e9 : Apart LT.pb S) (e0 : Apart d S)
   (hk : Has m1 [(Str.ofString "text", .str (toS tx) tt)]) (hL : LeftIs vs []) (hz : tx.length ≤ 1000) (hq : ln = 1 + nls tx)
   (hret : ∀ h' tk' nx, Fr g Lk h' m1 → News g Lk h' nx → (∀ p ∈ rr, p ∈ nx) → Qf (.ret (.bool true)) { s with heap := h', toks := tk' }) : wpAny (model PP w) (callerA.deeper (envOfC (Str.ofString "law") sc Lk fa cd)) (exec st (envOfC (Str.ofString "law") sc Lk fa cd)) Qf (fun e s' => wpAny (model PP w) (callerA.deeper (envOfC (Str.ofString "law") sc Lk fa cd)) (leaving (envOfC (Str.ofString "law") sc Lk fa cd) e) (fun _ s'' => E e s'') (fun e' s'' => E e' s'') s') s := by
  conv at hsc => rhs; whnf
  conv at hst => rhs; whnf
  subst hsc; subst hst
  rw [← kst_same hk] at F
  have x1 : (x, instObj 245 d) ∈ rr := by
    obtain ⟨d1, f, c', C, pb1, oc, oC, q, t0, t1, t2, t3, t4, t5, tw, n4, ws, t9, doc, pm, ctv, a1, a2, a3, a4, a5, a6, a7, a8, a9⟩ := id LX
    exact a1
  have b2 : Apart x LT.pb := e2 _ x1
  have b3 : Apart x d := e3 _ x1
  have b4 : Apart x S := e4 _ x1
  have c6 : Apart (Lk + 1 + 1 + 1) LT.pb := e2 _ hcl
  have c7 : Apart (Lk + 1 + 1 + 1) d := e3 _ hcl
  have c8 : Apart (Lk + 1 + 1 + 1) S := e4 _ hcl
  replace N : News g Lk s.heap ((LT.pb, listO [] n) :: (d, lexDict w LT ln tl) :: (S, listO vs n2) :: (Lk + 1 + 1 + 1, oc) :: (x, instObj 245 d) :: rr) := fun p hp => by
    apply N
    simp only [List.mem_cons] at hp ⊢
    rcases hp with h | h | h | h | h | h
    · exact .inl h
    · exact .inr (.inl h)
    · exact .inr (.inr (.inl h))
    · rw [h]; exact .inr (.inr (.inr hcl))
    · rw [h]; exact .inr (.inr (.inr x1))
    · exact .inr (.inr (.inr h))
  k_steps
  refine Hold.out ?_
  try k_unmd
  refine PySem.SC.count ?_
  rw [count_nl]
  k_steps
  refine Hold.out ?_
  try k_unmd
  k_dflt (refine' eq_dataH ?r1 ?r2 ?s1 ?s2 ?rm ?_)
  case r1 => ked_read
  case r2 => ked_read
  case s1 => exact fin_shaped _
  case s2 => exact fin_shaped _
  case rm => ke_room
  rw [hq, fin_self]
  k_steps
  rw [kst_same hk] at *
  exact hret _ _ _ (by k_asm) (by k_asm) (fun p hp => by repeat (first | exact hp | apply List.mem_cons_of_mem))
end
section
theorem octs_all {x00 x01 x02 x03 x10 x11 x12 x13 x20 x21 x22 x23 x30 x31 x32 x33 : Int} :
    octs x00 x01 x02 x03 ++ octs x10 x11 x12 x13 ++ octs x20 x21 x22 x23 ++ octs x30 x31 x32 x33 = allB [(x00, x01, x02, x03), (x10, x11, x12, x13), (x20, x21, x22, x23), (x30, x31, x32, x33)] := by
  unfold octs
  show _ = (octL x00).map Int.toNat ++ ((octL x01).map Int.toNat ++ ((octL x02).map Int.toNat ++ ((octL x03).map Int.toNat ++ ((octL x10).map Int.toNat ++ ((octL x11).map Int.toNat ++ ((octL x12).map Int.toNat ++ ((octL x13).map Int.toNat ++ ((octL x20).map Int.toNat ++ ((octL x21).map Int.toNat ++ ((octL x22).map Int.toNat ++ ((octL x23).map Int.toNat ++ ((octL x30).map Int.toNat ++ ((octL x31).map Int.toNat ++ ((octL x32).map Int.toNat ++ ((octL x33).map Int.toNat ++ [])))))))))))))))
  simp only [List.append_assoc, List.nil_append, List.append_nil]
theorem octs_lt {x0 x1 x2 x3 : Int} {c : Nat} (h : c ∈ octs x0 x1 x2 x3) : c < 128 := by
  unfold octs at h
  simp only [List.mem_append, List.mem_map, List.not_mem_nil, false_or] at h
  rcases h with ((⟨k, hk, rfl⟩ | ⟨k, hk, rfl⟩) | ⟨k, hk, rfl⟩) | ⟨k, hk, rfl⟩ <;> (have := octL_bound hk; k_extra "om")
theorem all_lt {x00 x01 x02 x03 x10 x11 x12 x13 x20 x21 x22 x23 x30 x31 x32 x33 : Int} : ∀ c ∈ allB [(x00, x01, x02, x03), (x10, x11, x12, x13), (x20, x21, x22, x23), (x30, x31, x32, x33)], c < 128 := by
  intro c hc
  rw [← octs_all] at hc
  simp only [List.mem_append] at hc
  rcases hc with ((h | h) | h) | h <;> exact octs_lt h
theorem all_len {x00 x01 x02 x03 x10 x11 x12 x13 x20 x21 x22 x23 x30 x31 x32 x33 : Int} : (allB [(x00, x01, x02, x03), (x10, x11, x12, x13), (x20, x21, x22, x23), (x30, x31, x32, x33)]).length ≤ 1000 := by
  rw [← octs_all]
  simp only [List.length_append]
  have a := octs_len x00 x01 x02 x03
  have b := octs_len x10 x11 x12 x13
  have c := octs_len x20 x21 x22 x23
  have d := octs_len x30 x31 x32 x33
  k_extra "om"
theorem rows_ok {x00 x01 x02 x03 x10 x11 x12 x13 x20 x21 x22 x23 x30 x31 x32 x33 : Int} (h0 : RowOk (x00, x01, x02, x03)) (h1 : RowOk (x10, x11, x12, x13)) (h2 : RowOk (x20, x21, x22, x23)) (h3 : RowOk (x30, x31, x32, x33)) :
    ∀ r ∈ ([(x00, x01, x02, x03), (x10, x11, x12, x13), (x20, x21, x22, x23), (x30, x31, x32, x33)] : List Row), RowOk r := by
  intro r hr
  simp only [List.mem_cons, List.not_mem_nil, or_false] at hr
  rcases hr with rfl | rfl | rfl | rfl <;> assumption
theorem fm_lo (a : Int) {b : Int} (h : 0 < b) : 0 ≤ Int.fmod a b := Int.fmod_nonneg_of_pos a h
theorem fm_hi (a : Int) {b : Int} (h : 0 < b) : Int.fmod a b < b := Int.fmod_lt_of_pos a h
/-- one block's row out of its heap -/
theorem row_ok (b9 h : Int) (l9 : 0 ≤ b9) (u9 : b9 < 2000) : RowOk (b9 + Int.fmod h 80, 1 + Int.fmod (Int.fdiv h 80) 50, Int.fmod (Int.fdiv h 4000) 250, Int.fmod (Int.fdiv h 4000) 83) ∧ 1 ≤ 1 + Int.fmod (Int.fdiv h 80) 50 ∧ Int.fmod (Int.fdiv h 4000) 83 < 128 := by
  have a1 := fm_lo h (b := 80) (by decide)
  have a2 := fm_hi h (b := 80) (by decide)
  have b1 := fm_lo (Int.fdiv h 80) (b := 50) (by decide)
  have b2 := fm_hi (Int.fdiv h 80) (b := 50) (by decide)
  have c1 := fm_lo (Int.fdiv h 4000) (b := 250) (by decide)
  have c2 := fm_hi (Int.fdiv h 4000) (b := 250) (by decide)
  have d1 := fm_lo (Int.fdiv h 4000) (b := 83) (by decide)
  have d2 := fm_hi (Int.fdiv h 4000) (b := 83) (by decide)
  refine ⟨⟨⟨?_, ?_⟩, ⟨?_, ?_⟩, ⟨?_, ?_⟩, ⟨?_, ?_⟩⟩, ?_, ?_⟩ <;> (try dsimp only) <;> k_extra "om"
end
section
variable {w : World} {mean : ExcName → Option Value} {mg mb : Str → Option Value} {dp un : Nat} {gd : Option (List Code)} {cn : Str} {cs : Scope} {L a : Addr} {ccd : Value} {cl : List (Str × Addr)} {outer : List Env}
   {A₀ : Around} {base h₀ : Heap} {m : Str → Option Value} {s : Shared} {Q E : Value → Shared → Prop}
open G0 G3 G4 G33 G49 G54
theorem mem_front {C p : Addr × Obj} {rf r : List (Addr × Obj)} (h : p ∈ C :: rf) : p ∈ C :: (rf ++ r) := by
  rcases List.mem_cons.mp h with h | h
  · rw [h]; exact .head _
  · exact .tail _ (List.mem_append_left _ h)
theorem relay7 {A0 A1 A2 A3 A4 W P D S C p : Addr × Obj} {rf : List (Addr × Obj)} (h : p ∈ A0 :: A1 :: A2 :: A3 :: A4 :: W :: P :: D :: S :: C :: rf) : p ∈ W :: P :: D :: S :: C :: (rf ++ [A0, A1, A2, A3, A4]) := by
  simp only [List.mem_cons, List.mem_append, List.not_mem_nil, or_false] at h ⊢
  rcases h with h | h | h | h | h | h | h | h | h | h | h <;> simp [h]
theorem four_txt {a b c d : List Nat} (ha : a.length ≤ 18) (hb : b.length ≤ 18) (hc : c.length ≤ 18) (hd : d.length ≤ 18) : (([a, b, c, d] : List (List Nat)).flatten).length ≤ 1000 ∧ 1 + nls a + nls b + nls c + nls d = 1 + nls (([a, b, c, d] : List (List Nat)).flatten) ∧ 0 ≤ 1 + nls a + nls b + nls c + nls d ∧ 1 + nls a + nls b + nls c + nls d < 50000 := by
  have e : ([a, b, c, d] : List (List Nat)).flatten = a ++ (b ++ (c ++ (d ++ []))) := rfl
  have hl : (([a, b, c, d] : List (List Nat)).flatten).length ≤ 1000 := by
    rw [e]
    simp only [List.length_append, List.length_nil]
    k_extra "om"
  have hq : 1 + nls a + nls b + nls c + nls d = 1 + nls (([a, b, c, d] : List (List Nat)).flatten) := by
    rw [e, nls_append, nls_append, nls_append, nls_append, show nls [] = 0 from rfl, Int.add_zero, Int.add_assoc, Int.add_assoc, Int.add_assoc]
  have hb := nls_le (([a, b, c, d] : List (List Nat)).flatten)
  refine ⟨hl, hq, ?_, ?_⟩ <;> rw [hq] <;> clear hq e <;> k_extra "om"
theorem dbl_lt {x y : Int} (h : 1 ≤ y) : 2 * x < 2 * x + 2 * y := by k_extra "om"
theorem law_b {Dr Dm c0 c1 c2 c3 : Addr} {x00 x01 x02 x03 x10 x11 x12 x13 x20 x21 x22 x23 x30 x31 x32 x33 q0 q1 q2 q3 : Int} {a00 a01 a02 a03 a10 a11 a12 a13 a20 a21 a22 a23 a30 a31 a32 a33 u0 u1 u2 u3 : Tok} {k k2 : Nat} {ol : Obj} {sc : Scope} {bd : List Stmt} {Lk fa : Addr} {cd : Value} {g : Heap} {m1 : Str → Option Value} {Qf : Flow → Shared → Prop} (hsc : sc = scL)
   (B : Below callerA g [] g) (F : Fr g Lk s.heap m1) (X : (K w.params).In g) (N : News g Lk s.heap ((Dr, listO [.ref c0, .ref c1, .ref c2, .ref c3] k) :: (c0, tupO [.int x00 a00, .int x01 a01, .int x02 a02, .int x03 a03]) :: (c1, tupO [.int x10 a10, .int x11 a11, .int x12 a12, .int x13 a13]) :: (c2, tupO [.int x20 a20, .int x21 a21, .int x22 a22, .int x23 a23]) :: (c3, tupO [.int x30 a30, .int x31 a31, .int x32 a32, .int x33 a33]) :: (Dm, listO [.int q0 u0, .int q1 u1, .int q2 u2, .int q3 u3] k2) :: (Lk + 1 + 1 + 1, ol) :: (251, tabObj #[]) :: []))
   (T : Top topProg LL mean mg mb g) (hbd : bd = bodyL.drop 4)
   (hcd : ∃ v, ol.data = Data.cell v) (hk : Has m1 [(Str.ofString "rows", .ref Dr), (Str.ofString "marks", .ref Dm)]) (CH : CodeHd g 255 251) (h251 : @_root_.LT.lt Nat instLTNat 251 Lk)
   (o0 : @_root_.LT.lt Nat instLTNat (Lk + 1 + 1 + 1) Dr) (o1 : @_root_.LT.lt Nat instLTNat (Lk + 1 + 1 + 1) c0) (o2 : @_root_.LT.lt Nat instLTNat (Lk + 1 + 1 + 1) c1) (o3 : @_root_.LT.lt Nat instLTNat (Lk + 1 + 1 + 1) c2) (o4 : @_root_.LT.lt Nat instLTNat (Lk + 1 + 1 + 1) c3)
   (r0 : RowOk (x00, x01, x02, x03)) (p0 : 1 ≤ x01) (s0 : x03 < 128) (r1 : RowOk (x10, x11, x12, x13)) (p1 : 1 ≤ x11) (s1 : x13 < 128) (r2 : RowOk (x20, x21, x22, x23)) (p2 : 1 ≤ x21) (s2 : x23 < 128) (r3 : RowOk (x30, x31, x32, x33)) (p3 : 1 ≤ x31) (s3 : x33 < 128)
   (hret : ∀ h' tk' nx tb m', Fr g Lk h' m' → News g Lk h' nx → (251, tabObj tb) ∈ nx → Qf (.ret (.bool true)) { s with heap := h', toks := tk' }) : wpAny (model PP w) (callerA.deeper (envOfC (Str.ofString "law") sc Lk fa cd)) (execs bd (envOfC (Str.ofString "law") sc Lk fa cd)) Qf (fun e s' => wpAny (model PP w) (callerA.deeper (envOfC (Str.ofString "law") sc Lk fa cd)) (leaving (envOfC (Str.ofString "law") sc Lk fa cd) e) (fun _ s'' => E e s'') (fun e' s'' => E e' s'') s') s := by
  conv at hsc => rhs; whnf
  conv at hbd => rhs; whnf
  subst hsc; subst hbd
  have l00 : 0 ≤ x00 := r0.1.1
  have m00 : x00 < 4096 := r0.1.2
  have l01 : 0 ≤ x01 := r0.2.1.1
  have m01 : x01 < 4096 := r0.2.1.2
  have l02 : 0 ≤ x02 := r0.2.2.1.1
  have m02 : x02 < 4096 := r0.2.2.1.2
  have l03 : 0 ≤ x03 := r0.2.2.2.1
  have m03 : x03 < 4096 := r0.2.2.2.2
  have l10 : 0 ≤ x10 := r1.1.1
  have m10 : x10 < 4096 := r1.1.2
  have l11 : 0 ≤ x11 := r1.2.1.1
  have m11 : x11 < 4096 := r1.2.1.2
  have l12 : 0 ≤ x12 := r1.2.2.1.1
  have m12 : x12 < 4096 := r1.2.2.1.2
  have l13 : 0 ≤ x13 := r1.2.2.2.1
  have m13 : x13 < 4096 := r1.2.2.2.2
  have l20 : 0 ≤ x20 := r2.1.1
  have m20 : x20 < 4096 := r2.1.2
  have l21 : 0 ≤ x21 := r2.2.1.1
  have m21 : x21 < 4096 := r2.2.1.2
  have l22 : 0 ≤ x22 := r2.2.2.1.1
  have m22 : x22 < 4096 := r2.2.2.1.2
  have l23 : 0 ≤ x23 := r2.2.2.2.1
  have m23 : x23 < 4096 := r2.2.2.2.2
  have l30 : 0 ≤ x30 := r3.1.1
  have m30 : x30 < 4096 := r3.1.2
  have l31 : 0 ≤ x31 := r3.2.1.1
  have m31 : x31 < 4096 := r3.2.1.2
  have l32 : 0 ≤ x32 := r3.2.2.1.1
  have m32 : x32 < 4096 := r3.2.2.1.2
  have l33 : 0 ≤ x33 := r3.2.2.2.1
  have m33 : x33 < 4096 := r3.2.2.2.2
  rw [← kst_same hk] at F
  k_steps
  refine Hold.out ?_
  try k_unmd
  k_dflt (refine law4 rfl (by k_asm) (by k_asm) (by k_asm) (by k_asm) (by k_asm) rfl (by k_extra "mine has") l00 m00 l01 m01 l02 m02 l03 m03 l10 m10 l11 m11 l12 m12 l13 m13 l20 m20 l21 m21 l22 m22 l23 m23 l30 m30 l31 m31 l32 m32 l33 m33 fun tt h4 tk4 F4 N4 => ?_)
  try dsimp only
  k_steps
  refine Hold.out ?_
  try k_unmd
  obtain ⟨tlen, hq, hb0, hb1⟩ := four_txt (word_len (Int.fmod q0 2) x00 x01 x02 x03) (word_len (Int.fmod q1 2) x10 x11 x12 x13) (word_len (Int.fmod q2 2) x20 x21 x22 x23) (word_len (Int.fmod q3 2) x30 x31 x32 x33)
  k_dflt (refine law5 (tx := ([wordL (Int.fmod q0 2) (octs x00 x01 x02 x03), wordL (Int.fmod q1 2) (octs x10 x11 x12 x13), wordL (Int.fmod q2 2) (octs x20 x21 x22 x23), wordL (Int.fmod q3 2) (octs x30 x31 x32 x33)] : List (List Nat)).flatten) (rr := (Dr, listO [.ref c0, .ref c1, .ref c2, .ref c3] k) :: (c0, tupO [.int x00 a00, .int x01 a01, .int x02 a02, .int x03 a03]) :: (c1, tupO [.int x10 a10, .int x11 a11, .int x12 a12, .int x13 a13]) :: (c2, tupO [.int x20 a20, .int x21 a21, .int x22 a22, .int x23 a23]) :: (c3, tupO [.int x30 a30, .int x31 a31, .int x32 a32, .int x33 a33]) :: []) rfl (by k_asm) (by k_asm) (by k_asm) (by k_extra "mine news") (by k_asm) rfl hcd (by k_extra "mine has") (by k_all) (by k_all) (by k_ne) CH tlen fun x d S LT vs tl n n2 rf tb ol' h5 tk5 F5 N5 hcl LX hL htb g1 g2 g3 sd dq => ?_)
  try dsimp only
  k_steps
  refine Hold.out ?_
  try k_unmd
  have z8 : Apart LT.pb d := Nat.ne_of_gt dq
  have z9 : Apart LT.pb S := Nat.ne_of_gt (Nat.lt_trans sd dq)
  have z0 : Apart d S := Nat.ne_of_gt sd
  k_dflt (refine law6 rfl (by k_asm) (by k_asm) (by k_asm) (by k_asm) (by k_asm) rfl (LX.mono fun p h => .tail _ (List.mem_append_left _ h)) (.tail _ (List.mem_append_right _ (.head _))) (.head _) hcl CH g3 g1 g2 z8 z9 z0 (by k_extra "mine has") hL (octs_ne _ _ _ _) (octs_len _ _ _ _) (octs_ne _ _ _ _) (octs_len _ _ _ _) (octs_ne _ _ _ _) (octs_len _ _ _ _) (octs_ne _ _ _ _) (octs_len _ _ _ _) fun Dw w0 w1 w2 w3 kw vs6 n6 n7 tl6 h6 tk6 F6 N6 hL6 aDw pw1 pw2 pw3 => ?_)
  try dsimp only
  k_steps
  refine Hold.out ?_
  try k_unmd
  have G1 : ∀ p ∈ (Lk + 1 + 1 + 1, ol') :: rf, p.1 ≠ d := fun p hp => g1 p (mem_front hp)
  have G2 : ∀ p ∈ (Lk + 1 + 1 + 1, ol') :: rf, p.1 ≠ S := fun p hp => g2 p (mem_front hp)
  have G3 : ∀ p ∈ (Lk + 1 + 1 + 1, ol') :: rf, p.1 ≠ LT.pb := fun p hp => g3 p (mem_front hp)
  have N6r : News g Lk h6 (_ :: _ :: _ :: _ :: _ :: _ :: _ :: _ :: _ :: _ :: rf) := fun p hp => N6 p (relay7 hp)
  clear N5 N6 g1 g2 g3
  k_dflt (refine law7 rfl (by k_asm) (by k_asm) (by k_asm) N6r (by k_asm) rfl (by k_extra "mine has") fun De e0 e1 e2 e3 be00 be01 be02 be03 be04 be10 be11 be12 be13 be14 be20 be21 be22 be23 be24 be30 be31 be32 be33 be34 k7 h7 tk7 F7 N7 => ?_)
  try dsimp only
  k_steps
  refine Hold.out ?_
  try k_unmd
  clear N6r
  k_dflt (refine law8 (rr := (De, _) :: (e0, _) :: (e1, _) :: (e2, _) :: (e3, _) :: (LT.pb, _) :: (d, _) :: (S, _) :: (Lk + 1 + 1 + 1, ol') :: rf) rfl (by k_asm) (by k_asm) (by k_asm) (by k_extra "mine news") (by k_asm) rfl (by k_extra "mine has") (rows_ok r0 r1 r2 r3) l03 s0 l13 s1 l23 s2 l33 s3 octs_all all_lt all_len fun Df f0 f1 f2 f3 bf00 bf01 bf02 bf03 bf04 bf10 bf11 bf12 bf13 bf14 bf20 bf21 bf22 bf23 bf24 bf30 bf31 bf32 bf33 bf34 k8 h8 tk8 F8 N8 aDf af0 af1 af2 af3 => ?_)
  try dsimp only
  k_steps
  refine Hold.out ?_
  try k_unmd
  k_dflt (refine law9 (Df := Df) (De := De) (f0 := f0) (f1 := f1) (f2 := f2) (f3 := f3) (e0 := e0) (e1 := e1) (e2 := e2) (e3 := e3) (rr := []) rfl (by k_asm) (by k_asm) (by k_asm) (by k_extra "mine news") (by k_asm) rfl (by k_extra "mine has") ?_)
  try dsimp only
  k_steps
  refine Hold.out ?_
  try k_unmd
  k_dflt (refine law10 (rr := (LT.pb, _) :: (d, _) :: (S, _) :: (Lk + 1 + 1 + 1, ol') :: rf) rfl (by k_asm) (by k_asm) (by k_asm) (by k_extra "mine news") (by k_asm) rfl (by k_extra "mine has") fun Dg g0 g1 g2 g3 dd00 dd01 dd10 dd11 dd20 dd21 dd30 dd31 k9 h9 tk9 F9 N9 aDg ag0 ag1 ag2 ag3 => ?_)
  try dsimp only
  k_steps
  refine Hold.out ?_
  try k_unmd
  dsimp only [AllLt] at aDg ag0 ag1 ag2 ag3
  obtain ⟨kk, hk9, hkz, hkw⟩ := kinds_ways (x0 := 2 * x00) (y0 := 2 * x00 + 2 * x01) (x1 := 2 * x10) (y1 := 2 * x10 + 2 * x11) (x2 := 2 * x20) (y2 := 2 * x20 + 2 * x21) (x3 := 2 * x30) (y3 := 2 * x30 + 2 * x31) (dbl_lt p0) (dbl_lt p1) (dbl_lt p2) (dbl_lt p3)
  have hM := matP_is (x0 := 2 * x00) (y0 := 2 * x00 + 2 * x01) (x1 := 2 * x10) (y1 := 2 * x10 + 2 * x11) (x2 := 2 * x20) (y2 := 2 * x20 + 2 * x21) (x3 := 2 * x30) (y3 := 2 * x30 + 2 * x31) (dbl_lt p0) (dbl_lt p1) (dbl_lt p2) (dbl_lt p3)
  have E2 : ∀ o : Obj, ∀ p ∈ (Dg, o) :: (g0, tupO [.int (2 * x00) dd00, .int (2 * x00 + 2 * x01) dd01]) :: (g1, tupO [.int (2 * x10) dd10, .int (2 * x10 + 2 * x11) dd11]) :: (g2, tupO [.int (2 * x20) dd20, .int (2 * x20 + 2 * x21) dd21]) :: (g3, tupO [.int (2 * x30) dd30, .int (2 * x30 + 2 * x31) dd31]) :: (Lk + 1 + 1 + 1, ol') :: rf, p.1 ≠ LT.pb := fun o => List.forall_mem_cons.mpr ⟨by k_ne, List.forall_mem_cons.mpr ⟨by k_ne, List.forall_mem_cons.mpr ⟨by k_ne, List.forall_mem_cons.mpr ⟨by k_ne, List.forall_mem_cons.mpr ⟨by k_ne, G3⟩⟩⟩⟩⟩
  have E3 : ∀ o : Obj, ∀ p ∈ (Dg, o) :: (g0, tupO [.int (2 * x00) dd00, .int (2 * x00 + 2 * x01) dd01]) :: (g1, tupO [.int (2 * x10) dd10, .int (2 * x10 + 2 * x11) dd11]) :: (g2, tupO [.int (2 * x20) dd20, .int (2 * x20 + 2 * x21) dd21]) :: (g3, tupO [.int (2 * x30) dd30, .int (2 * x30 + 2 * x31) dd31]) :: (Lk + 1 + 1 + 1, ol') :: rf, p.1 ≠ d := fun o => List.forall_mem_cons.mpr ⟨by k_ne, List.forall_mem_cons.mpr ⟨by k_ne, List.forall_mem_cons.mpr ⟨by k_ne, List.forall_mem_cons.mpr ⟨by k_ne, List.forall_mem_cons.mpr ⟨by k_ne, G1⟩⟩⟩⟩⟩
  have E4 : ∀ o : Obj, ∀ p ∈ (Dg, o) :: (g0, tupO [.int (2 * x00) dd00, .int (2 * x00 + 2 * x01) dd01]) :: (g1, tupO [.int (2 * x10) dd10, .int (2 * x10 + 2 * x11) dd11]) :: (g2, tupO [.int (2 * x20) dd20, .int (2 * x20 + 2 * x21) dd21]) :: (g3, tupO [.int (2 * x30) dd30, .int (2 * x30 + 2 * x31) dd31]) :: (Lk + 1 + 1 + 1, ol') :: rf, p.1 ≠ S := fun o => List.forall_mem_cons.mpr ⟨by k_ne, List.forall_mem_cons.mpr ⟨by k_ne, List.forall_mem_cons.mpr ⟨by k_ne, List.forall_mem_cons.mpr ⟨by k_ne, List.forall_mem_cons.mpr ⟨by k_ne, G2⟩⟩⟩⟩⟩
  k_dflt (refine law11 (Dg := Dg) (g0 := g0) (g1 := g1) (g2 := g2) (g3 := g3) (rr := (Lk + 1 + 1 + 1, ol') :: rf) rfl (by k_asm) (by k_asm) (by k_asm) (by k_extra "mine news") (by k_asm) rfl (LX.mono fun p h => .tail _ h) hb0 hb1 (.head _) hcl CH (E2 _) (E3 _) (E4 _) z8 z9 z0 (by k_extra "mine has") hL6 hM hk9 hkz hkw fun n10 n11 hA tkA FA NA => ?_)
  try dsimp only
  k_steps
  refine Hold.out ?_
  try k_unmd
  k_dflt (refine law12 (tx := ([wordL (Int.fmod q0 2) (octs x00 x01 x02 x03), wordL (Int.fmod q1 2) (octs x10 x11 x12 x13), wordL (Int.fmod q2 2) (octs x20 x21 x22 x23), wordL (Int.fmod q3 2) (octs x30 x31 x32 x33)] : List (List Nat)).flatten) (rr := (Lk + 1 + 1 + 1, ol') :: rf) rfl (by k_asm) (by k_asm) (by k_asm) (by k_extra "mine news") (by k_asm) rfl (LX.mono fun p h => .tail _ h) hb0 hb1 (.head _) hcl CH G3 G1 G2 z8 z9 z0 (by k_extra "mine has") hL6 tlen hq fun hB tkB nx FB NB hsub => ?_)
  exact hret _ _ _ _ _ FB NB (hsub _ (.tail _ htb))
end
section
variable {w : World} {mean : ExcName → Option Value} {mg mb : Str → Option Value} {dp un : Nat} {gd : Option (List Code)} {cn : Str} {cs : Scope} {L a : Addr} {ccd : Value} {cl : List (Str × Addr)} {outer : List Env}
   {A₀ : Around} {base h₀ : Heap} {m : Str → Option Value} {s : Shared} {Q E : Value → Shared → Prop}
open G0 G3 G4 G33 G49 G54
theorem ten6 : (10 ^ Int.toNat 6 : Int) = 1000000 := by decide
theorem law_all {ow : Addr} {vals : List Value} {ns : List Int} {ol obase oc : Obj} {sc : Scope} {bd : List Stmt} {Lk fa : Addr} {cd : Value} {g : Heap} {m1 : Str → Option Value} {Qf : Flow → Shared → Prop} (hsc : sc = scL)
   (B : Below callerA g [] g) (F : Fr g Lk s.heap m1) (X : (K w.params).In g) (N : News g Lk s.heap ((Lk + 1 + 1 + 1, ol) :: (Lk + 1 + 1, obase) :: (Lk + 1, oc) :: (251, tabObj #[]) :: []))
   (T : Top topProg LL mean mg mb g) (hbd : bd = bodyL)
   (hcl : ∃ v, ol.data = Data.cell v) (hcb : ∃ v, obase.data = Data.cell v) (hcc : ∃ v, oc.data = Data.cell v) (hk : Has m1 [(Str.ofString "script", .ref ow)]) (hs : g.IsList ow vals.toArray) (hI : IntsAre vals ns) (hz : ns.length ≤ 63) (CH : CodeHd g 255 251) (h251 : @_root_.LT.lt Nat instLTNat 251 Lk)
   (hret : ∀ h' tk' nx tb m', Fr g Lk h' m' → News g Lk h' nx → (251, tabObj tb) ∈ nx → Qf (.ret (.bool true)) { s with heap := h', toks := tk' }) : wpAny (model PP w) (callerA.deeper (envOfC (Str.ofString "law") sc Lk fa cd)) (execs bd (envOfC (Str.ofString "law") sc Lk fa cd)) Qf (fun e s' => wpAny (model PP w) (callerA.deeper (envOfC (Str.ofString "law") sc Lk fa cd)) (leaving (envOfC (Str.ofString "law") sc Lk fa cd) e) (fun _ s'' => E e s'') (fun e' s'' => E e' s'') s') s := by
  conv at hsc => rhs; whnf
  conv at hbd => rhs; whnf
  subst hsc; subst hbd
  rw [← kst_same hk] at F
  k_steps
  refine Hold.out ?_
  try k_unmd
  k_dflt (refine law0 (rr := (Lk + 1 + 1 + 1, ol) :: (Lk + 1 + 1, obase) :: (251, tabObj #[]) :: []) rfl (by k_asm) (by k_asm) (by k_asm) (by k_extra "mine news") (by k_asm) rfl hcc (by k_extra "mine has") hs hI hz (List.forall_mem_cons.mpr ⟨by k_ne, List.forall_mem_cons.mpr ⟨by k_ne, List.forall_mem_cons.mpr ⟨by k_ne, List.forall_mem_nil _⟩⟩⟩) fun Dc cv n oc' hA tkA FA NA aDc hIc hoc => ?_)
  try dsimp only
  k_steps
  refine Hold.out ?_
  try k_unmd
  have hz9 : ((ns.take 12).map fun z => Int.fmod z (10 ^ Int.toNat 6)).length ≤ 12 := by rw [List.length_map, List.length_take]; exact Nat.min_le_left _ _
  k_dflt (refine law1 (rr := (Lk + 1 + 1 + 1, ol) :: (Lk + 1 + 1, obase) :: (251, tabObj #[]) :: []) rfl (by k_asm) (by k_asm) (by k_asm) (by k_extra "mine news") (by k_asm) rfl hoc hIc hz9 (List.forall_mem_cons.mpr ⟨by k_ne, List.forall_mem_cons.mpr ⟨by k_ne, List.forall_mem_cons.mpr ⟨by k_ne, List.forall_mem_nil _⟩⟩⟩) fun Dh h0 h1 h2 h3 h4 t0 t1 t2 t3 t4 kB hB tkB FB NB aDh => ?_)
  try dsimp only
  k_steps
  refine Hold.out ?_
  try k_unmd
  have apD : Apart Dh (Lk + 1 + 1) := Nat.ne_of_gt (allLt_lt aDh (Lk + 1 + 1, obase) (by k_mem))
  k_dflt (refine law2 (rr := (Lk + 1 + 1 + 1, ol) :: (251, tabObj #[]) :: []) rfl (by k_asm) (by k_asm) (by k_asm) (by k_extra "mine news") (by k_asm) rfl hcb (by k_extra "mine has") (List.forall_mem_cons.mpr ⟨by k_ne, List.forall_mem_cons.mpr ⟨by k_ne, List.forall_mem_nil _⟩⟩) apD fun Dm u0 u1 u2 u3 ub kC obase' hC tkC FC NC aDm hob => ?_)
  try dsimp only
  k_steps
  refine Hold.out ?_
  try k_unmd
  k_dflt (refine law3 (rr := (Lk + 1 + 1 + 1, ol) :: (Dm, _) :: (251, tabObj #[]) :: []) rfl (by k_asm) (by k_asm) (by k_asm) (by k_extra "mine news") (by k_asm) rfl hob (by k_extra "mine has") (List.forall_mem_cons.mpr ⟨by k_ne, List.forall_mem_cons.mpr ⟨?_, List.forall_mem_cons.mpr ⟨by k_ne, List.forall_mem_nil _⟩⟩⟩) apD fun Dr c0 c1 c2 c3 a00 a01 a02 a03 a10 a11 a12 a13 a20 a21 a22 a23 a30 a31 a32 a33 kD hD tkD FD ND aDr ac0 ac1 ac2 ac3 => ?_)
  · exact Nat.ne_of_gt (allLt_lt aDm (Lk + 1 + 1, obase') (by k_mem))
  try dsimp only
  have L4 : ∀ {D : Addr}, AllLt D ((Lk + 1 + 1, obase') :: (Dh, listO [.int h0 t0, .int h1 t1, .int h2 t2, .int h3 t3, .int h4 t4] kB) :: (Lk + 1 + 1 + 1, ol) :: (Dm, listO [.int (Int.fdiv h0 4000) u0, .int (Int.fdiv h1 4000) u1, .int (Int.fdiv h2 4000) u2, .int (Int.fdiv h3 4000) u3] kC) :: (251, tabObj #[]) :: []) → @_root_.LT.lt Nat instLTNat (Lk + 1 + 1 + 1) D := fun h => allLt_lt h (Lk + 1 + 1 + 1, ol) (by k_mem)
  have l9 : 0 ≤ Int.fmod h4 2000 := fm_lo h4 (by decide)
  have u9 : Int.fmod h4 2000 < 2000 := fm_hi h4 (by decide)
  have R0 := row_ok _ h0 l9 u9
  have R1 := row_ok _ h1 l9 u9
  have R2 := row_ok _ h2 l9 u9
  have R3 := row_ok _ h3 l9 u9
  refine law_b rfl B FD X (by k_extra "mine news") T rfl hcl (by k_extra "mine has") CH h251 (L4 aDr) (L4 ac0) (L4 ac1) (L4 ac2) (L4 ac3) R0.1 R0.2.1 R0.2.2 R1.1 R1.2.1 R1.2.2 R2.1 R2.2.1 R2.2.2 R3.1 R3.2.1 R3.2.2 fun h' tk' nx tb m' F' N' hb' => ?_
  exact hret h' tk' nx tb m' F' N' hb'
end
end Mine
open Mine
theorem Mine.lay_end : True := by
  k_with_none
  k_with "om" => first | (with_reducible assumption) | (with_reducible exact Nat.zero_le _) | (with_reducible exact Int.natCast_nonneg _) | exact room_of (by assumption) (by first | assumption | exact rfl) rfl | ((repeat (rename And _ _ => h7; clear h7)); (try clear hdp); (try clear hu); (try clear dA1); (try clear uA1); (try clear hln); (try clear hlu); omega) | omega
  k_with "mine has" => first | exact Has.nil | (refine Has.cons ?_ ?_; rfl; k_extra "mine has")
  trivial
theorem PySem.Challenge.cw_kl0301_01_holds : PySem.Challenge.rw_kl0301_01.Holds := by
  w_on
  refine holds_law said fun said9 => ?_
  refine holds_open (q := V) (loose := LO) (Xt := fun s => xlAt V [] s && recOk (RowW.records PySem.Challenge.rw_kl0301_01.row.toRowW) s) (XP := XL V []) (Yf := (kmHook K AS as_K [251]).obs) (Ya := (kmHook K AS as_K [251]).val) (YP := (kmHook K AS as_K [251]).says) (N := 5776) left (kmHook K AS as_K [251]).of (kmHook K AS as_K [251]).keeps (fun s e => xl_of s (Bool.and_eq_true_iff.mp e).1) XL.keeps (by rfl) (by rfl) (by rfl) (fun s e => recFacts_of (Bool.and_eq_true_iff.mp e).2) (by rfl) (by assumption) (by decide +kernel) ⟨rfl, rfl, rfl, rfl, rfl, by decide +kernel⟩ ?hw ?hc
  case hw => w_witness2
  clear said9
  k_fill
  intro w s₀ s₁ mg mb G Y fa o pm cd doc dV kV ho hd hcd hD hmg hg args vals as hpre hlay hrd hwl hlo
  have KX := km_in_of Y
  km_tabs Y
  have X := (Ground.X G).1
  have V := (Ground.X G).2
  refine Ground.open G ?_
  intro T B D TE TW
  try (refine guard_noD D (by decide +kernel) ?_; clear D)
  km_lay T hmg ho hd cd
  clear hmg
  wrow_args hpre hlay hrd hwl hlo
  all_goals (
    first | refine callC_kw (enter_call ?_) | refine enter_call ?_
    w_top on
    kn_posts
    w_call any ho hd hcd hD T F
    clear hd
    kn_ghosts F T
    k_drop
    skip)
  rename_i ol ob oc hl hb hc hX0 hX hT hB hF hN h0
  have hT9 : Top topProg LL (ExcName.means s₀.heap) mg mb (ghostOf s₁.heap [(255, 251)]) := by
    have key : ∀ {l : List Str}, LL = l → Top topProg l (ExcName.means s₀.heap) mg mb (ghostOf s₁.heap [(255, 251)]) → Top topProg LL (ExcName.means s₀.heap) mg mb (ghostOf s₁.heap [(255, 251)]) := fun h t => h ▸ t
    exact key (by kernel_rfl) hT
  refine law_all rfl hB hF hX hN hT9 rfl ⟨_, hl⟩ ⟨_, hb⟩ ⟨_, hc⟩ (by k_extra "mine has") lifted (by assumption) (by k_extra "om") codeHd h0 fun h' tk' nx tb m' F2 N2 hm => ?_
  exact ⟨⟨.inl ⟨.bool true, .bool true, [], rfl, fun _ => rfl, .bool true, (by wrow_post), fun _ => ⟨List.nodup_nil, fun _ h => by cases h⟩⟩, F2.keep, rfl, hg⟩, GrownAt.of N2 hm, True.intro⟩
