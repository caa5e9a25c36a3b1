import PyProof.Rows.All
import Wide.All
import OpenK.AllK
import Wide.FinOn
import PySem.Challenge.RW_tl0055_01
set_option Elab.async false
set_option maxRecDepth 100000
set_option rowWalk.seconds 0
set_option maxHeartbeats 16000000
namespace Mine
open PySem PySem.W PySem.Spec PySem.Calls PyProof.Rows
/-! the written part: the objects that the program's top has laid, as text (printed by wip/KGen.lean from the machine's own run; a def's parameters, body and scope are not written here but taken from the program by the statement's place) -/
def nth (b : List Stmt) (i : Nat) : Option Stmt := b[i]?
def inn : Option Stmt → List Stmt
  | some (.ClassDef _ _ _ b _ _ _ _ _ _ _) => b
  | some (.FunctionDef _ _ b _ _ _ _ _ _ _) => b
  | _ => []
def pwB : List Stmt := PySem.Challenge.pw_tl0055_01.main.body
abbrev mkF (nm q : Str) (st : Option Stmt) {n : Str} {ps : Arguments} {b : List Stmt} {ds : List Expr} {rt : Option Expr} {tp : List TypeParam} {sc : Scope} {ts : Option Scope} {bi : Str} {pos : Pos} (_h : st = some (.FunctionDef n ps b ds rt tp sc ts bi pos))
    (g : Addr) (cl : List (Str × Addr)) (d k doc pm : Value) (an : Option Addr) (co ct : Value) (bu : Addr) : FuncData := ⟨nm, q, ps, .stmts b, sc, g, cl, d, k, doc, pm, an, co, ct, bu⟩
noncomputable def Kf : Params → Frag := fun P =>
  (nat_lit 2, (Obj.mk Value.none none (Data.dict #[(DictEntry.mk (PyData.keyHash P (Str.ofString "\x69mport.loaded._sre")) (Value.str (Str.ofString "\x69mport.loaded._sre") 183) (Value.bool Bool.true)), (DictEntry.mk (PyData.keyHash P (Str.ofString "class._frozen_\x69mportlib.BuiltinImporter")) (Value.str (Str.ofString "class._frozen_\x69mportlib.BuiltinImporter") 185) (Value.ref 14)), (DictEntry.mk (PyData.keyHash P (Str.ofString "watched.\x69mport")) (Value.str (Str.ofString "watched.\x69mport") 206) (Value.ref 18)), (DictEntry.mk (PyData.keyHash P (Str.ofString "class._frozen_\x69mportlib.ModuleSpec")) (Value.str (Str.ofString "class._frozen_\x69mportlib.ModuleSpec") 216) (Value.ref 22)), (DictEntry.mk (PyData.keyHash P (Str.ofString "sys.modules.booked-epoch")) (Value.str (Str.ofString "sys.modules.booked-epoch") 245) (Value.int 3 0)), (DictEntry.mk (PyData.keyHash P (Str.ofString "\x69mport.later-laid._sre")) (Value.str (Str.ofString "\x69mport.later-laid._sre") 270) (Value.bool Bool.true)), (DictEntry.mk (PyData.keyHash P (Str.ofString "watched.library")) (Value.str (Str.ofString "watched.library") 272) (Value.ref 27)), (DictEntry.mk (PyData.keyHash P (Str.ofString "watched.library-objects")) (Value.str (Str.ofString "watched.library-objects") 0) (Value.str (Str.ofString "\x0c") 0)), (DictEntry.mk (PyData.keyHash P (Str.ofString "watched.library-deep._sre")) (Value.str (Str.ofString "watched.library-deep._sre") 273) (Value.str (Str.ofString "\x04\x00\x00\x0b\x04\x00\x00\x0b\x04\x00\x00\x03\x04\x00\x00\x0b\x08\x04dict\x02") 0))] 9) #[])) ::
  (nat_lit 3, (Obj.mk (Value.type "dict") none (Data.dict #[(DictEntry.mk (PyData.keyHash P (Str.ofString "__name__")) (Value.str (Str.ofString "__name__") 165) (Value.str (Str.ofString "law_tl0055_01") 657)), (DictEntry.mk (PyData.keyHash P (Str.ofString "__doc__")) (Value.str (Str.ofString "__doc__") 166) Value.none), (DictEntry.mk (PyData.keyHash P (Str.ofString "__package__")) (Value.str (Str.ofString "__package__") 167) Value.none), (DictEntry.mk (PyData.keyHash P (Str.ofString "__loader__")) (Value.str (Str.ofString "__loader__") 168) (Value.builtin "__main__.__loader__#opaque")), (DictEntry.mk (PyData.keyHash P (Str.ofString "__spec__")) (Value.str (Str.ofString "__spec__") 169) Value.none), (DictEntry.mk (PyData.keyHash P (Str.ofString "__annotations__")) (Value.str (Str.ofString "__annotations__") 170) (Value.ref 6)), (DictEntry.mk (PyData.keyHash P (Str.ofString "__builtins__")) (Value.str (Str.ofString "__builtins__") 171) (Value.ref 4)), (DictEntry.mk (PyData.keyHash P (Str.ofString "__file__")) (Value.str (Str.ofString "__file__") 173) (Value.str (Str.ofString "/claim/cut.py") 172)), (DictEntry.mk (PyData.keyHash P (Str.ofString "__cached__")) (Value.str (Str.ofString "__cached__") 174) Value.none), (DictEntry.mk (PyData.keyHash P (Str.ofString "_sre")) (Value.str (Str.ofString "_sre") 275) (Value.ref 12)), (DictEntry.mk (PyData.keyHash P (Str.ofString "_wall")) (Value.str (Str.ofString "_wall") 288) (Value.ref 38)), (DictEntry.mk (PyData.keyHash P (Str.ofString "_name_disallowed_re")) (Value.str (Str.ofString "_name_disallowed_re") 316) (Value.ref 43)), (DictEntry.mk (PyData.keyHash P (Str.ofString "_value_disallowed_re")) (Value.str (Str.ofString "_value_disallowed_re") 350) (Value.ref 48)), (DictEntry.mk (PyData.keyHash P (Str.ofString "Headers")) (Value.str (Str.ofString "Headers") 507) (Value.ref 171)), (DictEntry.mk (PyData.keyHash P (Str.ofString "CHAR_MAX")) (Value.str (Str.ofString "CHAR_MAX") 511) (Value.int 127 510)), (DictEntry.mk (PyData.keyHash P (Str.ofString "_grouping_intervals")) (Value.str (Str.ofString "_grouping_intervals") 520) (Value.ref 182)), (DictEntry.mk (PyData.keyHash P (Str.ofString "add")) (Value.str (Str.ofString "add") 530) (Value.ref 189)), (DictEntry.mk (PyData.keyHash P (Str.ofString "mod")) (Value.str (Str.ofString "mod") 538) (Value.ref 196)), (DictEntry.mk (PyData.keyHash P (Str.ofString "mul")) (Value.str (Str.ofString "mul") 546) (Value.ref 203)), (DictEntry.mk (PyData.keyHash P (Str.ofString "sub")) (Value.str (Str.ofString "sub") 554) (Value.ref 210)), (DictEntry.mk (PyData.keyHash P (Str.ofString "contains")) (Value.str (Str.ofString "contains") 562) (Value.ref 217)), (DictEntry.mk (PyData.keyHash P (Str.ofString "Whitespace")) (Value.str (Str.ofString "Whitespace") 656) (Value.ref 279)), (DictEntry.mk (PyData.keyHash P (Str.ofString "_law_ring")) (Value.str (Str.ofString "_law_ring") 665) (Value.ref 290)), (DictEntry.mk (PyData.keyHash P (Str.ofString "_law_units")) (Value.str (Str.ofString "_law_units") 676) (Value.ref 297)), (DictEntry.mk (PyData.keyHash P (Str.ofString "_law_powers")) (Value.str (Str.ofString "_law_powers") 685) (Value.ref 304)), (DictEntry.mk (PyData.keyHash P (Str.ofString "_law_sizes")) (Value.str (Str.ofString "_law_sizes") 691) (Value.ref 309)), (DictEntry.mk (PyData.keyHash P (Str.ofString "_law_marks")) (Value.str (Str.ofString "_law_marks") 701) (Value.ref 316)), (DictEntry.mk (PyData.keyHash P (Str.ofString "_law_word")) (Value.str (Str.ofString "_law_word") 707) (Value.ref 321)), (DictEntry.mk (PyData.keyHash P (Str.ofString "_law_stairs")) (Value.str (Str.ofString "_law_stairs") 713) (Value.ref 326)), (DictEntry.mk (PyData.keyHash P (Str.ofString "_law_book")) (Value.str (Str.ofString "_law_book") 726) (Value.ref 333)), (DictEntry.mk (PyData.keyHash P (Str.ofString "_law_through")) (Value.str (Str.ofString "_law_through") 732) (Value.ref 338)), (DictEntry.mk (PyData.keyHash P (Str.ofString "_law_own")) (Value.str (Str.ofString "_law_own") 738) (Value.ref 343)), (DictEntry.mk (PyData.keyHash P (Str.ofString "law")) (Value.str (Str.ofString "law") 744) (Value.ref 348))] 33) #[])) ::
  (nat_lit 32, (Obj.mk (Value.type "tuple") none (Data.seq #[] 0) #[])) ::
  (nat_lit 34, (Obj.mk (Value.type "tuple") none (Data.seq #[(Value.str (Str.ofString "k") 285)] 0) #[])) ::
  (nat_lit 35, (Obj.mk (Value.type "tuple") none (Data.seq #[] 0) #[])) ::
  (nat_lit 37, (Obj.mk (Value.type "code") none (Data.fields #[(Value.str (Str.ofString "_wall") 282), (Value.str (Str.ofString "_wall") 283), (Value.str (Str.ofString "/claim/cut.py") 284), (Value.int 2 0), (Value.int 1 0), (Value.int 0 0), (Value.int 0 0), (Value.int 3 0), (Value.ref 32), (Value.bool Bool.true), (Value.int 276 0), (Value.ref 33), Value.none, (Value.ref 34), (Value.ref 35), (Value.ref 36), (Value.int 286 0), (Value.int 2 0), (Value.str (Str.ofString "/claim/cut.py") 287)]) #[])) ::
  (nat_lit 38, (Obj.mk (Value.type "function") none (Data.func (mkF (Str.ofString "_wall") (Str.ofString "_wall") (nth (pwB) 1) rfl 3 [] Value.none Value.none Value.none (Value.str (Str.ofString "__main__") 164) none (Value.ref 37) Value.none 0)) #[])) ::
  (nat_lit 42, (Obj.mk (Value.type "tuple") none (Data.seq #[(Value.int 14 0), (Value.int 10 0), (Value.int 4 0), (Value.int 1 0), (Value.int 1 0), (Value.int 22 0), (Value.int 0 0), (Value.int 31 0), (Value.int 16 0), (Value.int 127 0), (Value.int 0 0), (Value.int 13 0), (Value.int 7 0), (Value.int 22 0), (Value.int 0 0), (Value.int 31 0), (Value.int 16 0), (Value.int 127 0), (Value.int 0 0), (Value.int 1 0)] 0) #[])) ::
  (nat_lit 43, (Obj.mk (Value.type "re.Pattern") none (Data.fields #[(Value.str (Str.ofString "[\\x00-\\x1F\\x7F]") 292), (Value.int 32 315), (Value.int 0 0), Value.none, Value.none, (Value.ref 42), (Value.int 0 0)]) #[])) ::
  (nat_lit 47, (Obj.mk (Value.type "tuple") none (Data.seq #[(Value.int 14 0), (Value.int 14 0), (Value.int 4 0), (Value.int 1 0), (Value.int 1 0), (Value.int 9 0), (Value.int 4294966783 0), (Value.int 0 0), (Value.int 0 0), (Value.int 2147483648 0), (Value.int 0 0), (Value.int 0 0), (Value.int 0 0), (Value.int 0 0), (Value.int 0 0), (Value.int 13 0), (Value.int 11 0), (Value.int 9 0), (Value.int 4294966783 0), (Value.int 0 0), (Value.int 0 0), (Value.int 2147483648 0), (Value.int 0 0), (Value.int 0 0), (Value.int 0 0), (Value.int 0 0), (Value.int 0 0), (Value.int 1 0)] 0) #[])) ::
  (nat_lit 48, (Obj.mk (Value.type "re.Pattern") none (Data.fields #[(Value.str (Str.ofString "[\\x00-\\x08\\x0A-\\x1F\\x7F]") 318), (Value.int 32 349), (Value.int 0 0), Value.none, Value.none, (Value.ref 47), (Value.int 0 0)]) #[])) ::
  (nat_lit 56, (Obj.mk (Value.type "tuple") none (Data.seq #[Value.none] 0) #[])) ::
  (nat_lit 57, (Obj.mk (Value.type "tuple") none (Data.seq #[] 0) #[])) ::
  (nat_lit 59, (Obj.mk (Value.type "tuple") none (Data.seq #[(Value.str (Str.ofString "self") 366), (Value.str (Str.ofString "headers") 367), (Value.str (Str.ofString "k") 368), (Value.str (Str.ofString "v") 369)] 0) #[])) ::
  (nat_lit 60, (Obj.mk (Value.type "tuple") none (Data.seq #[] 0) #[])) ::
  (nat_lit 62, (Obj.mk (Value.type "code") none (Data.fields #[(Value.str (Str.ofString "__init__") 363), (Value.str (Str.ofString "Headers.__init__") 364), (Value.str (Str.ofString "/claim/cut.py") 365), (Value.int 10 0), (Value.int 2 0), (Value.int 0 0), (Value.int 0 0), (Value.int 3 0), (Value.ref 57), (Value.bool Bool.true), (Value.int 276 0), (Value.ref 58), Value.none, (Value.ref 59), (Value.ref 60), (Value.ref 61), (Value.int 370 0), (Value.int 10 0), (Value.str (Str.ofString "/claim/cut.py") 371)]) #[])) ::
  (nat_lit 63, (Obj.mk (Value.type "function") none (Data.func (mkF (Str.ofString "__init__") (Str.ofString "Headers.__init__") (nth (inn (nth (pwB) 5)) 0) rfl 3 [] (Value.ref 56) Value.none Value.none (Value.str (Str.ofString "cpy313.wsgiref.headers") 289) none (Value.ref 62) Value.none 0)) #[])) ::
  (nat_lit 64, (Obj.mk (Value.type "tuple") none (Data.seq #[] 0) #[])) ::
  (nat_lit 66, (Obj.mk (Value.type "tuple") none (Data.seq #[(Value.str (Str.ofString "self") 376), (Value.str (Str.ofString "value") 377), (Value.str (Str.ofString "name") 378), (Value.str (Str.ofString "regex") 379)] 0) #[])) ::
  (nat_lit 67, (Obj.mk (Value.type "tuple") none (Data.seq #[] 0) #[])) ::
  (nat_lit 69, (Obj.mk (Value.type "code") none (Data.fields #[(Value.str (Str.ofString "_convert_string_type") 373), (Value.str (Str.ofString "Headers._convert_string_type") 374), (Value.str (Str.ofString "/claim/cut.py") 375), (Value.int 20 0), (Value.int 2 0), (Value.int 0 0), (Value.int 1 0), (Value.int 3 0), (Value.ref 64), (Value.bool Bool.true), (Value.int 276 0), (Value.ref 65), Value.none, (Value.ref 66), (Value.ref 67), (Value.ref 68), (Value.int 380 0), (Value.int 20 0), (Value.str (Str.ofString "/claim/cut.py") 381)]) #[])) ::
  (nat_lit 70, (Obj.mk (Value.type "function") none (Data.func (mkF (Str.ofString "_convert_string_type") (Str.ofString "Headers._convert_string_type") (nth (inn (nth (pwB) 5)) 1) rfl 3 [] Value.none Value.none Value.none (Value.str (Str.ofString "cpy313.wsgiref.headers") 289) none (Value.ref 69) Value.none 0)) #[])) ::
  (nat_lit 71, (Obj.mk (Value.type "tuple") none (Data.seq #[] 0) #[])) ::
  (nat_lit 73, (Obj.mk (Value.type "tuple") none (Data.seq #[(Value.str (Str.ofString "self") 386)] 0) #[])) ::
  (nat_lit 74, (Obj.mk (Value.type "tuple") none (Data.seq #[] 0) #[])) ::
  (nat_lit 76, (Obj.mk (Value.type "code") none (Data.fields #[(Value.str (Str.ofString "__len__") 383), (Value.str (Str.ofString "Headers.__len__") 384), (Value.str (Str.ofString "/claim/cut.py") 385), (Value.int 28 0), (Value.int 1 0), (Value.int 0 0), (Value.int 0 0), (Value.int 3 0), (Value.ref 71), (Value.bool Bool.true), (Value.int 276 0), (Value.ref 72), Value.none, (Value.ref 73), (Value.ref 74), (Value.ref 75), (Value.int 387 0), (Value.int 28 0), (Value.str (Str.ofString "/claim/cut.py") 388)]) #[])) ::
  (nat_lit 77, (Obj.mk (Value.type "function") none (Data.func (mkF (Str.ofString "__len__") (Str.ofString "Headers.__len__") (nth (inn (nth (pwB) 5)) 2) rfl 3 [] Value.none Value.none Value.none (Value.str (Str.ofString "cpy313.wsgiref.headers") 289) none (Value.ref 76) Value.none 0)) #[])) ::
  (nat_lit 78, (Obj.mk (Value.type "tuple") none (Data.seq #[] 0) #[])) ::
  (nat_lit 80, (Obj.mk (Value.type "tuple") none (Data.seq #[(Value.str (Str.ofString "self") 393), (Value.str (Str.ofString "name") 394), (Value.str (Str.ofString "val") 395)] 0) #[])) ::
  (nat_lit 81, (Obj.mk (Value.type "tuple") none (Data.seq #[] 0) #[])) ::
  (nat_lit 83, (Obj.mk (Value.type "code") none (Data.fields #[(Value.str (Str.ofString "__setitem__") 390), (Value.str (Str.ofString "Headers.__setitem__") 391), (Value.str (Str.ofString "/claim/cut.py") 392), (Value.int 31 0), (Value.int 3 0), (Value.int 0 0), (Value.int 0 0), (Value.int 3 0), (Value.ref 78), (Value.bool Bool.true), (Value.int 276 0), (Value.ref 79), Value.none, (Value.ref 80), (Value.ref 81), (Value.ref 82), (Value.int 396 0), (Value.int 31 0), (Value.str (Str.ofString "/claim/cut.py") 397)]) #[])) ::
  (nat_lit 84, (Obj.mk (Value.type "function") none (Data.func (mkF (Str.ofString "__setitem__") (Str.ofString "Headers.__setitem__") (nth (inn (nth (pwB) 5)) 3) rfl 3 [] Value.none Value.none Value.none (Value.str (Str.ofString "cpy313.wsgiref.headers") 289) none (Value.ref 83) Value.none 0)) #[])) ::
  (nat_lit 85, (Obj.mk (Value.type "tuple") none (Data.seq #[] 0) #[])) ::
  (nat_lit 88, (Obj.mk (Value.type "code") none (Data.fields #[(Value.str (Str.ofString "__delitem__") 399), (Value.str (Str.ofString "Headers.__delitem__") 400), (Value.str (Str.ofString "/claim/cut.py") 401), (Value.int 35 0), (Value.int 2 0), (Value.int 0 0), (Value.int 0 0), (Value.int 3 0), (Value.ref 85), (Value.bool Bool.true), (Value.int 276 0), (Value.ref 86), Value.none, Value.none, Value.none, (Value.ref 87), (Value.int 402 0), (Value.int 35 0), (Value.str (Str.ofString "/claim/cut.py") 403)]) #[])) ::
  (nat_lit 89, (Obj.mk (Value.type "function") none (Data.func (mkF (Str.ofString "__delitem__") (Str.ofString "Headers.__delitem__") (nth (inn (nth (pwB) 5)) 4) rfl 3 [] Value.none Value.none Value.none (Value.str (Str.ofString "cpy313.wsgiref.headers") 289) none (Value.ref 88) Value.none 0)) #[])) ::
  (nat_lit 90, (Obj.mk (Value.type "tuple") none (Data.seq #[] 0) #[])) ::
  (nat_lit 92, (Obj.mk (Value.type "tuple") none (Data.seq #[(Value.str (Str.ofString "self") 408), (Value.str (Str.ofString "name") 409)] 0) #[])) ::
  (nat_lit 93, (Obj.mk (Value.type "tuple") none (Data.seq #[] 0) #[])) ::
  (nat_lit 95, (Obj.mk (Value.type "code") none (Data.fields #[(Value.str (Str.ofString "__getitem__") 405), (Value.str (Str.ofString "Headers.__getitem__") 406), (Value.str (Str.ofString "/claim/cut.py") 407), (Value.int 39 0), (Value.int 2 0), (Value.int 0 0), (Value.int 0 0), (Value.int 3 0), (Value.ref 90), (Value.bool Bool.true), (Value.int 276 0), (Value.ref 91), Value.none, (Value.ref 92), (Value.ref 93), (Value.ref 94), (Value.int 410 0), (Value.int 39 0), (Value.str (Str.ofString "/claim/cut.py") 411)]) #[])) ::
  (nat_lit 96, (Obj.mk (Value.type "function") none (Data.func (mkF (Str.ofString "__getitem__") (Str.ofString "Headers.__getitem__") (nth (inn (nth (pwB) 5)) 5) rfl 3 [] Value.none Value.none Value.none (Value.str (Str.ofString "cpy313.wsgiref.headers") 289) none (Value.ref 95) Value.none 0)) #[])) ::
  (nat_lit 97, (Obj.mk (Value.type "tuple") none (Data.seq #[] 0) #[])) ::
  (nat_lit 99, (Obj.mk (Value.type "tuple") none (Data.seq #[(Value.str (Str.ofString "self") 416), (Value.str (Str.ofString "name") 417)] 0) #[])) ::
  (nat_lit 100, (Obj.mk (Value.type "tuple") none (Data.seq #[] 0) #[])) ::
  (nat_lit 102, (Obj.mk (Value.type "code") none (Data.fields #[(Value.str (Str.ofString "__contains__") 413), (Value.str (Str.ofString "Headers.__contains__") 414), (Value.str (Str.ofString "/claim/cut.py") 415), (Value.int 42 0), (Value.int 2 0), (Value.int 0 0), (Value.int 0 0), (Value.int 3 0), (Value.ref 97), (Value.bool Bool.true), (Value.int 276 0), (Value.ref 98), Value.none, (Value.ref 99), (Value.ref 100), (Value.ref 101), (Value.int 418 0), (Value.int 42 0), (Value.str (Str.ofString "/claim/cut.py") 419)]) #[])) ::
  (nat_lit 103, (Obj.mk (Value.type "function") none (Data.func (mkF (Str.ofString "__contains__") (Str.ofString "Headers.__contains__") (nth (inn (nth (pwB) 5)) 6) rfl 3 [] Value.none Value.none Value.none (Value.str (Str.ofString "cpy313.wsgiref.headers") 289) none (Value.ref 102) Value.none 0)) #[])) ::
  (nat_lit 104, (Obj.mk (Value.type "tuple") none (Data.seq #[] 0) #[])) ::
  (nat_lit 106, (Obj.mk (Value.type "tuple") none (Data.seq #[(Value.str (Str.ofString "self") 424), (Value.str (Str.ofString "name") 425)] 0) #[])) ::
  (nat_lit 107, (Obj.mk (Value.type "tuple") none (Data.seq #[] 0) #[])) ::
  (nat_lit 109, (Obj.mk (Value.type "code") none (Data.fields #[(Value.str (Str.ofString "get_all") 421), (Value.str (Str.ofString "Headers.get_all") 422), (Value.str (Str.ofString "/claim/cut.py") 423), (Value.int 45 0), (Value.int 2 0), (Value.int 0 0), (Value.int 0 0), (Value.int 3 0), (Value.ref 104), (Value.bool Bool.true), (Value.int 276 0), (Value.ref 105), Value.none, (Value.ref 106), (Value.ref 107), (Value.ref 108), (Value.int 426 0), (Value.int 45 0), (Value.str (Str.ofString "/claim/cut.py") 427)]) #[])) ::
  (nat_lit 110, (Obj.mk (Value.type "function") none (Data.func (mkF (Str.ofString "get_all") (Str.ofString "Headers.get_all") (nth (inn (nth (pwB) 5)) 7) rfl 3 [] Value.none Value.none Value.none (Value.str (Str.ofString "cpy313.wsgiref.headers") 289) none (Value.ref 109) Value.none 0)) #[])) ::
  (nat_lit 111, (Obj.mk (Value.type "tuple") none (Data.seq #[Value.none] 0) #[])) ::
  (nat_lit 112, (Obj.mk (Value.type "tuple") none (Data.seq #[] 0) #[])) ::
  (nat_lit 114, (Obj.mk (Value.type "tuple") none (Data.seq #[(Value.str (Str.ofString "self") 432), (Value.str (Str.ofString "name") 433), (Value.str (Str.ofString "default") 434), (Value.str (Str.ofString "k") 435), (Value.str (Str.ofString "v") 436)] 0) #[])) ::
  (nat_lit 115, (Obj.mk (Value.type "tuple") none (Data.seq #[] 0) #[])) ::
  (nat_lit 117, (Obj.mk (Value.type "code") none (Data.fields #[(Value.str (Str.ofString "get") 429), (Value.str (Str.ofString "Headers.get") 430), (Value.str (Str.ofString "/claim/cut.py") 431), (Value.int 48 0), (Value.int 3 0), (Value.int 0 0), (Value.int 0 0), (Value.int 3 0), (Value.ref 112), (Value.bool Bool.true), (Value.int 276 0), (Value.ref 113), Value.none, (Value.ref 114), (Value.ref 115), (Value.ref 116), (Value.int 437 0), (Value.int 48 0), (Value.str (Str.ofString "/claim/cut.py") 438)]) #[])) ::
  (nat_lit 118, (Obj.mk (Value.type "function") none (Data.func (mkF (Str.ofString "get") (Str.ofString "Headers.get") (nth (inn (nth (pwB) 5)) 8) rfl 3 [] (Value.ref 111) Value.none Value.none (Value.str (Str.ofString "cpy313.wsgiref.headers") 289) none (Value.ref 117) Value.none 0)) #[])) ::
  (nat_lit 119, (Obj.mk (Value.type "tuple") none (Data.seq #[] 0) #[])) ::
  (nat_lit 122, (Obj.mk (Value.type "code") none (Data.fields #[(Value.str (Str.ofString "keys") 440), (Value.str (Str.ofString "Headers.keys") 441), (Value.str (Str.ofString "/claim/cut.py") 442), (Value.int 55 0), (Value.int 1 0), (Value.int 0 0), (Value.int 0 0), (Value.int 3 0), (Value.ref 119), (Value.bool Bool.true), (Value.int 276 0), (Value.ref 120), Value.none, Value.none, Value.none, (Value.ref 121), (Value.int 443 0), (Value.int 55 0), (Value.str (Str.ofString "/claim/cut.py") 444)]) #[])) ::
  (nat_lit 123, (Obj.mk (Value.type "function") none (Data.func (mkF (Str.ofString "keys") (Str.ofString "Headers.keys") (nth (inn (nth (pwB) 5)) 9) rfl 3 [] Value.none Value.none Value.none (Value.str (Str.ofString "cpy313.wsgiref.headers") 289) none (Value.ref 122) Value.none 0)) #[])) ::
  (nat_lit 124, (Obj.mk (Value.type "tuple") none (Data.seq #[] 0) #[])) ::
  (nat_lit 127, (Obj.mk (Value.type "code") none (Data.fields #[(Value.str (Str.ofString "values") 446), (Value.str (Str.ofString "Headers.values") 447), (Value.str (Str.ofString "/claim/cut.py") 448), (Value.int 58 0), (Value.int 1 0), (Value.int 0 0), (Value.int 0 0), (Value.int 3 0), (Value.ref 124), (Value.bool Bool.true), (Value.int 276 0), (Value.ref 125), Value.none, Value.none, Value.none, (Value.ref 126), (Value.int 449 0), (Value.int 58 0), (Value.str (Str.ofString "/claim/cut.py") 450)]) #[])) ::
  (nat_lit 128, (Obj.mk (Value.type "function") none (Data.func (mkF (Str.ofString "values") (Str.ofString "Headers.values") (nth (inn (nth (pwB) 5)) 10) rfl 3 [] Value.none Value.none Value.none (Value.str (Str.ofString "cpy313.wsgiref.headers") 289) none (Value.ref 127) Value.none 0)) #[])) ::
  (nat_lit 129, (Obj.mk (Value.type "tuple") none (Data.seq #[] 0) #[])) ::
  (nat_lit 131, (Obj.mk (Value.type "tuple") none (Data.seq #[(Value.str (Str.ofString "self") 455)] 0) #[])) ::
  (nat_lit 132, (Obj.mk (Value.type "tuple") none (Data.seq #[] 0) #[])) ::
  (nat_lit 134, (Obj.mk (Value.type "code") none (Data.fields #[(Value.str (Str.ofString "items") 452), (Value.str (Str.ofString "Headers.items") 453), (Value.str (Str.ofString "/claim/cut.py") 454), (Value.int 61 0), (Value.int 1 0), (Value.int 0 0), (Value.int 0 0), (Value.int 3 0), (Value.ref 129), (Value.bool Bool.true), (Value.int 276 0), (Value.ref 130), Value.none, (Value.ref 131), (Value.ref 132), (Value.ref 133), (Value.int 456 0), (Value.int 61 0), (Value.str (Str.ofString "/claim/cut.py") 457)]) #[])) ::
  (nat_lit 135, (Obj.mk (Value.type "function") none (Data.func (mkF (Str.ofString "items") (Str.ofString "Headers.items") (nth (inn (nth (pwB) 5)) 11) rfl 3 [] Value.none Value.none Value.none (Value.str (Str.ofString "cpy313.wsgiref.headers") 289) none (Value.ref 134) Value.none 0)) #[])) ::
  (nat_lit 136, (Obj.mk (Value.type "tuple") none (Data.seq #[] 0) #[])) ::
  (nat_lit 138, (Obj.mk (Value.type "tuple") none (Data.seq #[(Value.str (Str.ofString "self") 462)] 0) #[])) ::
  (nat_lit 139, (Obj.mk (Value.type "tuple") none (Data.seq #[] 0) #[])) ::
  (nat_lit 141, (Obj.mk (Value.type "code") none (Data.fields #[(Value.str (Str.ofString "__repr__") 459), (Value.str (Str.ofString "Headers.__repr__") 460), (Value.str (Str.ofString "/claim/cut.py") 461), (Value.int 64 0), (Value.int 1 0), (Value.int 0 0), (Value.int 0 0), (Value.int 3 0), (Value.ref 136), (Value.bool Bool.true), (Value.int 276 0), (Value.ref 137), Value.none, (Value.ref 138), (Value.ref 139), (Value.ref 140), (Value.int 463 0), (Value.int 64 0), (Value.str (Str.ofString "/claim/cut.py") 464)]) #[])) ::
  (nat_lit 142, (Obj.mk (Value.type "function") none (Data.func (mkF (Str.ofString "__repr__") (Str.ofString "Headers.__repr__") (nth (inn (nth (pwB) 5)) 12) rfl 3 [] Value.none Value.none Value.none (Value.str (Str.ofString "cpy313.wsgiref.headers") 289) none (Value.ref 141) Value.none 0)) #[])) ::
  (nat_lit 143, (Obj.mk (Value.type "tuple") none (Data.seq #[] 0) #[])) ::
  (nat_lit 146, (Obj.mk (Value.type "code") none (Data.fields #[(Value.str (Str.ofString "__str__") 466), (Value.str (Str.ofString "Headers.__str__") 467), (Value.str (Str.ofString "/claim/cut.py") 468), (Value.int 67 0), (Value.int 1 0), (Value.int 0 0), (Value.int 0 0), (Value.int 3 0), (Value.ref 143), (Value.bool Bool.true), (Value.int 276 0), (Value.ref 144), Value.none, Value.none, Value.none, (Value.ref 145), (Value.int 469 0), (Value.int 67 0), (Value.str (Str.ofString "/claim/cut.py") 470)]) #[])) ::
  (nat_lit 147, (Obj.mk (Value.type "function") none (Data.func (mkF (Str.ofString "__str__") (Str.ofString "Headers.__str__") (nth (inn (nth (pwB) 5)) 13) rfl 3 [] Value.none Value.none Value.none (Value.str (Str.ofString "cpy313.wsgiref.headers") 289) none (Value.ref 146) Value.none 0)) #[])) ::
  (nat_lit 148, (Obj.mk (Value.type "tuple") none (Data.seq #[] 0) #[])) ::
  (nat_lit 150, (Obj.mk (Value.type "tuple") none (Data.seq #[(Value.str (Str.ofString "self") 475)] 0) #[])) ::
  (nat_lit 151, (Obj.mk (Value.type "tuple") none (Data.seq #[] 0) #[])) ::
  (nat_lit 153, (Obj.mk (Value.type "code") none (Data.fields #[(Value.str (Str.ofString "__bytes__") 472), (Value.str (Str.ofString "Headers.__bytes__") 473), (Value.str (Str.ofString "/claim/cut.py") 474), (Value.int 70 0), (Value.int 1 0), (Value.int 0 0), (Value.int 0 0), (Value.int 3 0), (Value.ref 148), (Value.bool Bool.true), (Value.int 276 0), (Value.ref 149), Value.none, (Value.ref 150), (Value.ref 151), (Value.ref 152), (Value.int 476 0), (Value.int 70 0), (Value.str (Str.ofString "/claim/cut.py") 477)]) #[])) ::
  (nat_lit 154, (Obj.mk (Value.type "function") none (Data.func (mkF (Str.ofString "__bytes__") (Str.ofString "Headers.__bytes__") (nth (inn (nth (pwB) 5)) 14) rfl 3 [] Value.none Value.none Value.none (Value.str (Str.ofString "cpy313.wsgiref.headers") 289) none (Value.ref 153) Value.none 0)) #[])) ::
  (nat_lit 155, (Obj.mk (Value.type "tuple") none (Data.seq #[] 0) #[])) ::
  (nat_lit 157, (Obj.mk (Value.type "tuple") none (Data.seq #[(Value.str (Str.ofString "self") 482), (Value.str (Str.ofString "name") 483), (Value.str (Str.ofString "value") 484), (Value.str (Str.ofString "result") 485)] 0) #[])) ::
  (nat_lit 158, (Obj.mk (Value.type "tuple") none (Data.seq #[] 0) #[])) ::
  (nat_lit 160, (Obj.mk (Value.type "code") none (Data.fields #[(Value.str (Str.ofString "setdefault") 479), (Value.str (Str.ofString "Headers.setdefault") 480), (Value.str (Str.ofString "/claim/cut.py") 481), (Value.int 73 0), (Value.int 3 0), (Value.int 0 0), (Value.int 0 0), (Value.int 3 0), (Value.ref 155), (Value.bool Bool.true), (Value.int 276 0), (Value.ref 156), Value.none, (Value.ref 157), (Value.ref 158), (Value.ref 159), (Value.int 486 0), (Value.int 73 0), (Value.str (Str.ofString "/claim/cut.py") 487)]) #[])) ::
  (nat_lit 161, (Obj.mk (Value.type "function") none (Data.func (mkF (Str.ofString "setdefault") (Str.ofString "Headers.setdefault") (nth (inn (nth (pwB) 5)) 15) rfl 3 [] Value.none Value.none Value.none (Value.str (Str.ofString "cpy313.wsgiref.headers") 289) none (Value.ref 160) Value.none 0)) #[])) ::
  (nat_lit 162, (Obj.mk (Value.type "tuple") none (Data.seq #[] 0) #[])) ::
  (nat_lit 164, (Obj.mk (Value.type "tuple") none (Data.seq #[(Value.str (Str.ofString "self") 492), (Value.str (Str.ofString "_name") 493), (Value.str (Str.ofString "_value") 494), (Value.str (Str.ofString "_params") 495)] 0) #[])) ::
  (nat_lit 165, (Obj.mk (Value.type "tuple") none (Data.seq #[] 0) #[])) ::
  (nat_lit 167, (Obj.mk (Value.type "code") none (Data.fields #[(Value.str (Str.ofString "add_header") 489), (Value.str (Str.ofString "Headers.add_header") 490), (Value.str (Str.ofString "/claim/cut.py") 491), (Value.int 81 0), (Value.int 3 0), (Value.int 0 0), (Value.int 0 0), (Value.int 11 0), (Value.ref 162), (Value.bool Bool.true), (Value.int 276 0), (Value.ref 163), Value.none, (Value.ref 164), (Value.ref 165), (Value.ref 166), (Value.int 496 0), (Value.int 81 0), (Value.str (Str.ofString "/claim/cut.py") 497)]) #[])) ::
  (nat_lit 168, (Obj.mk (Value.type "function") none (Data.func (mkF (Str.ofString "add_header") (Str.ofString "Headers.add_header") (nth (inn (nth (pwB) 5)) 16) rfl 3 [] Value.none Value.none Value.none (Value.str (Str.ofString "cpy313.wsgiref.headers") 289) none (Value.ref 167) Value.none 0)) #[])) ::
  (nat_lit 169, (Obj.mk (Value.type "tuple") none (Data.seq #[(Value.str (Str.ofString "_headers") 499)] 0) #[])) ::
  (nat_lit 170, (Obj.mk (Value.type "dict") none (Data.dict #[(DictEntry.mk (PyData.keyHash P (Str.ofString "__module__")) (Value.str (Str.ofString "__module__") 358) (Value.str (Str.ofString "cpy313.wsgiref.headers") 289)), (DictEntry.mk (PyData.keyHash P (Str.ofString "__firstlineno__")) (Value.str (Str.ofString "__firstlineno__") 362) (Value.int 8 361)), (DictEntry.mk (PyData.keyHash P (Str.ofString "__init__")) (Value.str (Str.ofString "__init__") 372) (Value.ref 63)), (DictEntry.mk (PyData.keyHash P (Str.ofString "_convert_string_type")) (Value.str (Str.ofString "_convert_string_type") 382) (Value.ref 70)), (DictEntry.mk (PyData.keyHash P (Str.ofString "__len__")) (Value.str (Str.ofString "__len__") 389) (Value.ref 77)), (DictEntry.mk (PyData.keyHash P (Str.ofString "__setitem__")) (Value.str (Str.ofString "__setitem__") 398) (Value.ref 84)), (DictEntry.mk (PyData.keyHash P (Str.ofString "__delitem__")) (Value.str (Str.ofString "__delitem__") 404) (Value.ref 89)), (DictEntry.mk (PyData.keyHash P (Str.ofString "__getitem__")) (Value.str (Str.ofString "__getitem__") 412) (Value.ref 96)), (DictEntry.mk (PyData.keyHash P (Str.ofString "__contains__")) (Value.str (Str.ofString "__contains__") 420) (Value.ref 103)), (DictEntry.mk (PyData.keyHash P (Str.ofString "get_all")) (Value.str (Str.ofString "get_all") 428) (Value.ref 110)), (DictEntry.mk (PyData.keyHash P (Str.ofString "get")) (Value.str (Str.ofString "get") 439) (Value.ref 118)), (DictEntry.mk (PyData.keyHash P (Str.ofString "keys")) (Value.str (Str.ofString "keys") 445) (Value.ref 123)), (DictEntry.mk (PyData.keyHash P (Str.ofString "values")) (Value.str (Str.ofString "values") 451) (Value.ref 128)), (DictEntry.mk (PyData.keyHash P (Str.ofString "items")) (Value.str (Str.ofString "items") 458) (Value.ref 135)), (DictEntry.mk (PyData.keyHash P (Str.ofString "__repr__")) (Value.str (Str.ofString "__repr__") 465) (Value.ref 142)), (DictEntry.mk (PyData.keyHash P (Str.ofString "__str__")) (Value.str (Str.ofString "__str__") 471) (Value.ref 147)), (DictEntry.mk (PyData.keyHash P (Str.ofString "__bytes__")) (Value.str (Str.ofString "__bytes__") 478) (Value.ref 154)), (DictEntry.mk (PyData.keyHash P (Str.ofString "setdefault")) (Value.str (Str.ofString "setdefault") 488) (Value.ref 161)), (DictEntry.mk (PyData.keyHash P (Str.ofString "add_header")) (Value.str (Str.ofString "add_header") 498) (Value.ref 168)), (DictEntry.mk (PyData.keyHash P (Str.ofString "__static_attributes__")) (Value.str (Str.ofString "__static_attributes__") 500) (Value.ref 169)), (DictEntry.mk (PyData.keyHash P (Str.ofString "__dict__")) (Value.str (Str.ofString "__dict__") 502) (Value.ref 172)), (DictEntry.mk (PyData.keyHash P (Str.ofString "__weakref__")) (Value.str (Str.ofString "__weakref__") 504) (Value.ref 173)), (DictEntry.mk (PyData.keyHash P (Str.ofString "__doc__")) (Value.str (Str.ofString "__doc__") 505) Value.none)] 4) #[])) ::
  (nat_lit 171, (Obj.mk (Value.type "type") none (Data.cls (ClassData.mk (Str.ofString "Headers") [(Value.type "object")] [(Value.ref 171), (Value.type "object")] 170 (Str.ofString "Headers") Bool.true [] [] Bool.false none Bool.false)) #[none, none, (some (Value.str (Str.ofString "Headers") 351)), (some (Value.str (Str.ofString "Headers") 359)), (some (Value.builtin "object.__new__")), (some (Value.bool Bool.true))])) ::
  (nat_lit 172, (Obj.mk (Value.type "getset_descriptor") none (Data.fields #[(Value.str (Str.ofString "__dict__") 501), (Value.ref 171), (Value.builtin "function.__dict__"), (Value.builtin "function.__dict__#set")]) #[])) ::
  (nat_lit 173, (Obj.mk (Value.type "getset_descriptor") none (Data.fields #[(Value.str (Str.ofString "__weakref__") 503), (Value.ref 171), (Value.builtin "ExceptionGroup.__weakref__"), Value.none]) #[])) ::
  (nat_lit 176, (Obj.mk (Value.type "tuple") none (Data.seq #[] 0) #[])) ::
  (nat_lit 178, (Obj.mk (Value.type "tuple") none (Data.seq #[(Value.str (Str.ofString "grouping") 515), (Value.str (Str.ofString "last_interval") 516), (Value.str (Str.ofString "interval") 517)] 0) #[])) ::
  (nat_lit 179, (Obj.mk (Value.type "tuple") none (Data.seq #[] 0) #[])) ::
  (nat_lit 181, (Obj.mk (Value.type "code") none (Data.fields #[(Value.str (Str.ofString "_grouping_intervals") 512), (Value.str (Str.ofString "_grouping_intervals") 513), (Value.str (Str.ofString "/claim/cut.py") 514), (Value.int 85 0), (Value.int 1 0), (Value.int 0 0), (Value.int 0 0), (Value.int 35 0), (Value.ref 176), (Value.bool Bool.true), (Value.int 276 0), (Value.ref 177), Value.none, (Value.ref 178), (Value.ref 179), (Value.ref 180), (Value.int 518 0), (Value.int 85 0), (Value.str (Str.ofString "/claim/cut.py") 519)]) #[])) ::
  (nat_lit 182, (Obj.mk (Value.type "function") none (Data.func (mkF (Str.ofString "_grouping_intervals") (Str.ofString "_grouping_intervals") (nth (pwB) 8) rfl 3 [] Value.none Value.none Value.none (Value.str (Str.ofString "cpy313.locale") 508) none (Value.ref 181) Value.none 0)) #[])) ::
  (nat_lit 183, (Obj.mk (Value.type "tuple") none (Data.seq #[] 0) #[])) ::
  (nat_lit 185, (Obj.mk (Value.type "tuple") none (Data.seq #[(Value.str (Str.ofString "a") 526), (Value.str (Str.ofString "b") 527)] 0) #[])) ::
  (nat_lit 186, (Obj.mk (Value.type "tuple") none (Data.seq #[] 0) #[])) ::
  (nat_lit 188, (Obj.mk (Value.type "code") none (Data.fields #[(Value.str (Str.ofString "add") 523), (Value.str (Str.ofString "add") 524), (Value.str (Str.ofString "/claim/cut.py") 525), (Value.int 98 0), (Value.int 2 0), (Value.int 0 0), (Value.int 0 0), (Value.int 3 0), (Value.ref 183), (Value.bool Bool.true), (Value.int 276 0), (Value.ref 184), Value.none, (Value.ref 185), (Value.ref 186), (Value.ref 187), (Value.int 528 0), (Value.int 98 0), (Value.str (Str.ofString "/claim/cut.py") 529)]) #[])) ::
  (nat_lit 189, (Obj.mk (Value.type "function") none (Data.func (mkF (Str.ofString "add") (Str.ofString "add") (nth (pwB) 10) rfl 3 [] Value.none Value.none Value.none (Value.str (Str.ofString "cpy313.operator") 521) none (Value.ref 188) Value.none 0)) #[])) ::
  (nat_lit 190, (Obj.mk (Value.type "tuple") none (Data.seq #[] 0) #[])) ::
  (nat_lit 192, (Obj.mk (Value.type "tuple") none (Data.seq #[(Value.str (Str.ofString "a") 534), (Value.str (Str.ofString "b") 535)] 0) #[])) ::
  (nat_lit 193, (Obj.mk (Value.type "tuple") none (Data.seq #[] 0) #[])) ::
  (nat_lit 195, (Obj.mk (Value.type "code") none (Data.fields #[(Value.str (Str.ofString "mod") 531), (Value.str (Str.ofString "mod") 532), (Value.str (Str.ofString "/claim/cut.py") 533), (Value.int 100 0), (Value.int 2 0), (Value.int 0 0), (Value.int 0 0), (Value.int 3 0), (Value.ref 190), (Value.bool Bool.true), (Value.int 276 0), (Value.ref 191), Value.none, (Value.ref 192), (Value.ref 193), (Value.ref 194), (Value.int 536 0), (Value.int 100 0), (Value.str (Str.ofString "/claim/cut.py") 537)]) #[])) ::
  (nat_lit 196, (Obj.mk (Value.type "function") none (Data.func (mkF (Str.ofString "mod") (Str.ofString "mod") (nth (pwB) 11) rfl 3 [] Value.none Value.none Value.none (Value.str (Str.ofString "cpy313.operator") 521) none (Value.ref 195) Value.none 0)) #[])) ::
  (nat_lit 197, (Obj.mk (Value.type "tuple") none (Data.seq #[] 0) #[])) ::
  (nat_lit 199, (Obj.mk (Value.type "tuple") none (Data.seq #[(Value.str (Str.ofString "a") 542), (Value.str (Str.ofString "b") 543)] 0) #[])) ::
  (nat_lit 200, (Obj.mk (Value.type "tuple") none (Data.seq #[] 0) #[])) ::
  (nat_lit 202, (Obj.mk (Value.type "code") none (Data.fields #[(Value.str (Str.ofString "mul") 539), (Value.str (Str.ofString "mul") 540), (Value.str (Str.ofString "/claim/cut.py") 541), (Value.int 102 0), (Value.int 2 0), (Value.int 0 0), (Value.int 0 0), (Value.int 3 0), (Value.ref 197), (Value.bool Bool.true), (Value.int 276 0), (Value.ref 198), Value.none, (Value.ref 199), (Value.ref 200), (Value.ref 201), (Value.int 544 0), (Value.int 102 0), (Value.str (Str.ofString "/claim/cut.py") 545)]) #[])) ::
  (nat_lit 203, (Obj.mk (Value.type "function") none (Data.func (mkF (Str.ofString "mul") (Str.ofString "mul") (nth (pwB) 12) rfl 3 [] Value.none Value.none Value.none (Value.str (Str.ofString "cpy313.operator") 521) none (Value.ref 202) Value.none 0)) #[])) ::
  (nat_lit 204, (Obj.mk (Value.type "tuple") none (Data.seq #[] 0) #[])) ::
  (nat_lit 206, (Obj.mk (Value.type "tuple") none (Data.seq #[(Value.str (Str.ofString "a") 550), (Value.str (Str.ofString "b") 551)] 0) #[])) ::
  (nat_lit 207, (Obj.mk (Value.type "tuple") none (Data.seq #[] 0) #[])) ::
  (nat_lit 209, (Obj.mk (Value.type "code") none (Data.fields #[(Value.str (Str.ofString "sub") 547), (Value.str (Str.ofString "sub") 548), (Value.str (Str.ofString "/claim/cut.py") 549), (Value.int 104 0), (Value.int 2 0), (Value.int 0 0), (Value.int 0 0), (Value.int 3 0), (Value.ref 204), (Value.bool Bool.true), (Value.int 276 0), (Value.ref 205), Value.none, (Value.ref 206), (Value.ref 207), (Value.ref 208), (Value.int 552 0), (Value.int 104 0), (Value.str (Str.ofString "/claim/cut.py") 553)]) #[])) ::
  (nat_lit 210, (Obj.mk (Value.type "function") none (Data.func (mkF (Str.ofString "sub") (Str.ofString "sub") (nth (pwB) 13) rfl 3 [] Value.none Value.none Value.none (Value.str (Str.ofString "cpy313.operator") 521) none (Value.ref 209) Value.none 0)) #[])) ::
  (nat_lit 211, (Obj.mk (Value.type "tuple") none (Data.seq #[] 0) #[])) ::
  (nat_lit 213, (Obj.mk (Value.type "tuple") none (Data.seq #[(Value.str (Str.ofString "a") 558), (Value.str (Str.ofString "b") 559)] 0) #[])) ::
  (nat_lit 214, (Obj.mk (Value.type "tuple") none (Data.seq #[] 0) #[])) ::
  (nat_lit 216, (Obj.mk (Value.type "code") none (Data.fields #[(Value.str (Str.ofString "contains") 555), (Value.str (Str.ofString "contains") 556), (Value.str (Str.ofString "/claim/cut.py") 557), (Value.int 106 0), (Value.int 2 0), (Value.int 0 0), (Value.int 0 0), (Value.int 3 0), (Value.ref 211), (Value.bool Bool.true), (Value.int 276 0), (Value.ref 212), Value.none, (Value.ref 213), (Value.ref 214), (Value.ref 215), (Value.int 560 0), (Value.int 106 0), (Value.str (Str.ofString "/claim/cut.py") 561)]) #[])) ::
  (nat_lit 217, (Obj.mk (Value.type "function") none (Data.func (mkF (Str.ofString "contains") (Str.ofString "contains") (nth (pwB) 14) rfl 3 [] Value.none Value.none Value.none (Value.str (Str.ofString "cpy313.operator") 521) none (Value.ref 216) Value.none 0)) #[])) ::
  (nat_lit 228, (Obj.mk (Value.type "tuple") none (Data.seq #[] 0) #[])) ::
  (nat_lit 230, (Obj.mk (Value.type "tuple") none (Data.seq #[(Value.str (Str.ofString "self") 585), (Value.str (Str.ofString "ws") 586), (Value.str (Str.ofString "S") 587), (Value.str (Str.ofString "T") 588), (Value.str (Str.ofString "count") 589), (Value.str (Str.ofString "b") 590), (Value.str (Str.ofString "n") 591), (Value.str (Str.ofString "nt") 592), (Value.str (Str.ofString "ch") 593)] 0) #[])) ::
  (nat_lit 231, (Obj.mk (Value.type "tuple") none (Data.seq #[] 0) #[])) ::
  (nat_lit 233, (Obj.mk (Value.type "code") none (Data.fields #[(Value.str (Str.ofString "__init__") 582), (Value.str (Str.ofString "Whitespace.__init__") 583), (Value.str (Str.ofString "/claim/cut.py") 584), (Value.int 112 0), (Value.int 2 0), (Value.int 0 0), (Value.int 0 0), (Value.int 3 0), (Value.ref 228), (Value.bool Bool.true), (Value.int 276 0), (Value.ref 229), Value.none, (Value.ref 230), (Value.ref 231), (Value.ref 232), (Value.int 594 0), (Value.int 112 0), (Value.str (Str.ofString "/claim/cut.py") 595)]) #[])) ::
  (nat_lit 234, (Obj.mk (Value.type "function") none (Data.func (mkF (Str.ofString "__init__") (Str.ofString "Whitespace.__init__") (nth (inn (nth (pwB) 16)) 1) rfl 3 [] Value.none Value.none Value.none (Value.str (Str.ofString "cpy313.tabnanny") 563) none (Value.ref 233) Value.none 0)) #[])) ::
  (nat_lit 235, (Obj.mk (Value.type "tuple") none (Data.seq #[] 0) #[])) ::
  (nat_lit 237, (Obj.mk (Value.type "tuple") none (Data.seq #[(Value.str (Str.ofString "self") 600)] 0) #[])) ::
  (nat_lit 238, (Obj.mk (Value.type "tuple") none (Data.seq #[] 0) #[])) ::
  (nat_lit 240, (Obj.mk (Value.type "code") none (Data.fields #[(Value.str (Str.ofString "longest_run_of_spaces") 597), (Value.str (Str.ofString "Whitespace.longest_run_of_spaces") 598), (Value.str (Str.ofString "/claim/cut.py") 599), (Value.int 135 0), (Value.int 1 0), (Value.int 0 0), (Value.int 0 0), (Value.int 3 0), (Value.ref 235), (Value.bool Bool.true), (Value.int 276 0), (Value.ref 236), Value.none, (Value.ref 237), (Value.ref 238), (Value.ref 239), (Value.int 601 0), (Value.int 135 0), (Value.str (Str.ofString "/claim/cut.py") 602)]) #[])) ::
  (nat_lit 241, (Obj.mk (Value.type "function") none (Data.func (mkF (Str.ofString "longest_run_of_spaces") (Str.ofString "Whitespace.longest_run_of_spaces") (nth (inn (nth (pwB) 16)) 2) rfl 3 [] Value.none Value.none Value.none (Value.str (Str.ofString "cpy313.tabnanny") 563) none (Value.ref 240) Value.none 0)) #[])) ::
  (nat_lit 242, (Obj.mk (Value.type "tuple") none (Data.seq #[] 0) #[])) ::
  (nat_lit 244, (Obj.mk (Value.type "tuple") none (Data.seq #[(Value.str (Str.ofString "self") 607), (Value.str (Str.ofString "tabsize") 608)] 0) #[])) ::
  (nat_lit 245, (Obj.mk (Value.type "tuple") none (Data.seq #[] 0) #[])) ::
  (nat_lit 247, (Obj.mk (Value.type "code") none (Data.fields #[(Value.str (Str.ofString "indent_level") 604), (Value.str (Str.ofString "Whitespace.indent_level") 605), (Value.str (Str.ofString "/claim/cut.py") 606), (Value.int 138 0), (Value.int 2 0), (Value.int 0 0), (Value.int 0 0), (Value.int 3 0), (Value.ref 242), (Value.bool Bool.true), (Value.int 276 0), (Value.ref 243), Value.none, (Value.ref 244), (Value.ref 245), (Value.ref 246), (Value.int 609 0), (Value.int 138 0), (Value.str (Str.ofString "/claim/cut.py") 610)]) #[])) ::
  (nat_lit 248, (Obj.mk (Value.type "function") none (Data.func (mkF (Str.ofString "indent_level") (Str.ofString "Whitespace.indent_level") (nth (inn (nth (pwB) 16)) 3) rfl 3 [] Value.none Value.none Value.none (Value.str (Str.ofString "cpy313.tabnanny") 563) none (Value.ref 247) Value.none 0)) #[])) ::
  (nat_lit 249, (Obj.mk (Value.type "tuple") none (Data.seq #[] 0) #[])) ::
  (nat_lit 251, (Obj.mk (Value.type "tuple") none (Data.seq #[(Value.str (Str.ofString "self") 615), (Value.str (Str.ofString "other") 616)] 0) #[])) ::
  (nat_lit 252, (Obj.mk (Value.type "tuple") none (Data.seq #[] 0) #[])) ::
  (nat_lit 254, (Obj.mk (Value.type "code") none (Data.fields #[(Value.str (Str.ofString "equal") 612), (Value.str (Str.ofString "Whitespace.equal") 613), (Value.str (Str.ofString "/claim/cut.py") 614), (Value.int 141 0), (Value.int 2 0), (Value.int 0 0), (Value.int 0 0), (Value.int 3 0), (Value.ref 249), (Value.bool Bool.true), (Value.int 276 0), (Value.ref 250), Value.none, (Value.ref 251), (Value.ref 252), (Value.ref 253), (Value.int 617 0), (Value.int 141 0), (Value.str (Str.ofString "/claim/cut.py") 618)]) #[])) ::
  (nat_lit 255, (Obj.mk (Value.type "function") none (Data.func (mkF (Str.ofString "equal") (Str.ofString "Whitespace.equal") (nth (inn (nth (pwB) 16)) 4) rfl 3 [] Value.none Value.none Value.none (Value.str (Str.ofString "cpy313.tabnanny") 563) none (Value.ref 254) Value.none 0)) #[])) ::
  (nat_lit 256, (Obj.mk (Value.type "tuple") none (Data.seq #[] 0) #[])) ::
  (nat_lit 258, (Obj.mk (Value.type "tuple") none (Data.seq #[(Value.str (Str.ofString "self") 623), (Value.str (Str.ofString "other") 624)] 0) #[])) ::
  (nat_lit 259, (Obj.mk (Value.type "tuple") none (Data.seq #[] 0) #[])) ::
  (nat_lit 261, (Obj.mk (Value.type "code") none (Data.fields #[(Value.str (Str.ofString "not_equal_witness") 620), (Value.str (Str.ofString "Whitespace.not_equal_witness") 621), (Value.str (Str.ofString "/claim/cut.py") 622), (Value.int 144 0), (Value.int 2 0), (Value.int 0 0), (Value.int 0 0), (Value.int 3 0), (Value.ref 256), (Value.bool Bool.true), (Value.int 276 0), (Value.ref 257), Value.none, (Value.ref 258), (Value.ref 259), (Value.ref 260), (Value.int 625 0), (Value.int 144 0), (Value.str (Str.ofString "/claim/cut.py") 626)]) #[])) ::
  (nat_lit 262, (Obj.mk (Value.type "function") none (Data.func (mkF (Str.ofString "not_equal_witness") (Str.ofString "Whitespace.not_equal_witness") (nth (inn (nth (pwB) 16)) 5) rfl 3 [] Value.none Value.none Value.none (Value.str (Str.ofString "cpy313.tabnanny") 563) none (Value.ref 261) Value.none 0)) #[])) ::
  (nat_lit 263, (Obj.mk (Value.type "tuple") none (Data.seq #[] 0) #[])) ::
  (nat_lit 265, (Obj.mk (Value.type "tuple") none (Data.seq #[(Value.str (Str.ofString "self") 631), (Value.str (Str.ofString "other") 632)] 0) #[])) ::
  (nat_lit 266, (Obj.mk (Value.type "tuple") none (Data.seq #[] 0) #[])) ::
  (nat_lit 268, (Obj.mk (Value.type "code") none (Data.fields #[(Value.str (Str.ofString "less") 628), (Value.str (Str.ofString "Whitespace.less") 629), (Value.str (Str.ofString "/claim/cut.py") 630), (Value.int 147 0), (Value.int 2 0), (Value.int 0 0), (Value.int 0 0), (Value.int 3 0), (Value.ref 263), (Value.bool Bool.true), (Value.int 276 0), (Value.ref 264), Value.none, (Value.ref 265), (Value.ref 266), (Value.ref 267), (Value.int 633 0), (Value.int 147 0), (Value.str (Str.ofString "/claim/cut.py") 634)]) #[])) ::
  (nat_lit 269, (Obj.mk (Value.type "function") none (Data.func (mkF (Str.ofString "less") (Str.ofString "Whitespace.less") (nth (inn (nth (pwB) 16)) 6) rfl 3 [] Value.none Value.none Value.none (Value.str (Str.ofString "cpy313.tabnanny") 563) none (Value.ref 268) Value.none 0)) #[])) ::
  (nat_lit 270, (Obj.mk (Value.type "tuple") none (Data.seq #[] 0) #[])) ::
  (nat_lit 272, (Obj.mk (Value.type "tuple") none (Data.seq #[(Value.str (Str.ofString "self") 639), (Value.str (Str.ofString "other") 640)] 0) #[])) ::
  (nat_lit 273, (Obj.mk (Value.type "tuple") none (Data.seq #[] 0) #[])) ::
  (nat_lit 275, (Obj.mk (Value.type "code") none (Data.fields #[(Value.str (Str.ofString "not_less_witness") 636), (Value.str (Str.ofString "Whitespace.not_less_witness") 637), (Value.str (Str.ofString "/claim/cut.py") 638), (Value.int 150 0), (Value.int 2 0), (Value.int 0 0), (Value.int 0 0), (Value.int 3 0), (Value.ref 270), (Value.bool Bool.true), (Value.int 276 0), (Value.ref 271), Value.none, (Value.ref 272), (Value.ref 273), (Value.ref 274), (Value.int 641 0), (Value.int 150 0), (Value.str (Str.ofString "/claim/cut.py") 642)]) #[])) ::
  (nat_lit 276, (Obj.mk (Value.type "function") none (Data.func (mkF (Str.ofString "not_less_witness") (Str.ofString "Whitespace.not_less_witness") (nth (inn (nth (pwB) 16)) 7) rfl 3 [] Value.none Value.none Value.none (Value.str (Str.ofString "cpy313.tabnanny") 563) none (Value.ref 275) Value.none 0)) #[])) ::
  (nat_lit 277, (Obj.mk (Value.type "tuple") none (Data.seq #[(Value.str (Str.ofString "is_simple") 644), (Value.str (Str.ofString "n") 645), (Value.str (Str.ofString "norm") 646), (Value.str (Str.ofString "nt") 647), (Value.str (Str.ofString "raw") 648)] 0) #[])) ::
  (nat_lit 278, (Obj.mk (Value.type "dict") none (Data.dict #[(DictEntry.mk (PyData.keyHash P (Str.ofString "__module__")) (Value.str (Str.ofString "__module__") 572) (Value.str (Str.ofString "cpy313.tabnanny") 563)), (DictEntry.mk (PyData.keyHash P (Str.ofString "__firstlineno__")) (Value.str (Str.ofString "__firstlineno__") 576) (Value.int 109 575)), (DictEntry.mk (PyData.keyHash P (Str.ofString "S")) (Value.str (Str.ofString "S") 580) (Value.str (Str.ofString " ") 578)), (DictEntry.mk (PyData.keyHash P (Str.ofString "T")) (Value.str (Str.ofString "T") 581) (Value.str (Str.ofString "\t") 579)), (DictEntry.mk (PyData.keyHash P (Str.ofString "__init__")) (Value.str (Str.ofString "__init__") 596) (Value.ref 234)), (DictEntry.mk (PyData.keyHash P (Str.ofString "longest_run_of_spaces")) (Value.str (Str.ofString "longest_run_of_spaces") 603) (Value.ref 241)), (DictEntry.mk (PyData.keyHash P (Str.ofString "indent_level")) (Value.str (Str.ofString "indent_level") 611) (Value.ref 248)), (DictEntry.mk (PyData.keyHash P (Str.ofString "equal")) (Value.str (Str.ofString "equal") 619) (Value.ref 255)), (DictEntry.mk (PyData.keyHash P (Str.ofString "not_equal_witness")) (Value.str (Str.ofString "not_equal_witness") 627) (Value.ref 262)), (DictEntry.mk (PyData.keyHash P (Str.ofString "less")) (Value.str (Str.ofString "less") 635) (Value.ref 269)), (DictEntry.mk (PyData.keyHash P (Str.ofString "not_less_witness")) (Value.str (Str.ofString "not_less_witness") 643) (Value.ref 276)), (DictEntry.mk (PyData.keyHash P (Str.ofString "__static_attributes__")) (Value.str (Str.ofString "__static_attributes__") 649) (Value.ref 277)), (DictEntry.mk (PyData.keyHash P (Str.ofString "__dict__")) (Value.str (Str.ofString "__dict__") 651) (Value.ref 280)), (DictEntry.mk (PyData.keyHash P (Str.ofString "__weakref__")) (Value.str (Str.ofString "__weakref__") 653) (Value.ref 281)), (DictEntry.mk (PyData.keyHash P (Str.ofString "__doc__")) (Value.str (Str.ofString "__doc__") 654) Value.none)] 4) #[])) ::
  (nat_lit 279, (Obj.mk (Value.type "type") none (Data.cls (ClassData.mk (Str.ofString "Whitespace") [(Value.type "object")] [(Value.ref 279), (Value.type "object")] 278 (Str.ofString "Whitespace") Bool.true [] [] Bool.false none Bool.false)) #[none, none, (some (Value.str (Str.ofString "Whitespace") 565)), (some (Value.str (Str.ofString "Whitespace") 573)), (some (Value.builtin "object.__new__")), (some (Value.bool Bool.true))])) ::
  (nat_lit 280, (Obj.mk (Value.type "getset_descriptor") none (Data.fields #[(Value.str (Str.ofString "__dict__") 650), (Value.ref 279), (Value.builtin "function.__dict__"), (Value.builtin "function.__dict__#set")]) #[])) ::
  (nat_lit 281, (Obj.mk (Value.type "getset_descriptor") none (Data.fields #[(Value.str (Str.ofString "__weakref__") 652), (Value.ref 279), (Value.builtin "ExceptionGroup.__weakref__"), Value.none]) #[])) ::
  (nat_lit 284, (Obj.mk (Value.type "tuple") none (Data.seq #[] 0) #[])) ::
  (nat_lit 286, (Obj.mk (Value.type "tuple") none (Data.seq #[(Value.str (Str.ofString "number") 662)] 0) #[])) ::
  (nat_lit 287, (Obj.mk (Value.type "tuple") none (Data.seq #[] 0) #[])) ::
  (nat_lit 289, (Obj.mk (Value.type "code") none (Data.fields #[(Value.str (Str.ofString "_law_ring") 659), (Value.str (Str.ofString "_law_ring") 660), (Value.str (Str.ofString "/claim/cut.py") 661), (Value.int 153 0), (Value.int 1 0), (Value.int 0 0), (Value.int 0 0), (Value.int 3 0), (Value.ref 284), (Value.bool Bool.true), (Value.int 276 0), (Value.ref 285), Value.none, (Value.ref 286), (Value.ref 287), (Value.ref 288), (Value.int 663 0), (Value.int 153 0), (Value.str (Str.ofString "/claim/cut.py") 664)]) #[])) ::
  (nat_lit 290, (Obj.mk (Value.type "function") none (Data.func (mkF (Str.ofString "_law_ring") (Str.ofString "_law_ring") (nth (pwB) 18) rfl 3 [] Value.none Value.none Value.none (Value.str (Str.ofString "law_tl0055_01") 657) none (Value.ref 289) Value.none 0)) #[])) ::
  (nat_lit 291, (Obj.mk (Value.type "tuple") none (Data.seq #[] 0) #[])) ::
  (nat_lit 293, (Obj.mk (Value.type "tuple") none (Data.seq #[(Value.str (Str.ofString "size") 669), (Value.str (Str.ofString "units") 670), (Value.str (Str.ofString "unit") 671), (Value.str (Str.ofString "one") 672), (Value.str (Str.ofString "other") 673)] 0) #[])) ::
  (nat_lit 294, (Obj.mk (Value.type "tuple") none (Data.seq #[] 0) #[])) ::
  (nat_lit 296, (Obj.mk (Value.type "code") none (Data.fields #[(Value.str (Str.ofString "_law_units") 666), (Value.str (Str.ofString "_law_units") 667), (Value.str (Str.ofString "/claim/cut.py") 668), (Value.int 155 0), (Value.int 1 0), (Value.int 0 0), (Value.int 0 0), (Value.int 3 0), (Value.ref 291), (Value.bool Bool.true), (Value.int 276 0), (Value.ref 292), Value.none, (Value.ref 293), (Value.ref 294), (Value.ref 295), (Value.int 674 0), (Value.int 155 0), (Value.str (Str.ofString "/claim/cut.py") 675)]) #[])) ::
  (nat_lit 297, (Obj.mk (Value.type "function") none (Data.func (mkF (Str.ofString "_law_units") (Str.ofString "_law_units") (nth (pwB) 19) rfl 3 [] Value.none Value.none Value.none (Value.str (Str.ofString "law_tl0055_01") 657) none (Value.ref 296) Value.none 0)) #[])) ::
  (nat_lit 298, (Obj.mk (Value.type "tuple") none (Data.seq #[] 0) #[])) ::
  (nat_lit 300, (Obj.mk (Value.type "tuple") none (Data.seq #[(Value.str (Str.ofString "prime") 680), (Value.str (Str.ofString "size") 681), (Value.str (Str.ofString "powers") 682)] 0) #[])) ::
  (nat_lit 301, (Obj.mk (Value.type "tuple") none (Data.seq #[] 0) #[])) ::
  (nat_lit 303, (Obj.mk (Value.type "code") none (Data.fields #[(Value.str (Str.ofString "_law_powers") 677), (Value.str (Str.ofString "_law_powers") 678), (Value.str (Str.ofString "/claim/cut.py") 679), (Value.int 164 0), (Value.int 2 0), (Value.int 0 0), (Value.int 0 0), (Value.int 3 0), (Value.ref 298), (Value.bool Bool.true), (Value.int 276 0), (Value.ref 299), Value.none, (Value.ref 300), (Value.ref 301), (Value.ref 302), (Value.int 683 0), (Value.int 164 0), (Value.str (Str.ofString "/claim/cut.py") 684)]) #[])) ::
  (nat_lit 304, (Obj.mk (Value.type "function") none (Data.func (mkF (Str.ofString "_law_powers") (Str.ofString "_law_powers") (nth (pwB) 20) rfl 3 [] Value.none Value.none Value.none (Value.str (Str.ofString "law_tl0055_01") 657) none (Value.ref 303) Value.none 0)) #[])) ::
  (nat_lit 305, (Obj.mk (Value.type "tuple") none (Data.seq #[] 0) #[])) ::
  (nat_lit 308, (Obj.mk (Value.type "code") none (Data.fields #[(Value.str (Str.ofString "_law_sizes") 686), (Value.str (Str.ofString "_law_sizes") 687), (Value.str (Str.ofString "/claim/cut.py") 688), (Value.int 169 0), (Value.int 2 0), (Value.int 0 0), (Value.int 0 0), (Value.int 3 0), (Value.ref 305), (Value.bool Bool.true), (Value.int 276 0), (Value.ref 306), Value.none, Value.none, Value.none, (Value.ref 307), (Value.int 689 0), (Value.int 169 0), (Value.str (Str.ofString "/claim/cut.py") 690)]) #[])) ::
  (nat_lit 309, (Obj.mk (Value.type "function") none (Data.func (mkF (Str.ofString "_law_sizes") (Str.ofString "_law_sizes") (nth (pwB) 21) rfl 3 [] Value.none Value.none Value.none (Value.str (Str.ofString "law_tl0055_01") 657) none (Value.ref 308) Value.none 0)) #[])) ::
  (nat_lit 310, (Obj.mk (Value.type "tuple") none (Data.seq #[] 0) #[])) ::
  (nat_lit 312, (Obj.mk (Value.type "tuple") none (Data.seq #[(Value.str (Str.ofString "start") 695), (Value.str (Str.ofString "sizes") 696), (Value.str (Str.ofString "marks") 697), (Value.str (Str.ofString "step") 698)] 0) #[])) ::
  (nat_lit 313, (Obj.mk (Value.type "tuple") none (Data.seq #[] 0) #[])) ::
  (nat_lit 315, (Obj.mk (Value.type "code") none (Data.fields #[(Value.str (Str.ofString "_law_marks") 692), (Value.str (Str.ofString "_law_marks") 693), (Value.str (Str.ofString "/claim/cut.py") 694), (Value.int 172 0), (Value.int 2 0), (Value.int 0 0), (Value.int 0 0), (Value.int 3 0), (Value.ref 310), (Value.bool Bool.true), (Value.int 276 0), (Value.ref 311), Value.none, (Value.ref 312), (Value.ref 313), (Value.ref 314), (Value.int 699 0), (Value.int 172 0), (Value.str (Str.ofString "/claim/cut.py") 700)]) #[])) ::
  (nat_lit 316, (Obj.mk (Value.type "function") none (Data.func (mkF (Str.ofString "_law_marks") (Str.ofString "_law_marks") (nth (pwB) 22) rfl 3 [] Value.none Value.none Value.none (Value.str (Str.ofString "law_tl0055_01") 657) none (Value.ref 315) Value.none 0)) #[])) ::
  (nat_lit 317, (Obj.mk (Value.type "tuple") none (Data.seq #[] 0) #[])) ::
  (nat_lit 320, (Obj.mk (Value.type "code") none (Data.fields #[(Value.str (Str.ofString "_law_word") 702), (Value.str (Str.ofString "_law_word") 703), (Value.str (Str.ofString "/claim/cut.py") 704), (Value.int 177 0), (Value.int 1 0), (Value.int 0 0), (Value.int 0 0), (Value.int 3 0), (Value.ref 317), (Value.bool Bool.true), (Value.int 276 0), (Value.ref 318), Value.none, Value.none, Value.none, (Value.ref 319), (Value.int 705 0), (Value.int 177 0), (Value.str (Str.ofString "/claim/cut.py") 706)]) #[])) ::
  (nat_lit 321, (Obj.mk (Value.type "function") none (Data.func (mkF (Str.ofString "_law_word") (Str.ofString "_law_word") (nth (pwB) 23) rfl 3 [] Value.none Value.none Value.none (Value.str (Str.ofString "law_tl0055_01") 657) none (Value.ref 320) Value.none 0)) #[])) ::
  (nat_lit 322, (Obj.mk (Value.type "tuple") none (Data.seq #[] 0) #[])) ::
  (nat_lit 325, (Obj.mk (Value.type "code") none (Data.fields #[(Value.str (Str.ofString "_law_stairs") 708), (Value.str (Str.ofString "_law_stairs") 709), (Value.str (Str.ofString "/claim/cut.py") 710), (Value.int 179 0), (Value.int 2 0), (Value.int 0 0), (Value.int 0 0), (Value.int 3 0), (Value.ref 322), (Value.bool Bool.true), (Value.int 276 0), (Value.ref 323), Value.none, Value.none, Value.none, (Value.ref 324), (Value.int 711 0), (Value.int 179 0), (Value.str (Str.ofString "/claim/cut.py") 712)]) #[])) ::
  (nat_lit 326, (Obj.mk (Value.type "function") none (Data.func (mkF (Str.ofString "_law_stairs") (Str.ofString "_law_stairs") (nth (pwB) 24) rfl 3 [] Value.none Value.none Value.none (Value.str (Str.ofString "law_tl0055_01") 657) none (Value.ref 325) Value.none 0)) #[])) ::
  (nat_lit 327, (Obj.mk (Value.type "tuple") none (Data.seq #[] 0) #[])) ::
  (nat_lit 329, (Obj.mk (Value.type "tuple") none (Data.seq #[(Value.str (Str.ofString "places") 717), (Value.str (Str.ofString "size") 718), (Value.str (Str.ofString "table") 719), (Value.str (Str.ofString "told") 720), (Value.str (Str.ofString "ahead") 721), (Value.str (Str.ofString "behind") 722), (Value.str (Str.ofString "note") 723)] 0) #[])) ::
  (nat_lit 330, (Obj.mk (Value.type "tuple") none (Data.seq #[] 0) #[])) ::
  (nat_lit 332, (Obj.mk (Value.type "code") none (Data.fields #[(Value.str (Str.ofString "_law_book") 714), (Value.str (Str.ofString "_law_book") 715), (Value.str (Str.ofString "/claim/cut.py") 716), (Value.int 185 0), (Value.int 2 0), (Value.int 0 0), (Value.int 0 0), (Value.int 3 0), (Value.ref 327), (Value.bool Bool.true), (Value.int 276 0), (Value.ref 328), Value.none, (Value.ref 329), (Value.ref 330), (Value.ref 331), (Value.int 724 0), (Value.int 185 0), (Value.str (Str.ofString "/claim/cut.py") 725)]) #[])) ::
  (nat_lit 333, (Obj.mk (Value.type "function") none (Data.func (mkF (Str.ofString "_law_book") (Str.ofString "_law_book") (nth (pwB) 25) rfl 3 [] Value.none Value.none Value.none (Value.str (Str.ofString "law_tl0055_01") 657) none (Value.ref 332) Value.none 0)) #[])) ::
  (nat_lit 334, (Obj.mk (Value.type "tuple") none (Data.seq #[] 0) #[])) ::
  (nat_lit 337, (Obj.mk (Value.type "code") none (Data.fields #[(Value.str (Str.ofString "_law_through") 727), (Value.str (Str.ofString "_law_through") 728), (Value.str (Str.ofString "/claim/cut.py") 729), (Value.int 193 0), (Value.int 4 0), (Value.int 0 0), (Value.int 0 0), (Value.int 3 0), (Value.ref 334), (Value.bool Bool.true), (Value.int 276 0), (Value.ref 335), Value.none, Value.none, Value.none, (Value.ref 336), (Value.int 730 0), (Value.int 193 0), (Value.str (Str.ofString "/claim/cut.py") 731)]) #[])) ::
  (nat_lit 338, (Obj.mk (Value.type "function") none (Data.func (mkF (Str.ofString "_law_through") (Str.ofString "_law_through") (nth (pwB) 26) rfl 3 [] Value.none Value.none Value.none (Value.str (Str.ofString "law_tl0055_01") 657) none (Value.ref 337) Value.none 0)) #[])) ::
  (nat_lit 339, (Obj.mk (Value.type "tuple") none (Data.seq #[] 0) #[])) ::
  (nat_lit 342, (Obj.mk (Value.type "code") none (Data.fields #[(Value.str (Str.ofString "_law_own") 733), (Value.str (Str.ofString "_law_own") 734), (Value.str (Str.ofString "/claim/cut.py") 735), (Value.int 195 0), (Value.int 3 0), (Value.int 0 0), (Value.int 0 0), (Value.int 3 0), (Value.ref 339), (Value.bool Bool.true), (Value.int 276 0), (Value.ref 340), Value.none, Value.none, Value.none, (Value.ref 341), (Value.int 736 0), (Value.int 195 0), (Value.str (Str.ofString "/claim/cut.py") 737)]) #[])) ::
  (nat_lit 343, (Obj.mk (Value.type "function") none (Data.func (mkF (Str.ofString "_law_own") (Str.ofString "_law_own") (nth (pwB) 27) rfl 3 [] Value.none Value.none Value.none (Value.str (Str.ofString "law_tl0055_01") 657) none (Value.ref 342) Value.none 0)) #[])) ::
  (nat_lit 344, (Obj.mk (Value.type "tuple") none (Data.seq #[] 0) #[])) ::
  (nat_lit 347, (Obj.mk (Value.type "code") none (Data.fields #[(Value.str (Str.ofString "law") 739), (Value.str (Str.ofString "law") 740), (Value.str (Str.ofString "/claim/cut.py") 741), (Value.int 202 0), (Value.int 1 0), (Value.int 0 0), (Value.int 0 0), (Value.int 3 0), (Value.ref 344), (Value.bool Bool.true), (Value.int 276 0), (Value.ref 345), Value.none, Value.none, Value.none, (Value.ref 346), (Value.int 742 0), (Value.int 202 0), (Value.str (Str.ofString "/claim/cut.py") 743)]) #[])) ::
  (nat_lit 348, (Obj.mk (Value.type "function") none (Data.func (mkF (Str.ofString "law") (Str.ofString "law") (nth (pwB) 28) rfl 3 [] Value.none Value.none Value.none (Value.str (Str.ofString "law_tl0055_01") 657) none (Value.ref 347) Value.none 0)) #[])) :: []

theorem fill : PySem.Challenge.rw_tl0055_01 = PySem.Challenge.rw_tl0055_01 → ∀ P, Kf P = Kf P := by w_top off; k_fill; intros; rfl

section

section
variable {prog : Program} {w : World} {A₀ A : Around} {s : Shared} {base h₀ : Heap} {outer : List Env} {L : Addr} {m mg mb : Str → Option Value} {env : Env} {K : Frag} {p : Program} {loose : List Str} {mean : ExcName → Option Value}
  {R : Result → Shared → Prop} {name qual : Str} {params : Arguments} {body : List Stmt} {scope : Scope} {dV kV doc pm cdv ct oc : Value} {an od : Option Addr} {osl : Array (Option Value)} {f : Addr} {args : Args} {binds : List (Str × Value)}

/-- a def's call, its own heap the caller's whole heap: nothing that stands is hidden -/
theorem enterP (B : Below A₀ base outer h₀) (F : Fr h₀ L s.heap m) (X₀ : K.In h₀) (T : Top p loose mean mg mb h₀) (hA : A.frames = some (env :: outer)) (hf : env.frame = some L) (hke : env.scope.kind = .function)
    (ho : K.lookup f = some ⟨oc, od, .func (fnOf name qual params body scope dV kV doc pm an cdv ct), osl⟩) (hcd : codeIn K cdv qual = true) (hroom : A.depth < recursionLimit)
    (hbind : BindsTo s (fnOf name qual params body scope dV kV doc pm an cdv ct) args binds) (hloc : ∀ y ∈ binds, scope.names.lookup y.1 = some .local)
    (h : ∀ L' h₁, Fr s.heap L' h₁ (fun y => binds.reverse.lookup y) → News s.heap L' h₁ [] → Below A base (env :: outer) s.heap → K.In s.heap → Top p loose mean mg mb s.heap → s.heap.objs.size ≤ L' →
      wpAny (model prog w) (A.deeper (envOf qual scope L' f cdv)) (execs body (envOf qual scope L' f cdv))
        (fun fl s' => R (.ok (.ret (match fl with | .ret v => v | _ => .none))) s')
        (fun e s' => wpAny (model prog w) (A.deeper (envOf qual scope L' f cdv)) (leaving (envOf qual scope L' f cdv) e) (fun _ s'' => R (.error e) s'') (fun e' s'' => R (.error e') s'') s')
        { s with heap := h₁, toks := s.toks + binds.length })
    (hco : scope.isCoroutine = false) (hgen : scope.isGenerator = false) (hk : scope.kind = .function)
    (hcell : ∀ x ∈ scope.names, x.2 ≠ .cell) : codeAny (model prog w) A (.call (.ref f) args) R s := by
  obtain ⟨_, BG, _, _⟩ := groundX (R := R) B F News.nil hA hf hke
  have X := X₀.keeps F.keep
  have T' := T.keeps F.keep
  refine codeAny_call_def (fd := fnOf name qual params body scope dV kV doc pm an cdv ct) (body := body) (binds := binds) hroom (X _ _ ho) rfl T'.nolimit (codeRec_of X hcd) rfl hbind hcell hloc (fun h₁ hns hk₁ => ?_) hco hgen hk
  exact h s.heap.objs.size h₁ ⟨hns, fun b o e => hk₁ b o e, Nat.le_refl _⟩ News.nil BG X T' (Nat.le_refl _)

theorem enterC (B : Below A₀ base outer h₀) (F : Fr h₀ L s.heap m) (X₀ : K.In h₀) (T : Top p loose mean mg mb h₀) (hA : A.frames = some (env :: outer)) (hf : env.frame = some L) (hke : env.scope.kind = .function)
    (ho : K.lookup f = some ⟨oc, od, .func (fnOf name qual params body scope dV kV doc pm an cdv ct), osl⟩) (hcd : codeIn K cdv qual = true) (hroom : A.depth < recursionLimit)
    (hbind : BindsTo s (fnOf name qual params body scope dV kV doc pm an cdv ct) args binds) (hkind : (binds.all fun y => scope.names.lookup y.1 == some .local || scope.names.lookup y.1 == some .cell) = true)
    (hnd : ((cellsFrom 0 scope.names []).map (·.1)).Nodup)
    (h : ∀ L' h₁ tk cells, Fr s.heap L' h₁ (bindL (envOfC qual scope L' f cdv).kindOf binds fun _ => none) → News s.heap L' h₁ cells →
      CellsAre (bindC (envOfC qual scope L' f cdv).kindOf binds fun _ => none) (cellsFrom (L' + 1) scope.names []) cells → Below A base (env :: outer) s.heap → K.In s.heap → Top p loose mean mg mb s.heap → s.heap.objs.size ≤ L' →
      wpAny (model prog w) (A.deeper (envOfC qual scope L' f cdv)) (execs body (envOfC qual scope L' f cdv))
        (fun fl s' => R (.ok (.ret (match fl with | .ret v => v | _ => .none))) s')
        (fun e s' => wpAny (model prog w) (A.deeper (envOfC qual scope L' f cdv)) (leaving (envOfC qual scope L' f cdv) e) (fun _ s'' => R (.error e) s'') (fun e' s'' => R (.error e') s'') s')
        { s with heap := h₁, toks := tk })
    (hco : scope.isCoroutine = false) (hgen : scope.isGenerator = false) (hk : scope.kind = .function) : codeAny (model prog w) A (.call (.ref f) args) R s := by
  obtain ⟨_, BG, _, _⟩ := groundX (R := R) B F News.nil hA hf hke
  have X := X₀.keeps F.keep
  have T' := T.keeps F.keep
  refine codeAny_call_function hroom (X _ _ ho) rfl hco hgen rfl (codeRec_of X hcd) (hbind _ _ _ _ ?_)
  refine wpAny_newFunctionEnv_cells hk (kindsX hkind _) fun env' he s' x => ?_
  subst he
  refine ⟨T'.nolimit.keeps x.toInCall.keep, codeAny_func ?_⟩
  obtain ⟨h₁, tk, rfl, _⟩ := x.done
  have hk₁ := x.toInCall.keep
  obtain ⟨cells, NC, Y⟩ := Cl.news (h₀ := s.heap) (Nat.le_refl _) fun n c hm => ⟨x.cell n c (lookup_of_mem_nodup (cellsFrom_names scope.names 0 (s.heap.objs.size + 1) [] [] rfl ▸ hnd) hm), x.above n c hm⟩
  exact h s.heap.objs.size h₁ tk cells ⟨x.toInCall.ns, fun b o e => hk₁ b o e, Nat.le_refl _⟩ NC Y BG X T' (Nat.le_refl _)
end



theorem fold_filter (p : Int → Bool) (f : List Int → Int → List Int) (hf : ∀ l k, f l k = if p k = true then l ++ [k] else l) : ∀ (ks acc : List Int), ks.foldl f acc = acc ++ ks.filter p
  | [], acc => by simp
  | k :: r, acc => by
    rw [List.foldl_cons, hf, fold_filter p f hf r]
    cases h : p k <;> simp [h]

theorem ints_at : ∀ {vs : List Value} {ns : List Int} {i : Nat} {v : Value}, IntsAre vs ns → vs[i]? = some v → ∃ k t, ns[i]? = some k ∧ v = Value.int k t
  | _, _, _, _, .nil, h => by simp at h
  | _, _, 0, _, .cons n t _, h => ⟨n, t, rfl, by simpa using h.symm⟩
  | _, _, i + 1, _, .cons n t r, h => by
    obtain ⟨k, u, h1, h2⟩ := ints_at (i := i) r (by simpa using h)
    exact ⟨k, u, by simpa using h1, h2⟩
theorem ints_of : ∀ {ys : List Value} {ks : List Int}, ys.length = ks.length → (∀ (i : Nat) (y : Value), ys[i]? = some y → ∃ t k, ks[i]? = some k ∧ y = Value.int k t) → IntsAre ys ks
  | [], [], _, _ => .nil
  | [], _ :: _, h, _ => by simp at h
  | _ :: _, [], h, _ => by simp at h
  | y :: ys, k :: ks, h, g => by
    obtain ⟨t, k', hk, rfl⟩ := g 0 y rfl
    have : k' = k := by simpa using hk.symm
    subst this
    exact .cons _ _ (ints_of (by simpa using h) fun i y' hy => by
      obtain ⟨t', k'', h1, h2⟩ := g (i + 1) y' (by simpa using hy)
      exact ⟨t', k'', by simpa using h1, h2⟩)

/-- insertion, by which sorted ints are told -/
def ins (x : Int) : List Int → List Int
  | [] => [x]
  | y :: r => if x ≤ y then x :: y :: r else y :: ins x r
def isort : List Int → List Int
  | [] => []
  | x :: r => ins x (isort r)
theorem ins_perm (x : Int) : ∀ l : List Int, (ins x l).Perm (x :: l)
  | [] => .refl _
  | y :: r => by
    unfold ins
    split
    · exact .refl _
    · exact ((ins_perm x r).cons y).trans (List.Perm.swap x y r)
theorem ins_sorted (x : Int) : ∀ l : List Int, l.Pairwise (· ≤ ·) → (ins x l).Pairwise (· ≤ ·)
  | [], _ => by simp [ins]
  | y :: r, h => by
    unfold ins
    split
    · rename_i hxy
      refine List.pairwise_cons.mpr ⟨fun z hz => ?_, h⟩
      rcases List.mem_cons.mp hz with rfl | hz
      · exact hxy
      · exact Int.le_trans hxy ((List.pairwise_cons.mp h).1 z hz)
    · rename_i hxy
      refine List.pairwise_cons.mpr ⟨fun z hz => ?_, ins_sorted x r (List.pairwise_cons.mp h).2⟩
      rcases List.mem_cons.mp ((ins_perm x r).mem_iff.mp hz) with rfl | hz
      · exact Int.le_of_lt (Int.not_le.mp hxy)
      · exact (List.pairwise_cons.mp h).1 z hz
theorem isort_perm : ∀ l : List Int, (isort l).Perm l
  | [] => .refl _
  | x :: r => (ins_perm x _).trans ((isort_perm r).cons x)
theorem isort_sorted : ∀ l : List Int, (isort l).Pairwise (· ≤ ·)
  | [] => .nil
  | x :: r => ins_sorted x _ (isort_sorted r)
theorem isort_unique {l r : List Int} (hp : r.Perm l) (hs : r.Pairwise (· ≤ ·)) : r = isort l :=
  List.Perm.eq_of_pairwise (fun _ _ _ _ h1 h2 => Int.le_antisymm h1 h2) hs (isort_sorted l) (hp.trans (isort_perm l).symm)
theorem isort_length (l : List Int) : (isort l).length = l.length := (isort_perm l).length_eq

def sizesF (ns : List Int) (size : Int) : List Int := List.zipWith (fun a b => (b - a).fmod size) (isort ns) ((isort ns).drop 1 ++ (isort ns).take 1)

theorem more_news {h₀ h : Heap} {L a : Addr} {o : Obj} {news : List (Addr × Obj)} (N : ∀ p ∈ news, h.get? p.1 = some p.2 ∧ p.1 ≠ L ∧ h₀.get? p.1 = none) (e : h.get? a = some o) (ha : a ≠ L) (h0 : h₀.get? a = none) : News h₀ L h ((a, o) :: news) := fun p hp => by
  rcases List.mem_cons.mp hp with rfl | hp
  · exact ⟨e, ha, h0⟩
  · exact N p hp

/-- a step's letter (a for 1), a row's word -/
def chF (k : Int) : Str := ⟨#[(96 + k).toNat]⟩
def wordF (ns : List Int) : Str := ⟨(ns.map fun k => (96 + k).toNat).toArray⟩
theorem strs_of {g : Int → Str} : ∀ {ys : List Value} {ks : List Int}, ys.length = ks.length → (∀ (i : Nat) (y : Value), ys[i]? = some y → ∃ k t, ks[i]? = some k ∧ y = Value.str (g k) t) → StrsAre ys (ks.map g)
  | [], [], _, _ => .nil
  | [], _ :: _, h, _ => by simp at h
  | _ :: _, [], h, _ => by simp at h
  | y :: ys, k :: ks, h, f => by
    obtain ⟨k', t, hk, rfl⟩ := f 0 y rfl
    have : k' = k := by simpa using hk.symm
    subst this
    exact .cons _ _ (strs_of (by simpa using h) fun i y' hy => by
      obtain ⟨k'', t', h1, h2⟩ := f (i + 1) y' (by simpa using hy)
      exact ⟨k'', t', by simpa using h1, h2⟩)
theorem word_join (ns : List Int) : Txt.join (Str.ofString "") (ns.map chF) = wordF ns := by
  have h : ns.map chF = signs (wordF ns) := by
    simp [wordF, signs, chF, List.map_map, Function.comp_def]
  have e : Txt.join (Str.ofString "") (ns.map chF) = Str.join (Str.ofString "") (ns.map chF) := StrLaws.glued_eq_join _ _
  rw [e, h]
  exact join_nil_signs _
theorem item_letter (k : Int) (h1 : 1 ≤ k) (h2 : k ≤ 20) : Txt.item (Str.ofString "abcdefghijklmnopqrst") (k - 1) = chF k := by
  obtain ⟨n, hn⟩ : ∃ n : Nat, (n : Int) = k - 1 := ⟨(k - 1).toNat, Int.toNat_of_nonneg (Int.sub_nonneg_of_le h1)⟩
  have hk : k = (n : Int) + 1 := by rw [hn, Int.sub_add_cancel]
  have hlt : n < 20 := by
    rw [hk] at h2
    exact Int.ofNat_lt.mp (Int.lt_of_add_one_le h2)
  have : ∀ i : Fin 20, Txt.item (Str.ofString "abcdefghijklmnopqrst") ((i.val : Int) + 1 - 1) = chF ((i.val : Int) + 1) := by decide +kernel
  rw [hk]
  exact this ⟨n, hlt⟩
theorem map_but {x : Str} {m₁ m₀ : Str → Option Value} (hm : ∀ z, z ≠ x → m₁ z = m₀ z) : m₁ = fun z => if z = x then m₁ x else m₀ z := by
  funext z
  by_cases h : z = x
  · simp [h]
  · simp [h, hm z h]
theorem map_but2 {x y : Str} {m₁ m₀ : Str → Option Value} (hm : ∀ z, z ≠ x → z ≠ y → m₁ z = m₀ z) : m₁ = fun z => if z = x then m₁ x else if z = y then m₁ y else m₀ z := by
  funext z
  by_cases h : z = x
  · simp [h]
  · by_cases h2 : z = y
    · rw [if_neg h, if_pos h2, h2]
    · simp [h, h2, hm z h h2]
theorem frNamed {h₀ h : Heap} {L : Addr} {m : Str → Option Value} (F : Fr h₀ L h m) : ∃ m0, m0 = m ∧ Fr h₀ L h m0 := ⟨m, rfl, F⟩
theorem ints_now {h : Heap} {a : Addr} {vs : List Value} {ns : List Int} {n : Nat} (_e : h.get? a = some (W.listOf vs.toArray n)) (i : IntsAre vs ns) : IntsAre vs ns := i
theorem news_lt {h₀ h : Heap} {L D : Addr} {news : List (Addr × Obj)} (N : News h₀ L h news) (hD : h.objs.size ≤ D) : ∀ p ∈ news, p.1 < D := fun p hp => Nat.lt_of_lt_of_le (Heap.lt_size (N p hp).1) hD
theorem ints_snoc {k : Int} {t : Tok} : ∀ {vs : List Value} {ns : List Int}, IntsAre vs ns → IntsAre (vs ++ [.int k t]) (ns ++ [k])
  | _, _, .nil => .cons k t .nil
  | _, _, .cons n u r => .cons n u (ints_snoc r)
theorem rangeKs_succ (i : Nat) : rangeKs 0 (i + 1) = rangeKs 0 i ++ [(i : Int)] := by
  simp [rangeKs, List.range_succ]
theorem map_but3 {x y v : Str} {m₁ m₀ : Str → Option Value} (hm : ∀ z, z ≠ x → z ≠ y → z ≠ v → m₁ z = m₀ z) : m₁ = fun z => if z = x then m₁ x else if z = y then m₁ y else if z = v then m₁ v else m₀ z := by
  funext z
  by_cases h : z = x
  · simp [h]
  · by_cases h2 : z = y
    · rw [if_neg h, if_pos h2, h2]
    · by_cases h3 : z = v
      · rw [if_neg h, if_neg h2, if_pos h3, h3]
      · simp [h, h2, h3, hm z h h2 h3]
theorem newsNamed {h₀ h : Heap} {L : Addr} {news : List (Addr × Obj)} (N : News h₀ L h news) : ∃ nw, nw = news ∧ News h₀ L h nw := ⟨news, rfl, N⟩
theorem fmod_nat (x n : Nat) : Int.fmod (x : Int) (n : Int) = ((x % n : Nat) : Int) := by
  rw [Int.fmod_eq_emod_of_nonneg _ (by omega)]; rfl

end

section

local macro_rules | `(tactic| walk_at "enterC") => `(tactic| (refine' enterC ?k1 ?k2 ?k3 ?k4 ?kA ?kF ?kK ?k6 ?k7 ?k8 ?k9 ?kB ?kD ?_ ?c2 ?c3 ?c4; (case kA => exact rfl); (case kF => exact rfl); (case kK => assumption); (case k1 => k_asm); (case k2 => k_asm); (case k3 => k_asm); (case k4 => k_asm); (case k6 => k_is); (case k7 => k_is); (case k8 => ktr_room); (case k9 => exact BindsTo.of_eq rfl); (case kB => exact rfl); (case kD => decide +kernel); (case c2 => exact rfl); (case c3 => exact rfl); (case c4 => exact rfl); k_whole; intro L' h' tk' cells' F' N' Y' B' X' T' hL'; k_cells Y'; (try simp only [List.cons_append, List.nil_append] at N'); (try dsimp only); (try k_fold)))
local macro_rules | `(tactic| walk_at "enterP") => `(tactic| (refine' enterP ?k1 ?k2 ?k3 ?k4 ?kA ?kF ?kK ?k6 ?k7 ?k8 ?k9 ?kB ?_ ?c2 ?c3 ?c4 ?c5; (case kA => exact rfl); (case kF => exact rfl); (case kK => assumption); (case k1 => k_asm); (case k2 => k_asm); (case k3 => k_asm); (case k4 => k_asm); (case k6 => k_is); (case k7 => k_is); (case k8 => ktr_room); (case k9 => exact BindsTo.of_eq rfl); (case c5 => decide); (case kB => exact locs rfl); (case c2 => exact rfl); (case c3 => exact rfl); (case c4 => exact rfl); k_whole; intro L' h' F' N' B' X' T' hL'; (try dsimp only); (try k_fold)))
local macro_rules | `(tactic| walk_at "m_toComp") => `(tactic| repeat ((fail_if_success (with_reducible show wpAny _ _ (eval (PySem.Expr.ListComp _ _ _ _) _) _ _ _)); first | (k_unfold; (try dsimp only)) | walk1 | (dsimp only; walk1)))
local macro_rules | `(tactic| walk_at "m_toCompCall") => `(tactic| repeat' ((fail_if_success (with_reducible show wpAny _ _ (eval (PySem.Expr.ListComp (PySem.Expr.BinOp (PySem.Expr.Call _ _ _ _) _ _ _) _ _ _) _) _ _ _)); first | (k_unfold; (try dsimp only)) | walk1 | (dsimp only; walk1)))
local macro_rules | `(tactic| walk_at "m_units") => `(tactic| ((try simp only [units_in1, units_deeper, Around.mark_units, units_caller]); (try dsimp only [ktrTop]); omega))
local macro_rules | `(tactic| walk_at "compareOp Eq ref ref") => `(tactic| (k_here; (with_reducible show wpAny _ _ (compareOp CmpOp.Eq (Value.ref _) (Value.ref _)) _ _ _); (with_unfolding_all refine' eq_intsK ?k1 ?k2 ?k3 ?k4 ?k5 ?_; (case k1 => is_list); (case k2 => l_ints); (case k3 => is_list); (case k4 => l_ints); (case k5 => walk_at "m_units"); k_whole)))
local macro_rules | `(tactic| walk_at "compareOp NotEq ref ref") => `(tactic| (k_here; (with_reducible show wpAny _ _ (compareOp CmpOp.NotEq (Value.ref _) (Value.ref _)) _ _ _); (with_unfolding_all refine' ne_intsK ?k1 ?k2 ?k3 ?k4 ?k5 ?_; (case k1 => is_list); (case k2 => l_ints); (case k3 => is_list); (case k4 => l_ints); (case k5 => walk_at "m_units"); k_whole)))
local macro_rules | `(tactic| walk_at "m_toWhile") => `(tactic| repeat' ((fail_if_success (with_reducible show wpAny _ _ (exec (PySem.Stmt.While _ _ _ _) _) _ _ _)); first | (k_unfold; (try dsimp only)) | walk1 | (dsimp only; walk1)))
local macro_rules | `(tactic| walk_at "m_toFor") => `(tactic| repeat' ((fail_if_success (with_reducible show wpAny _ _ (exec (PySem.Stmt.For _ _ _ _ _) _) _ _ _)); first | (k_unfold; (try dsimp only)) | walk1 | (dsimp only; walk1)))
local macro_rules | `(tactic| walk_at "enterD") => `(tactic| (refine' code_defG ?k1 ?k2 ?k3 ?k4 ?k5 ?kA ?kF ?kK ?k6 ?k7 ?k8 ?k9 ?kB ?_ ?c2 ?c3 ?c4 ?c5; (case kA => exact rfl); (case kF => exact rfl); (case kK => first | exact rfl | assumption); (case k1 => k_asm); (case k2 => k_asm); (case k3 => k_asm); (case k4 => k_asm); (case k5 => k_asm); (case k6 => k_is); (case k7 => k_is); (case k8 => ktr_room); (case k9 => first | exact BindsTo.of_eq rfl | exact binds_K (by k_in) rfl (by k_is) rfl rfl rfl); (case c5 => decide); (case kB => exact locs rfl); (case c2 => exact rfl); (case c3 => exact rfl); (case c4 => exact rfl); k_whole; intro g' L' h' FG' F' N' B' X' T' kG'; (try dsimp only); (try k_fold)))

def throughF (ns : List Int) (size one other : Int) : List Int := (rangeKs 0 size.toNat).filter fun k => (ns.any fun x => x == (one - k).fmod size) && (ns.any fun x => x == (other - k).fmod size)

theorem through {prog : Program} {w : World} {p : Program} {loose : List Str} {mean : ExcName → Option Value} {mg mb : Str → Option Value}
  (dp un : Nat) (gd : Option (List Code)) (cn : Str) (cs : Scope) (a : Addr) (ccd : Value) (cl : List (Str × Addr)) (outer : List Env) (A₀ : Around) (base h₀ : Heap) (L : Addr) (m : Str → Option Value) (s : Shared) (l : Addr) (vs : List Value) (ns : List Int) (size one other : Int) (t1 t2 t3 : Tok)
  (Q E : Value → Shared → Prop)
  (B : Below A₀ base outer h₀) (F : Fr h₀ L s.heap m) (X : (Kf w.params).In h₀) (T : Top p loose mean mg mb h₀) (hk : cs.kind = .function)
  (hl : s.heap.IsList l vs.toArray) (hi : IntsAre vs ns) (hlen : ns.length ≤ 5) (hsz : 1 ≤ size ∧ size ≤ 21)
  (hdp : dp + 3 < recursionLimit) (hu : un + 30 < cLine)
  (hret : ∀ D ys n h' tk', s.heap.StaysIn h' → h'.get? D = some (W.listOf ys.toArray n) → s.heap.get? D = none → IntsAre ys (throughF ns size one other) → Q (.ref D) { s with heap := h', toks := tk' }) :
  wpAny (model prog w) (ktrTop dp un gd cn cs L a ccd cl outer) (call (.ref 338) [.ref l, .int size t1, .int one t2, .int other t3]) Q E s := by
  refine wpAny_call ?_
  k_dflt walk_at "enterC"
  k_steps
  (rename Fr _ _ _ _ => Fz)
  (rename News _ _ _ _ => Nz)
  (rename IntsAre _ _ => hIz)
  rw [fold_filter (fun k => (ns.any fun x => x == (one - k).fmod size) && (ns.any fun x => x == (other - k).fmod size)) _ (fun l k => by
    cases (ns.any fun x => x == (one - k).fmod size) <;> cases (ns.any fun x => x == (other - k).fmod size) <;> simp)] at hIz
  refine hret _ _ _ _ _ Fz.keep (Nz _ (.head _)).1 (Nz _ (.head _)).2.2 ?_
  simpa [throughF] using hIz

end

section

-- nofill
section
variable {prog : Program} {w : World} {A : Around} {E : Value → Shared → Prop} {s : Shared} {env : Env}

theorem get_new {h : Heap} {b : Addr} (hb : h.objs.size ≤ b) : h.get? b = none := by
  cases e : h.get? b with
  | none => rfl
  | some o => exact absurd (Heap.lt_size e) (Nat.not_lt.mpr hb)

/-- an element's end: what its value is; nothing that stood is changed -/
def EltEnd (s₂ : Shared) (h : Heap) (G : Value → Prop) (y : Value) (s₄ : Shared) : Prop := G y ∧ ∃ h' tk', s₄ = { s₂ with heap := h', toks := tk' } ∧ h.StaysIn h'

/-- what a comprehension's iterator must bring: a walk, the element's value at each turn (all else kept), the end -/
def PairSrc (prog : Program) (w : World) (A : Around) (env : Env) (elt : Expr) (xa xb : Str) (scope : Scope) (cl : List (Str × Addr)) (Q : Value → Shared → Prop) (it : Value) (s₂ : Shared) : Prop :=
  ∃ (I : Addr) (fp wr : List Addr) (n : Nat) (Pt : Nat → Array Value → Prop) (St : Nat → Heap → Prop) (Mid : Nat → Addr → Heap → Prop) (G : Nat → Value → Prop),
    it = .ref I ∧ A.handled = none ∧ WalksU prog w A I fp wr n Pt St Mid ∧ St 0 s₂.heap ∧ (∀ b ∈ fp, b < s₂.heap.objs.size) ∧ n ≤ sizeLine ∧ (∀ i vals, Pt i vals → ∃ va vb, vals = #[va, vb]) ∧
    (∀ i va vb C m₂ h tk E', i < n → Pt i #[va, vb] → (∀ b o, b ∉ wr → s₂.heap.get? b = some o → h.get? b = some o) → s₂.heap.objs.size ≤ C → h.Ns C m₂ → m₂ xa = some va → m₂ xb = some vb →
      wpAny (model prog w) A (eval elt (compEnvC scope cl C env)) (EltEnd s₂ h (G i)) E' { s₂ with heap := h, toks := tk }) ∧
    (∀ D ys h tk, ys.length = n → (∀ i y, ys[i]? = some y → G i y) → (∀ b o, b ∉ wr → s₂.heap.get? b = some o → h.get? b = some o) → h.get? D = some (LCg.lst ys) → s₂.heap.objs.size ≤ D → Q (.ref D) { s₂ with heap := h, toks := tk })

theorem compPairs {elt iter : Expr} {xa xb : Str} {pa pb pt : Pos} {kt : Nat} {scope : Scope} {cl : List (Str × Addr)} {pos : Pos} {Q : Value → Shared → Prop}
    (hclos : closureFor scope env = pure cl) (hcell : ∀ y ∈ scope.names, y.2 ≠ .cell) (hkind : scope.kind = .function)
    (hnames : ∀ y ∈ scope.names, y.2 = .local → scope.names.lookup y.1 = some .local) (hxa : scope.names.lookup xa = some .local) (hxb : scope.names.lookup xb = some .local) (hab : xa ≠ xb)
    (h : wpAny (model prog w) A (eval iter env) (fun xv s₁ => wpAny (model prog w) A (pyIter xv) (PairSrc prog w A env elt xa xb scope cl Q) E s₁) E s)
    (hs : ∀ x, foldedSetIterable iter env x = pure x := by intro _; rfl) :
    wpAny (model prog w) A (eval (.ListComp elt [⟨.Tuple [.Name xa pa, .Name xb pb] kt pt, iter, [], 0⟩] scope pos) env) Q E s := by
  rw [eval_ListComp]
  refine wpAny_comprehension_free (use := none) rfl hs hclos hkind hnames (wpAny_mono h (fun xv s₁ h₁ => wpAny_mono h₁ (fun it s₂ h₂ => ?_) fun _ _ e => e) fun _ _ e => e)
  obtain ⟨I, fp, wr, n, Pt, St, Mid, G, rfl, hh, W, hst, hfp, hsz, hpt, helt, hfin⟩ := h₂
  refine wpAny_newObj_type (wpAny_newFunctionEnv hcell (by intro y hy; simp at hy) (fun h₁ hns₁ hsb₁ => ?_) hkind)
  have hz : (s₂.heap.push { cls := .type "list", dict := none, data := .seq ([] : List Value).toArray }).objs.size = s₂.heap.objs.size + 1 := Heap.size_push ..
  dsimp only at hns₁ hsb₁ ⊢
  rw [hz] at hns₁ hsb₁ ⊢
  have hDC : s₂.heap.objs.size ≠ s₂.heap.objs.size + 1 := Nat.ne_of_lt (Nat.lt_succ_self _)
  have old : ∀ b o, s₂.heap.get? b = some o → h₁.get? b = some o := fun b o e =>
    hsb₁.extBut b o (Nat.ne_of_lt (Nat.lt_succ_of_lt (Heap.lt_size e))) (Heap.get?_push_of_some _ (Heap.get?_push_of_some _ e))
  have hD₁ : h₁.get? s₂.heap.objs.size = some (LCg.lst []) := hsb₁.extBut _ _ hDC (Heap.get?_push_of_some _ (Heap.get?_push_size _ rfl))
  have hDw : s₂.heap.objs.size ∉ wr := fun hm => Nat.lt_irrefl _ (hfp _ (W.sub _ hm))
  have hCw : s₂.heap.objs.size + 1 ∉ wr := fun hm => Nat.lt_irrefl _ (Nat.lt_of_succ_lt (hfp _ (W.sub _ hm)))
  have hst₁ : St 0 h₁ := W.frame _ _ _ hst fun b _ o e => old b o e
  have loop : ∀ tk₀, codeAny (model prog w) A (.compLoop (.ListComp elt [⟨.Tuple [.Name xa pa, .Name xb pb] kt pt, iter, [], 0⟩] scope pos) 0 (.ref I) (.ref s₂.heap.objs.size) (compEnvC scope cl (s₂.heap.objs.size + 1) env))
      (compPost (model prog w) A E none Q (.ref s₂.heap.objs.size) (s₂.heap.objs.size + 1)) { s₂ with heap := h₁, toks := tk₀ } := by
    intro tk₀
    refine LCp.codeAny_compLoop_pair
      (fun k s' => ∃ h tk i ys m', s' = { s₂ with heap := h, toks := tk } ∧ i ≤ n ∧ k = n + 1 - i ∧ ys.length = i ∧ St i h ∧ h.Ns (s₂.heap.objs.size + 1) m' ∧ h.get? s₂.heap.objs.size = some (LCg.lst ys) ∧
        (∀ b o, b ∉ wr → s₂.heap.get? b = some o → h.get? b = some o) ∧ ∀ j y, ys[j]? = some y → G j y) ?_ (n + 1)
      ⟨h₁, tk₀, 0, [], _, rfl, Nat.zero_le _, rfl, rfl, hst₁, hns₁, hD₁, fun b o _ e => old b o e, by simp⟩
    rintro k s' ⟨g, tk, i, ys, m', rfl, hi, rfl, hyl, hsti, hns, hD, keep, hG⟩
    by_cases hlt : i < n
    · refine W.item i _ _ _ hlt hsti fun T vals h₂ tk₂ hP hT hmid hk₂ => ?_
      obtain ⟨va, vb, rfl⟩ := hpt i vals hP
      dsimp only
      refine W.go _ _ _ i T _ _ _ hmid fun h₃ hst₃ hk₃ => ?_
      have hT₃ : h₃.IsTuple T #[va, vb] := let ⟨o, e, r⟩ := hT; ⟨o, hk₃ T o (W.apart i T _ hmid) e, r⟩
      refine wpAny_assign_Tuple hh hT₃ rfl rfl fun h₄ he₄ => ?_
      have he₄' : ∀ b o, h₃.get? b = some o → h₄.get? b = some o := fun b o e => he₄ b o (Nat.ne_of_lt (Heap.lt_size e)) e
      have nsC : h₄.Ns (s₂.heap.objs.size + 1) m' := hns.at' fun o e => he₄' _ o (hk₃ _ o hCw (hk₂ _ o hCw e))
      refine assignInOrder_cons (wpAny_assign_Name (wpAny_storeName_local (lookup_relabel_local hxa) nsC (fun h₅ hn₅ hs₅ => ?_) (by simp [compEnvC, relabel, hkind])))
      refine assignInOrder_cons (wpAny_assign_Name (wpAny_storeName_local (lookup_relabel_local hxb) hn₅ (fun h₆ hn₆ hs₆ => ?_) (by simp [compEnvC, relabel, hkind])))
      refine assignInOrder_nil ?_
      have to6 : ∀ b o, b ≠ s₂.heap.objs.size + 1 → h₃.get? b = some o → h₆.get? b = some o := fun b o hb e => hs₆.extBut b o hb (hs₅.extBut b o hb (he₄' b o e))
      have keep₆ : ∀ b o, b ∉ wr → s₂.heap.get? b = some o → h₆.get? b = some o := fun b o hb e =>
        to6 b o (Nat.ne_of_lt (Nat.lt_succ_of_lt (Heap.lt_size e))) (hk₃ b o hb (hk₂ b o hb (keep b o hb e)))
      refine wpAny_mono (helt i va vb (s₂.heap.objs.size + 1) _ h₆ _ _ hlt hP keep₆ (Nat.le_succ _) hn₆ (by simp [hab]) (by simp)) (fun y s₄ hy => ?_) fun _ _ e => e
      obtain ⟨hGy, h₇, tk₇, rfl, hk₇⟩ := hy
      have hD₇ : h₇.get? s₂.heap.objs.size = some (LCg.lst ys) := hk₇ _ _ (to6 _ _ hDC (hk₃ _ _ hDw (hk₂ _ _ hDw hD)))
      refine append_at (hsz := by show ys.toArray.size ≤ sizeLine; rw [List.size_toArray, hyl]; exact Nat.le_trans hi hsz) hD₇ fun h₈ hs₈ hD₈ => ?_
      refine ⟨n + 1 - (i + 1), by omega, h₈, tk₇, i + 1, ys ++ [y], _, rfl, hlt, rfl, by rw [List.length_append, List.length_singleton, hyl], ?_, (hn₆.at' fun o e => hk₇ _ o e).sameBut hs₈ (Ne.symm hDC), hD₈.trans (congrArg some (LCg.lst_snoc ys y)), ?_, ?_⟩
      · refine W.frame _ _ _ hst₃ fun b hb o e => ?_
        have hlb := hfp b hb
        exact hs₈.extBut b o (Nat.ne_of_lt hlb) (hk₇ _ _ (to6 b o (Nat.ne_of_lt (Nat.lt_succ_of_lt hlb)) e))
      · intro b o hb e
        exact hs₈.extBut b o (Nat.ne_of_lt (Heap.lt_size e)) (hk₇ _ _ (keep₆ b o hb e))
      · intro j y' hj
        by_cases hji : j < ys.length
        · rw [List.getElem?_append_left hji] at hj
          exact hG j y' hj
        · rw [List.getElem?_append_right (Nat.not_lt.mp hji)] at hj
          have hj0 : j - ys.length = 0 := by
            cases q : j - ys.length with
            | zero => rfl
            | succ q' => rw [q] at hj; simp at hj
          rw [hj0] at hj
          simp at hj
          subst hj
          have : j = i := by omega
          subst this
          exact hGy
    · obtain rfl : i = n := Nat.le_antisymm hi (Nat.not_lt.mp hlt)
      refine W.done _ _ _ hsti fun h₂ tk₂ hk₂ => ?_
      refine ⟨m', hns.at' fun o e => hk₂ _ o hCw e, fun h₃ hs₃ => ?_⟩
      exact hfin _ ys h₃ _ hyl hG (fun b o hb e => hs₃.extBut b o (Nat.ne_of_lt (Nat.lt_succ_of_lt (Heap.lt_size e))) (hk₂ b o hb (keep b o hb e)))
        (hs₃.extBut _ _ hDC (hk₂ _ _ hDw hD)) (Nat.le_refl _)
  exact codeAny_compStart_list (loop _) (W.self 0 _ _ _ hst₁ (loop _))

/-- the same for one name -/
def OneSrc (prog : Program) (w : World) (A : Around) (env : Env) (elt : Expr) (xa : Str) (scope : Scope) (cl : List (Str × Addr)) (Q : Value → Shared → Prop) (it : Value) (s₂ : Shared) : Prop :=
  ∃ (I : Addr) (fp wr : List Addr) (n : Nat) (Pt : Nat → Value → Prop) (St : Nat → Heap → Prop) (G : Nat → Value → Prop),
    it = .ref I ∧ Walks prog w A I fp wr n Pt St ∧ St 0 s₂.heap ∧ (∀ b ∈ fp, b < s₂.heap.objs.size) ∧ n ≤ sizeLine ∧
    (∀ i va C m₂ h tk E', i < n → Pt i va → (∀ b o, b ∉ wr → s₂.heap.get? b = some o → h.get? b = some o) → s₂.heap.objs.size ≤ C → h.Ns C m₂ → m₂ xa = some va →
      wpAny (model prog w) A (eval elt (compEnvC scope cl C env)) (EltEnd s₂ h (G i)) E' { s₂ with heap := h, toks := tk }) ∧
    (∀ D ys h tk, ys.length = n → (∀ i y, ys[i]? = some y → G i y) → (∀ b o, b ∉ wr → s₂.heap.get? b = some o → h.get? b = some o) → h.get? D = some (LCg.lst ys) → s₂.heap.objs.size ≤ D → Q (.ref D) { s₂ with heap := h, toks := tk })

theorem compOne {elt iter : Expr} {xa : Str} {pa : Pos} {scope : Scope} {cl : List (Str × Addr)} {pos : Pos} {Q : Value → Shared → Prop}
    (hclos : closureFor scope env = pure cl) (hcell : ∀ y ∈ scope.names, y.2 ≠ .cell) (hkind : scope.kind = .function)
    (hnames : ∀ y ∈ scope.names, y.2 = .local → scope.names.lookup y.1 = some .local) (hxa : scope.names.lookup xa = some .local)
    (h : wpAny (model prog w) A (eval iter env) (fun xv s₁ => wpAny (model prog w) A (pyIter xv) (OneSrc prog w A env elt xa scope cl Q) E s₁) E s)
    (hs : ∀ x, foldedSetIterable iter env x = pure x := by intro _; rfl) :
    wpAny (model prog w) A (eval (.ListComp elt [⟨.Name xa pa, iter, [], 0⟩] scope pos) env) Q E s := by
  rw [eval_ListComp]
  refine wpAny_comprehension_free (use := none) rfl hs hclos hkind hnames (wpAny_mono h (fun xv s₁ h₁ => wpAny_mono h₁ (fun it s₂ h₂ => ?_) fun _ _ e => e) fun _ _ e => e)
  obtain ⟨I, fp, wr, n, Pt, St, G, rfl, W, hst, hfp, hsz, helt, hfin⟩ := h₂
  refine wpAny_newObj_type (wpAny_newFunctionEnv hcell (by intro y hy; simp at hy) (fun h₁ hns₁ hsb₁ => ?_) hkind)
  have hz : (s₂.heap.push { cls := .type "list", dict := none, data := .seq ([] : List Value).toArray }).objs.size = s₂.heap.objs.size + 1 := Heap.size_push ..
  dsimp only at hns₁ hsb₁ ⊢
  rw [hz] at hns₁ hsb₁ ⊢
  have hDC : s₂.heap.objs.size ≠ s₂.heap.objs.size + 1 := Nat.ne_of_lt (Nat.lt_succ_self _)
  have old : ∀ b o, s₂.heap.get? b = some o → h₁.get? b = some o := fun b o e =>
    hsb₁.extBut b o (Nat.ne_of_lt (Nat.lt_succ_of_lt (Heap.lt_size e))) (Heap.get?_push_of_some _ (Heap.get?_push_of_some _ e))
  have hD₁ : h₁.get? s₂.heap.objs.size = some (LCg.lst []) := hsb₁.extBut _ _ hDC (Heap.get?_push_of_some _ (Heap.get?_push_size _ rfl))
  have hDw : s₂.heap.objs.size ∉ wr := fun hm => Nat.lt_irrefl _ (hfp _ (W.sub _ hm))
  have hCw : s₂.heap.objs.size + 1 ∉ wr := fun hm => Nat.lt_irrefl _ (Nat.lt_of_succ_lt (hfp _ (W.sub _ hm)))
  have hst₁ : St 0 h₁ := W.frame _ _ _ hst fun b _ o e => old b o e
  have loop : ∀ tk₀, codeAny (model prog w) A (.compLoop (.ListComp elt [⟨.Name xa pa, iter, [], 0⟩] scope pos) 0 (.ref I) (.ref s₂.heap.objs.size) (compEnvC scope cl (s₂.heap.objs.size + 1) env))
      (compPost (model prog w) A E none Q (.ref s₂.heap.objs.size) (s₂.heap.objs.size + 1)) { s₂ with heap := h₁, toks := tk₀ } := by
    intro tk₀
    refine codeAny_compLoop_list
      (fun k s' => ∃ h tk i ys m', s' = { s₂ with heap := h, toks := tk } ∧ i ≤ n ∧ k = n + 1 - i ∧ ys.length = i ∧ St i h ∧ h.Ns (s₂.heap.objs.size + 1) m' ∧ h.get? s₂.heap.objs.size = some (LCg.lst ys) ∧
        (∀ b o, b ∉ wr → s₂.heap.get? b = some o → h.get? b = some o) ∧ ∀ j y, ys[j]? = some y → G j y) ?_ (n + 1)
      ⟨h₁, tk₀, 0, [], _, rfl, Nat.zero_le _, rfl, rfl, hst₁, hns₁, hD₁, fun b o _ e => old b o e, by simp⟩
    rintro k s' ⟨g, tk, i, ys, m', rfl, hi, rfl, hyl, hsti, hns, hD, keep, hG⟩
    by_cases hlt : i < n
    · refine W.item i _ _ _ hlt hsti fun va h₃ tk₂ hP hst₃ hk₃ => ?_
      dsimp only
      refine wpAny_assign_Name (wpAny_storeName_local (lookup_relabel_local hxa) (hns.at' fun o e => hk₃ _ o hCw e) (fun h₆ hn₆ hs₆ => ?_) (by simp [compEnvC, relabel, hkind]))
      have to6 : ∀ b o, b ≠ s₂.heap.objs.size + 1 → h₃.get? b = some o → h₆.get? b = some o := fun b o hb e => hs₆.extBut b o hb e
      have keep₆ : ∀ b o, b ∉ wr → s₂.heap.get? b = some o → h₆.get? b = some o := fun b o hb e =>
        to6 b o (Nat.ne_of_lt (Nat.lt_succ_of_lt (Heap.lt_size e))) (hk₃ b o hb (keep b o hb e))
      refine wpAny_mono (helt i va (s₂.heap.objs.size + 1) _ h₆ _ _ hlt hP keep₆ (Nat.le_succ _) hn₆ (by simp)) (fun y s₄ hy => ?_) fun _ _ e => e
      obtain ⟨hGy, h₇, tk₇, rfl, hk₇⟩ := hy
      have hD₇ : h₇.get? s₂.heap.objs.size = some (LCg.lst ys) := hk₇ _ _ (to6 _ _ hDC (hk₃ _ _ hDw hD))
      refine append_at (hsz := by show ys.toArray.size ≤ sizeLine; rw [List.size_toArray, hyl]; exact Nat.le_trans hi hsz) hD₇ fun h₈ hs₈ hD₈ => ?_
      refine ⟨n + 1 - (i + 1), by omega, h₈, tk₇, i + 1, ys ++ [y], _, rfl, hlt, rfl, by rw [List.length_append, List.length_singleton, hyl], ?_, (hn₆.at' fun o e => hk₇ _ o e).sameBut hs₈ (Ne.symm hDC), hD₈.trans (congrArg some (LCg.lst_snoc ys y)), ?_, ?_⟩
      · refine W.frame _ _ _ hst₃ fun b hb o e => ?_
        have hlb := hfp b hb
        exact hs₈.extBut b o (Nat.ne_of_lt hlb) (hk₇ _ _ (to6 b o (Nat.ne_of_lt (Nat.lt_succ_of_lt hlb)) e))
      · intro b o hb e
        exact hs₈.extBut b o (Nat.ne_of_lt (Heap.lt_size e)) (hk₇ _ _ (keep₆ b o hb e))
      · intro j y' hj
        by_cases hji : j < ys.length
        · rw [List.getElem?_append_left hji] at hj
          exact hG j y' hj
        · rw [List.getElem?_append_right (Nat.not_lt.mp hji)] at hj
          have hj0 : j - ys.length = 0 := by
            cases q : j - ys.length with
            | zero => rfl
            | succ q' => rw [q] at hj; simp at hj
          rw [hj0] at hj
          simp at hj
          subst hj
          have : j = i := by omega
          subst this
          exact hGy
    · obtain rfl : i = n := Nat.le_antisymm hi (Nat.not_lt.mp hlt)
      refine W.done _ _ _ hsti fun h₂ tk₂ hk₂ => ?_
      refine ⟨m', hns.at' fun o e => hk₂ _ o hCw e, fun h₃ hs₃ => ?_⟩
      exact hfin _ ys h₃ _ hyl hG (fun b o hb e => hs₃.extBut b o (Nat.ne_of_lt (Nat.lt_succ_of_lt (Heap.lt_size e))) (hk₂ b o hb (keep b o hb e)))
        (hs₃.extBut _ _ hDC (hk₂ _ _ hDw hD)) (Nat.le_refl _)
  exact codeAny_compStart_list (loop _) (W.self 0 _ _ _ hst₁ (loop _))

theorem oneList {elt : Expr} {xa : Str} {scope : Scope} {cl : List (Str × Addr)} {Q : Value → Shared → Prop} {l : Addr} {vs : List Value} (G : Nat → Value → Prop)
    (hh : A.handled = none) (hl : s.heap.IsList l vs.toArray) (hsz : vs.length ≤ sizeLine)
    (helt : ∀ i va C m₂ h tk E', vs[i]? = some va → s.heap.StaysIn h → s.heap.objs.size < C → h.Ns C m₂ → m₂ xa = some va →
      wpAny (model prog w) A (eval elt (compEnvC scope cl C env)) (EltEnd s h (G i)) E' { s with heap := h, toks := tk })
    (hfin : ∀ D ys h tk, ys.length = vs.length → (∀ i y, ys[i]? = some y → G i y) → s.heap.StaysIn h → h.get? D = some (LCg.lst ys) → s.heap.objs.size < D → Q (.ref D) { s with heap := h, toks := tk }) :
    wpAny (model prog w) A (pyIter (.ref l)) (OneSrc prog w A env elt xa scope cl Q) E s := by
  have hlt : l < s.heap.objs.size := by obtain ⟨_, e, _⟩ := hl; exact Heap.lt_size e
  have hz : (s.heap.push { cls := .type "list_iterator", data := .fields #[.ref l, .int 0 0] }).objs.size = s.heap.objs.size + 1 := Heap.size_push ..
  have up : ∀ b o, s.heap.get? b = some o → (s.heap.push { cls := .type "list_iterator", data := .fields #[.ref l, .int 0 0] }).get? b = some o := fun b o e => Heap.get?_push_of_some _ e
  have stays : ∀ h : Heap, (∀ b o, b ∉ [s.heap.objs.size] → (s.heap.push { cls := .type "list_iterator", data := .fields #[.ref l, .int 0 0] }).get? b = some o → h.get? b = some o) → s.heap.StaysIn h :=
    fun h k b o e => k b o (by simpa using Nat.ne_of_lt (Heap.lt_size e)) (up b o e)
  refine wpAny_pyIter_list hl ?_
  refine ⟨s.heap.objs.size, [s.heap.objs.size, l], [s.heap.objs.size], _, _, _, G, rfl, Walks.list hh s.heap.objs.size l (Nat.ne_of_lt hlt) vs.toArray, ⟨⟨_, Heap.get?_push_size _ rfl, rfl, rfl⟩, hl.push _⟩, ?_, by simpa using hsz, ?_, ?_⟩
  · intro b hb
    show b < (s.heap.push _).objs.size
    rw [hz]
    rcases List.mem_cons.mp hb with rfl | hb
    · exact Nat.lt_succ_self _
    · rw [List.mem_singleton.mp hb]; exact Nat.lt_succ_of_lt hlt
  · intro i va C m₂ h tk E' _ hP hkeep hC hns hm
    exact helt i va C m₂ h tk E' (by simpa using hP) (stays h hkeep) (by have : (s.heap.push _).objs.size ≤ C := hC; rw [hz] at this; exact this) hns hm
  · intro D ys h tk hln hG hkeep hD hDs
    exact hfin D ys h tk (by simpa using hln) hG (stays h hkeep) hD (by have : (s.heap.push _).objs.size ≤ D := hDs; rw [hz] at this; exact this)
end

end

section

local macro_rules | `(tactic| walk_at "enterC") => `(tactic| (refine' enterC ?k1 ?k2 ?k3 ?k4 ?kA ?kF ?kK ?k6 ?k7 ?k8 ?k9 ?kB ?kD ?_ ?c2 ?c3 ?c4; (case kA => exact rfl); (case kF => exact rfl); (case kK => assumption); (case k1 => k_asm); (case k2 => k_asm); (case k3 => k_asm); (case k4 => k_asm); (case k6 => k_is); (case k7 => k_is); (case k8 => ktr_room); (case k9 => exact BindsTo.of_eq rfl); (case kB => exact rfl); (case kD => decide +kernel); (case c2 => exact rfl); (case c3 => exact rfl); (case c4 => exact rfl); k_whole; intro L' h' tk' cells' F' N' Y' B' X' T' hL'; k_cells Y'; (try simp only [List.cons_append, List.nil_append] at N'); (try dsimp only); (try k_fold)))
local macro_rules | `(tactic| walk_at "enterP") => `(tactic| (refine' enterP ?k1 ?k2 ?k3 ?k4 ?kA ?kF ?kK ?k6 ?k7 ?k8 ?k9 ?kB ?_ ?c2 ?c3 ?c4 ?c5; (case kA => exact rfl); (case kF => exact rfl); (case kK => assumption); (case k1 => k_asm); (case k2 => k_asm); (case k3 => k_asm); (case k4 => k_asm); (case k6 => k_is); (case k7 => k_is); (case k8 => ktr_room); (case k9 => exact BindsTo.of_eq rfl); (case c5 => decide); (case kB => exact locs rfl); (case c2 => exact rfl); (case c3 => exact rfl); (case c4 => exact rfl); k_whole; intro L' h' F' N' B' X' T' hL'; (try dsimp only); (try k_fold)))
local macro_rules | `(tactic| walk_at "m_toComp") => `(tactic| repeat ((fail_if_success (with_reducible show wpAny _ _ (eval (PySem.Expr.ListComp _ _ _ _) _) _ _ _)); first | (k_unfold; (try dsimp only)) | walk1 | (dsimp only; walk1)))
local macro_rules | `(tactic| walk_at "m_toCompCall") => `(tactic| repeat' ((fail_if_success (with_reducible show wpAny _ _ (eval (PySem.Expr.ListComp (PySem.Expr.BinOp (PySem.Expr.Call _ _ _ _) _ _ _) _ _ _) _) _ _ _)); first | (k_unfold; (try dsimp only)) | walk1 | (dsimp only; walk1)))
local macro_rules | `(tactic| walk_at "m_units") => `(tactic| ((try simp only [units_in1, units_deeper, Around.mark_units, units_caller]); (try dsimp only [ktrTop]); omega))
local macro_rules | `(tactic| walk_at "compareOp Eq ref ref") => `(tactic| (k_here; (with_reducible show wpAny _ _ (compareOp CmpOp.Eq (Value.ref _) (Value.ref _)) _ _ _); (with_unfolding_all refine' eq_intsK ?k1 ?k2 ?k3 ?k4 ?k5 ?_; (case k1 => is_list); (case k2 => l_ints); (case k3 => is_list); (case k4 => l_ints); (case k5 => walk_at "m_units"); k_whole)))
local macro_rules | `(tactic| walk_at "compareOp NotEq ref ref") => `(tactic| (k_here; (with_reducible show wpAny _ _ (compareOp CmpOp.NotEq (Value.ref _) (Value.ref _)) _ _ _); (with_unfolding_all refine' ne_intsK ?k1 ?k2 ?k3 ?k4 ?k5 ?_; (case k1 => is_list); (case k2 => l_ints); (case k3 => is_list); (case k4 => l_ints); (case k5 => walk_at "m_units"); k_whole)))
local macro_rules | `(tactic| walk_at "m_toWhile") => `(tactic| repeat' ((fail_if_success (with_reducible show wpAny _ _ (exec (PySem.Stmt.While _ _ _ _) _) _ _ _)); first | (k_unfold; (try dsimp only)) | walk1 | (dsimp only; walk1)))
local macro_rules | `(tactic| walk_at "m_toFor") => `(tactic| repeat' ((fail_if_success (with_reducible show wpAny _ _ (exec (PySem.Stmt.For _ _ _ _ _) _) _ _ _)); first | (k_unfold; (try dsimp only)) | walk1 | (dsimp only; walk1)))
local macro_rules | `(tactic| walk_at "enterD") => `(tactic| (refine' code_defG ?k1 ?k2 ?k3 ?k4 ?k5 ?kA ?kF ?kK ?k6 ?k7 ?k8 ?k9 ?kB ?_ ?c2 ?c3 ?c4 ?c5; (case kA => exact rfl); (case kF => exact rfl); (case kK => first | exact rfl | assumption); (case k1 => k_asm); (case k2 => k_asm); (case k3 => k_asm); (case k4 => k_asm); (case k5 => k_asm); (case k6 => k_is); (case k7 => k_is); (case k8 => ktr_room); (case k9 => first | exact BindsTo.of_eq rfl | exact binds_K (by k_in) rfl (by k_is) rfl rfl rfl); (case c5 => decide); (case kB => exact locs rfl); (case c2 => exact rfl); (case c3 => exact rfl); (case c4 => exact rfl); k_whole; intro g' L' h' FG' F' N' B' X' T' kG'; (try dsimp only); (try k_fold)))

theorem fr_stay {h₀ h h' : Heap} {L : Addr} {m : Str → Option Value} (F : Fr h₀ L h m) (st : h.StaysIn h') : Fr h₀ L h' m := F.keeps st
theorem news_stay {h₀ h h' : Heap} {L : Addr} {news : List (Addr × Obj)} (N : News h₀ L h news) (st : h.StaysIn h') : News h₀ L h' news := fun p hp => ⟨st _ _ (N p hp).1, (N p hp).2⟩
theorem elt_stay {s₂ h h' : Heap} (E : InElt s₂ h) (st : h.StaysIn h') : InElt s₂ h' := fun b o e => st b o (E b o e)
theorem news_more {h₀ h h' : Heap} {L a : Addr} {o : Obj} {m : Str → Option Value} {news : List (Addr × Obj)} (F : Fr h₀ L h m) (N : News h₀ L h news) (st : h.StaysIn h') (e : h'.get? a = some o) (h0 : h.get? a = none) : News h₀ L h' ((a, o) :: news) := by
  refine more_news (news_stay N st) e (fun q => ?_) ?_
  · obtain ⟨oL, _, _, hL, _⟩ := F.ns
    rw [q, hL] at h0; cases h0
  · cases q : h₀.get? a with
    | none => rfl
    | some o' => have := F.keep a o' q; rw [h0] at this; cases this

abbrev RetInt (s : Shared) (Q : Value → Shared → Prop) (n : Int) : Prop := ∀ (t : Tok) (h' : Heap) (tk' : Nat), s.heap.StaysIn h' → Q (.int n t) { s with heap := h', toks := tk' }

section
variable {prog : Program} {w : World} {p : Program} {loose : List Str} {mean : ExcName → Option Value} {mg mb : Str → Option Value} {dp un : Nat} {gd : Option (List Code)} {cn : Str} {cs : Scope} {a : Addr} {ccd : Value} {cl : List (Str × Addr)} {outer : List Env} {A₀ : Around} {base h₀ : Heap} {L : Addr} {m : Str → Option Value} {s : Shared} {x y : Int} {t1 t2 : Tok} {Q E : Value → Shared → Prop}
theorem opSub (B : Below A₀ base outer h₀) (F : Fr h₀ L s.heap m) (X : (Kf w.params).In h₀) (T : Top p loose mean mg mb h₀) (hk : cs.kind = .function) (hdp : dp + 1 < recursionLimit) (hret : RetInt s Q (x - y)) :
  wpAny (model prog w) (ktrTop dp un gd cn cs L a ccd cl outer) (call (.ref 210) [.int x t1, .int y t2]) Q E s := by
  refine wpAny_call ?_
  k_dflt walk_at "enterP"
  k_steps
  (rename Fr _ _ _ _ => Fz)
  exact hret _ _ _ Fz.keep
theorem opMul (B : Below A₀ base outer h₀) (F : Fr h₀ L s.heap m) (X : (Kf w.params).In h₀) (T : Top p loose mean mg mb h₀) (hk : cs.kind = .function) (hdp : dp + 1 < recursionLimit) (hx : 0 ≤ x ∧ x < 100) (hy : 0 ≤ y ∧ y < 100) (hret : RetInt s Q (x * y)) :
  wpAny (model prog w) (ktrTop dp un gd cn cs L a ccd cl outer) (call (.ref 203) [.int x t1, .int y t2]) Q E s := by
  refine wpAny_call ?_
  k_dflt walk_at "enterP"
  k_steps
  (rename Fr _ _ _ _ => Fz)
  exact hret _ _ _ Fz.keep
theorem opMod (B : Below A₀ base outer h₀) (F : Fr h₀ L s.heap m) (X : (Kf w.params).In h₀) (T : Top p loose mean mg mb h₀) (hk : cs.kind = .function) (hdp : dp + 1 < recursionLimit) (hy : 0 < y) (hret : RetInt s Q (x.fmod y)) :
  wpAny (model prog w) (ktrTop dp un gd cn cs L a ccd cl outer) (call (.ref 196) [.int x t1, .int y t2]) Q E s := by
  refine wpAny_call ?_
  k_dflt walk_at "enterP"
  k_steps
  (rename Fr _ _ _ _ => Fz)
  exact hret _ _ _ Fz.keep
theorem opAdd (B : Below A₀ base outer h₀) (F : Fr h₀ L s.heap m) (X : (Kf w.params).In h₀) (T : Top p loose mean mg mb h₀) (hk : cs.kind = .function) (hdp : dp + 1 < recursionLimit) (hret : RetInt s Q (x + y)) :
  wpAny (model prog w) (ktrTop dp un gd cn cs L a ccd cl outer) (call (.ref 189) [.int x t1, .int y t2]) Q E s := by
  refine wpAny_call ?_
  k_dflt walk_at "enterP"
  k_steps
  (rename Fr _ _ _ _ => Fz)
  exact hret _ _ _ Fz.keep
end

end

section

local macro_rules | `(tactic| walk_at "enterC") => `(tactic| (refine' enterC ?k1 ?k2 ?k3 ?k4 ?kA ?kF ?kK ?k6 ?k7 ?k8 ?k9 ?kB ?kD ?_ ?c2 ?c3 ?c4; (case kA => exact rfl); (case kF => exact rfl); (case kK => assumption); (case k1 => k_asm); (case k2 => k_asm); (case k3 => k_asm); (case k4 => k_asm); (case k6 => k_is); (case k7 => k_is); (case k8 => ktr_room); (case k9 => exact BindsTo.of_eq rfl); (case kB => exact rfl); (case kD => decide +kernel); (case c2 => exact rfl); (case c3 => exact rfl); (case c4 => exact rfl); k_whole; intro L' h' tk' cells' F' N' Y' B' X' T' hL'; k_cells Y'; (try simp only [List.cons_append, List.nil_append] at N'); (try dsimp only); (try k_fold)))
local macro_rules | `(tactic| walk_at "enterP") => `(tactic| (refine' enterP ?k1 ?k2 ?k3 ?k4 ?kA ?kF ?kK ?k6 ?k7 ?k8 ?k9 ?kB ?_ ?c2 ?c3 ?c4 ?c5; (case kA => exact rfl); (case kF => exact rfl); (case kK => assumption); (case k1 => k_asm); (case k2 => k_asm); (case k3 => k_asm); (case k4 => k_asm); (case k6 => k_is); (case k7 => k_is); (case k8 => ktr_room); (case k9 => exact BindsTo.of_eq rfl); (case c5 => decide); (case kB => exact locs rfl); (case c2 => exact rfl); (case c3 => exact rfl); (case c4 => exact rfl); k_whole; intro L' h' F' N' B' X' T' hL'; (try dsimp only); (try k_fold)))
local macro_rules | `(tactic| walk_at "m_toComp") => `(tactic| repeat ((fail_if_success (with_reducible show wpAny _ _ (eval (PySem.Expr.ListComp _ _ _ _) _) _ _ _)); first | (k_unfold; (try dsimp only)) | walk1 | (dsimp only; walk1)))
local macro_rules | `(tactic| walk_at "m_toCompCall") => `(tactic| repeat' ((fail_if_success (with_reducible show wpAny _ _ (eval (PySem.Expr.ListComp (PySem.Expr.BinOp (PySem.Expr.Call _ _ _ _) _ _ _) _ _ _) _) _ _ _)); first | (k_unfold; (try dsimp only)) | walk1 | (dsimp only; walk1)))
local macro_rules | `(tactic| walk_at "m_units") => `(tactic| ((try simp only [units_in1, units_deeper, Around.mark_units, units_caller]); (try dsimp only [ktrTop]); omega))
local macro_rules | `(tactic| walk_at "compareOp Eq ref ref") => `(tactic| (k_here; (with_reducible show wpAny _ _ (compareOp CmpOp.Eq (Value.ref _) (Value.ref _)) _ _ _); (with_unfolding_all refine' eq_intsK ?k1 ?k2 ?k3 ?k4 ?k5 ?_; (case k1 => is_list); (case k2 => l_ints); (case k3 => is_list); (case k4 => l_ints); (case k5 => walk_at "m_units"); k_whole)))
local macro_rules | `(tactic| walk_at "compareOp NotEq ref ref") => `(tactic| (k_here; (with_reducible show wpAny _ _ (compareOp CmpOp.NotEq (Value.ref _) (Value.ref _)) _ _ _); (with_unfolding_all refine' ne_intsK ?k1 ?k2 ?k3 ?k4 ?k5 ?_; (case k1 => is_list); (case k2 => l_ints); (case k3 => is_list); (case k4 => l_ints); (case k5 => walk_at "m_units"); k_whole)))
local macro_rules | `(tactic| walk_at "m_toWhile") => `(tactic| repeat' ((fail_if_success (with_reducible show wpAny _ _ (exec (PySem.Stmt.While _ _ _ _) _) _ _ _)); first | (k_unfold; (try dsimp only)) | walk1 | (dsimp only; walk1)))
local macro_rules | `(tactic| walk_at "m_toFor") => `(tactic| repeat' ((fail_if_success (with_reducible show wpAny _ _ (exec (PySem.Stmt.For _ _ _ _ _) _) _ _ _)); first | (k_unfold; (try dsimp only)) | walk1 | (dsimp only; walk1)))
local macro_rules | `(tactic| walk_at "enterD") => `(tactic| (refine' code_defG ?k1 ?k2 ?k3 ?k4 ?k5 ?kA ?kF ?kK ?k6 ?k7 ?k8 ?k9 ?kB ?_ ?c2 ?c3 ?c4 ?c5; (case kA => exact rfl); (case kF => exact rfl); (case kK => first | exact rfl | assumption); (case k1 => k_asm); (case k2 => k_asm); (case k3 => k_asm); (case k4 => k_asm); (case k5 => k_asm); (case k6 => k_is); (case k7 => k_is); (case k8 => ktr_room); (case k9 => first | exact BindsTo.of_eq rfl | exact binds_K (by k_in) rfl (by k_is) rfl rfl rfl); (case c5 => decide); (case kB => exact locs rfl); (case c2 => exact rfl); (case c3 => exact rfl); (case c4 => exact rfl); k_whole; intro g' L' h' FG' F' N' B' X' T' kG'; (try dsimp only); (try k_fold)))

local macro_rules | `(tactic| walk_at "m_post") => `(tactic| (intro t9 h9 tk9 st9; (have F9 := fr_stay (by assumption) st9); (have N9 := news_stay (by assumption) st9); (try have kE9 := elt_stay (by assumption) st9); (try dsimp only); k_sweep; (try k_fold)))
local macro_rules | `(tactic| walk_at "call ref") => `(tactic| (k_here; (with_reducible show wpAny _ _ (call (Value.ref _) [Value.int _ _, Value.int _ _]) _ _ _); k_dflt (first
  | (refine' opSub ?k1 ?k2 ?k3 ?k4 ?k5 ?k6 ?_; (case k1 => k_asm); (case k2 => k_asm); (case k3 => k_asm); (case k4 => k_asm); (case k5 => first | exact rfl | assumption); (case k6 => ktr_room))
  | (refine' opAdd ?k1 ?k2 ?k3 ?k4 ?k5 ?k6 ?_; (case k1 => k_asm); (case k2 => k_asm); (case k3 => k_asm); (case k4 => k_asm); (case k5 => first | exact rfl | assumption); (case k6 => ktr_room))
  | (refine' opMod ?k1 ?k2 ?k3 ?k4 ?k5 ?k6 ?k7 ?_; (case k1 => k_asm); (case k2 => k_asm); (case k3 => k_asm); (case k4 => k_asm); (case k5 => first | exact rfl | assumption); (case k6 => ktr_room); (case k7 => omega))
  | (refine' opMul ?k1 ?k2 ?k3 ?k4 ?k5 ?k6 ?k7 ?k8 ?_; (case k1 => k_asm); (case k2 => k_asm); (case k3 => k_asm); (case k4 => k_asm); (case k5 => first | exact rfl | assumption); (case k6 => ktr_room); (case k7 => omega); (case k8 => omega))); walk_at "m_post"))

theorem sizes {prog : Program} {w : World} {p : Program} {loose : List Str} {mean : ExcName → Option Value} {mg mb : Str → Option Value}
  (dp un : Nat) (gd : Option (List Code)) (cn : Str) (cs : Scope) (a : Addr) (ccd : Value) (cl : List (Str × Addr)) (outer : List Env) (A₀ : Around) (base h₀ : Heap) (L : Addr) (m : Str → Option Value) (s : Shared) (l : Addr) (vs : List Value) (ns : List Int) (size : Int) (t1 : Tok)
  (Q E : Value → Shared → Prop)
  (B : Below A₀ base outer h₀) (F : Fr h₀ L s.heap m) (X : (Kf w.params).In h₀) (T : Top p loose mean mg mb h₀) (hk : cs.kind = .function)
  (hl : s.heap.IsList l vs.toArray) (hi : IntsAre vs ns) (hlen : ns.length ≤ 5) (hsz : 1 ≤ size ∧ size ≤ 21)
  (hdp : dp + 3 < recursionLimit) (hu : un + 30 < cLine)
  (hret : ∀ D ys n h' tk', s.heap.StaysIn h' → h'.get? D = some (W.listOf ys.toArray n) → s.heap.get? D = none → IntsAre ys (sizesF ns size) → Q (.ref D) { s with heap := h', toks := tk' }) :
  wpAny (model prog w) (ktrTop dp un gd cn cs L a ccd cl outer) (call (.ref 309) [.ref l, .int size t1]) Q E s := by
  refine wpAny_call ?_
  k_dflt walk_at "enterC"
  iterate 13 (first | (k_unfold; (try dsimp only)) | walk1 | (dsimp only; walk1))
  refine compPairs (by with_unfolding_all rfl) (by decide) (by rfl) (by decide) (by rfl) (by rfl) (by decide) ?_
  k_fold
  k_steps
  show wpAny (model prog w) _ (pyIter _) _ _ _
  rename_i hp z TI TO i1 i2 zD zz zF hk0 kz kTO k1 k2 zL kz2 kTO2 k12 k22 hle zN
  dsimp only
  refine wpAny_pyIter_zip zz.1 ?_
  obtain ⟨z1, z2, ⟨_, _, z3⟩, z4, z5, z6, z7⟩ := zz
  obtain ⟨L1, L2, L3, L4⟩ := zL
  (rename List.Pairwise _ _ => hsorted)
  (rename List.Perm _ ns => hperm)
  have hrow := isort_unique hperm hsorted
  have hlv := (IntsAre.length (by assumption : IntsAre _ (List.drop 1 _ ++ _)))
  refine ⟨z, [z, TI, TO, i1, i2, _, _], [z, TO, i1, i2], _, _, _, _, (fun i y => ∃ x1 x2 t, (isort ns)[i]? = some x1 ∧ (List.drop 1 (isort ns) ++ List.take 1 (isort ns))[i]? = some x2 ∧ y = Value.int ((x2 - x1).fmod size) t), rfl, rfl, (WalksT.zip2 rfl z TI TO i1 i2 _ _ zD _ _).toU, ⟨z1, z2, ⟨_, _, z3⟩, z4, z5, z6, z7⟩, ?_, ?_, ?_, ?_, ?_⟩
  · intro b hb
    simp only [List.mem_cons, List.not_mem_nil, or_false] at hb
    rcases hb with rfl | rfl | rfl | rfl | rfl | rfl | rfl
    · exact Heap.lt_size z1
    · exact Heap.lt_size z2
    · exact Heap.lt_size z3
    · obtain ⟨_, e, _⟩ := z4; exact Heap.lt_size e
    · obtain ⟨_, e, _⟩ := z5; exact Heap.lt_size e
    · obtain ⟨_, e, _⟩ := z6; exact Heap.lt_size e
    · obtain ⟨_, e, _⟩ := z7; exact Heap.lt_size e
  · refine Nat.le_trans (Nat.min_le_left _ _) ?_
    rw [List.size_toArray, IntsAre.length (by assumption)]
    rw [sizeLine_eq]; omega
  · rintro i vals ⟨x, y, _, _, h⟩; exact ⟨x, y, h⟩
  · intro i va vb C m₂ h tk2 E' hi2 hP hkeep hC hns hma hmb
    obtain ⟨x, y, hx, hy, hxy⟩ := hP
    obtain ⟨oC, heC, hoC⟩ := LCg.ns_obj hns
    have hv : va = x ∧ vb = y := by simpa using hxy
    obtain ⟨rfl, rfl⟩ := hv
    rw [List.getElem?_toArray] at hx hy
    obtain ⟨ka, ta, hka, rfl⟩ := ints_at (by assumption) hx
    obtain ⟨kb, tb, hkb, rfl⟩ := ints_at (by assumption) hy
    rw [hrow] at hka hkb
    have hLs : s.heap.objs.size ≤ C := Nat.le_trans zF.above (Nat.le_trans (Nat.le_of_lt zF.ns.lt) hC)
    have F2 := Fr.mk (zF.ns.at' fun o e => hkeep _ o (by simp only [List.mem_cons, List.not_mem_nil, or_false, not_or]; exact ⟨Nat.ne_of_lt L1, Nat.ne_of_lt L2, Nat.ne_of_lt L3, Nat.ne_of_lt L4⟩) e)
      (fun b o e => hkeep b o (by
        have hb : b < _ := Nat.lt_of_lt_of_le (Heap.lt_size e) zF.above
        simp only [List.mem_cons, List.not_mem_nil, or_false, not_or]; exact ⟨Nat.ne_of_lt (Nat.lt_trans hb L1), Nat.ne_of_lt (Nat.lt_trans hb L2), Nat.ne_of_lt (Nat.lt_trans hb L3), Nat.ne_of_lt (Nat.lt_trans hb L4)⟩) (zF.keep b o e)) zF.above
    have N2 := fun p hp => (show _ from And.intro (hkeep p.1 p.2 (by
        have hb := hle p hp
        simp only [List.mem_cons, List.not_mem_nil, or_false, not_or]; exact ⟨Nat.ne_of_lt (Nat.lt_of_le_of_lt hb kz2), Nat.ne_of_lt (Nat.lt_of_le_of_lt hb kTO2), Nat.ne_of_lt (Nat.lt_of_le_of_lt hb k12), Nat.ne_of_lt (Nat.lt_of_le_of_lt hb k22)⟩) (zN p hp).1) (zN p hp).2)
    have N3 := more_news N2 heC (Nat.ne_of_gt (Nat.lt_of_lt_of_le zF.ns.lt hC)) (get_new hLs)
    clear N2 zN zF
    have kE := InElt.start h
    show wpAny (model prog w) _ (eval _ _) _ _ _
    k_fold
    k_steps
    exact ⟨⟨_, _, _, hka, hkb, rfl⟩, _, _, rfl, by assumption⟩
  · intro D ys h tk hln hG hkeep hD hDsz
    have hLD : s.heap.objs.size ≤ D := Nat.le_trans zF.above (Nat.le_trans (Nat.le_of_lt zF.ns.lt) hDsz)
    refine hret D ys _ h tk (fun b o e => hkeep b o (by
        have hb : b < _ := Nat.lt_of_lt_of_le (Heap.lt_size e) zF.above
        simp only [List.mem_cons, List.not_mem_nil, or_false, not_or]; exact ⟨Nat.ne_of_lt (Nat.lt_trans hb L1), Nat.ne_of_lt (Nat.lt_trans hb L2), Nat.ne_of_lt (Nat.lt_trans hb L3), Nat.ne_of_lt (Nat.lt_trans hb L4)⟩) (zF.keep b o e)) hD (get_new hLD) ?_
    have hl1 := IntsAre.length (by assumption : IntsAre _ (List.drop 1 _ ++ _))
    refine ints_of ?_ ?_
    · rw [hln]
      simp only [sizesF, List.length_zipWith, List.size_toArray]
      rw [hl1, IntsAre.length (by assumption), hrow]
    · intro i y hy
      obtain ⟨x1, x2, t, e1, e2, rfl⟩ := hG i y hy
      refine ⟨t, _, ?_, rfl⟩
      simp only [sizesF, List.getElem?_zipWith, e1, e2]

end

section

local macro_rules | `(tactic| walk_at "enterC") => `(tactic| (refine' enterC ?k1 ?k2 ?k3 ?k4 ?kA ?kF ?kK ?k6 ?k7 ?k8 ?k9 ?kB ?kD ?_ ?c2 ?c3 ?c4; (case kA => exact rfl); (case kF => exact rfl); (case kK => assumption); (case k1 => k_asm); (case k2 => k_asm); (case k3 => k_asm); (case k4 => k_asm); (case k6 => k_is); (case k7 => k_is); (case k8 => ktr_room); (case k9 => exact BindsTo.of_eq rfl); (case kB => exact rfl); (case kD => decide +kernel); (case c2 => exact rfl); (case c3 => exact rfl); (case c4 => exact rfl); k_whole; intro L' h' tk' cells' F' N' Y' B' X' T' hL'; k_cells Y'; (try simp only [List.cons_append, List.nil_append] at N'); (try dsimp only); (try k_fold)))
local macro_rules | `(tactic| walk_at "enterP") => `(tactic| (refine' enterP ?k1 ?k2 ?k3 ?k4 ?kA ?kF ?kK ?k6 ?k7 ?k8 ?k9 ?kB ?_ ?c2 ?c3 ?c4 ?c5; (case kA => exact rfl); (case kF => exact rfl); (case kK => assumption); (case k1 => k_asm); (case k2 => k_asm); (case k3 => k_asm); (case k4 => k_asm); (case k6 => k_is); (case k7 => k_is); (case k8 => ktr_room); (case k9 => exact BindsTo.of_eq rfl); (case c5 => decide); (case kB => exact locs rfl); (case c2 => exact rfl); (case c3 => exact rfl); (case c4 => exact rfl); k_whole; intro L' h' F' N' B' X' T' hL'; (try dsimp only); (try k_fold)))
local macro_rules | `(tactic| walk_at "m_toComp") => `(tactic| repeat ((fail_if_success (with_reducible show wpAny _ _ (eval (PySem.Expr.ListComp _ _ _ _) _) _ _ _)); first | (k_unfold; (try dsimp only)) | walk1 | (dsimp only; walk1)))
local macro_rules | `(tactic| walk_at "m_toCompCall") => `(tactic| repeat' ((fail_if_success (with_reducible show wpAny _ _ (eval (PySem.Expr.ListComp (PySem.Expr.BinOp (PySem.Expr.Call _ _ _ _) _ _ _) _ _ _) _) _ _ _)); first | (k_unfold; (try dsimp only)) | walk1 | (dsimp only; walk1)))
local macro_rules | `(tactic| walk_at "m_units") => `(tactic| ((try simp only [units_in1, units_deeper, Around.mark_units, units_caller]); (try dsimp only [ktrTop]); omega))
local macro_rules | `(tactic| walk_at "compareOp Eq ref ref") => `(tactic| (k_here; (with_reducible show wpAny _ _ (compareOp CmpOp.Eq (Value.ref _) (Value.ref _)) _ _ _); (with_unfolding_all refine' eq_intsK ?k1 ?k2 ?k3 ?k4 ?k5 ?_; (case k1 => is_list); (case k2 => l_ints); (case k3 => is_list); (case k4 => l_ints); (case k5 => walk_at "m_units"); k_whole)))
local macro_rules | `(tactic| walk_at "compareOp NotEq ref ref") => `(tactic| (k_here; (with_reducible show wpAny _ _ (compareOp CmpOp.NotEq (Value.ref _) (Value.ref _)) _ _ _); (with_unfolding_all refine' ne_intsK ?k1 ?k2 ?k3 ?k4 ?k5 ?_; (case k1 => is_list); (case k2 => l_ints); (case k3 => is_list); (case k4 => l_ints); (case k5 => walk_at "m_units"); k_whole)))
local macro_rules | `(tactic| walk_at "m_toWhile") => `(tactic| repeat' ((fail_if_success (with_reducible show wpAny _ _ (exec (PySem.Stmt.While _ _ _ _) _) _ _ _)); first | (k_unfold; (try dsimp only)) | walk1 | (dsimp only; walk1)))
local macro_rules | `(tactic| walk_at "m_toFor") => `(tactic| repeat' ((fail_if_success (with_reducible show wpAny _ _ (exec (PySem.Stmt.For _ _ _ _ _) _) _ _ _)); first | (k_unfold; (try dsimp only)) | walk1 | (dsimp only; walk1)))
local macro_rules | `(tactic| walk_at "enterD") => `(tactic| (refine' code_defG ?k1 ?k2 ?k3 ?k4 ?k5 ?kA ?kF ?kK ?k6 ?k7 ?k8 ?k9 ?kB ?_ ?c2 ?c3 ?c4 ?c5; (case kA => exact rfl); (case kF => exact rfl); (case kK => first | exact rfl | assumption); (case k1 => k_asm); (case k2 => k_asm); (case k3 => k_asm); (case k4 => k_asm); (case k5 => k_asm); (case k6 => k_is); (case k7 => k_is); (case k8 => ktr_room); (case k9 => first | exact BindsTo.of_eq rfl | exact binds_K (by k_in) rfl (by k_is) rfl rfl rfl); (case c5 => decide); (case kB => exact locs rfl); (case c2 => exact rfl); (case c3 => exact rfl); (case c4 => exact rfl); k_whole; intro g' L' h' FG' F' N' B' X' T' kG'; (try dsimp only); (try k_fold)))

local macro_rules | `(tactic| walk_at "m_post") => `(tactic| (intro t9 h9 tk9 st9; (have F9 := fr_stay (by assumption) st9); (have N9 := news_stay (by assumption) st9); (try have kE9 := elt_stay (by assumption) st9); (try dsimp only); k_sweep; (try k_fold)))
local macro_rules | `(tactic| walk_at "call ref") => `(tactic| (k_here; (with_reducible show wpAny _ _ (call (Value.ref _) [Value.int _ _, Value.int _ _]) _ _ _); k_dflt (first
  | (refine' opSub ?k1 ?k2 ?k3 ?k4 ?k5 ?k6 ?_; (case k1 => k_asm); (case k2 => k_asm); (case k3 => k_asm); (case k4 => k_asm); (case k5 => first | exact rfl | assumption); (case k6 => ktr_room))
  | (refine' opAdd ?k1 ?k2 ?k3 ?k4 ?k5 ?k6 ?_; (case k1 => k_asm); (case k2 => k_asm); (case k3 => k_asm); (case k4 => k_asm); (case k5 => first | exact rfl | assumption); (case k6 => ktr_room))
  | (refine' opMod ?k1 ?k2 ?k3 ?k4 ?k5 ?k6 ?k7 ?_; (case k1 => k_asm); (case k2 => k_asm); (case k3 => k_asm); (case k4 => k_asm); (case k5 => first | exact rfl | assumption); (case k6 => ktr_room); (case k7 => omega))
  | (refine' opMul ?k1 ?k2 ?k3 ?k4 ?k5 ?k6 ?k7 ?k8 ?_; (case k1 => k_asm); (case k2 => k_asm); (case k3 => k_asm); (case k4 => k_asm); (case k5 => first | exact rfl | assumption); (case k6 => ktr_room); (case k7 => omega); (case k8 => omega))); walk_at "m_post"))

theorem word {prog : Program} {w : World} {p : Program} {loose : List Str} {mean : ExcName → Option Value} {mg mb : Str → Option Value}
  (dp un : Nat) (gd : Option (List Code)) (cn : Str) (cs : Scope) (a : Addr) (ccd : Value) (cl : List (Str × Addr)) (outer : List Env) (A₀ : Around) (base h₀ : Heap) (L : Addr) (m : Str → Option Value) (s : Shared) (l : Addr) (vs : List Value) (ns : List Int)
  (Q E : Value → Shared → Prop)
  (B : Below A₀ base outer h₀) (F : Fr h₀ L s.heap m) (X : (Kf w.params).In h₀) (T : Top p loose mean mg mb h₀) (hk : cs.kind = .function)
  (hl : s.heap.IsList l vs.toArray) (hi : IntsAre vs ns) (hlen : ns.length ≤ 5) (hb : ∀ n ∈ ns, 1 ≤ n ∧ n ≤ 20)
  (hdp : dp + 1 < recursionLimit)
  (hret : ∀ t h' tk', s.heap.StaysIn h' → Q (.str (wordF ns) t) { s with heap := h', toks := tk' }) :
  wpAny (model prog w) (ktrTop dp un gd cn cs L a ccd cl outer) (call (.ref 321) [.ref l]) Q E s := by
  refine wpAny_call ?_
  k_dflt walk_at "enterP"
  walk_at "m_toComp"
  refine compOne (by with_unfolding_all rfl) (by decide) (by rfl) (by decide) (by rfl) ?_
  k_fold
  k_steps
  (rename Fr _ _ _ _ => zF)
  (rename News _ _ _ _ => zN)
  refine oneList (fun i y => ∃ k t, ns[i]? = some k ∧ y = Value.str (chF k) t) rfl (hl.at fun o e => zF.keep _ _ e) (by rw [hi.length, sizeLine_eq]; omega) ?_ ?_
  · intro i va C m₂ h tk2 E' hva hst hC hns hm
    obtain ⟨k, tk3, hk3, rfl⟩ := ints_at hi hva
    have hb3 := hb k (List.mem_of_getElem? hk3)
    obtain ⟨oC, heC, hoC⟩ := LCg.ns_obj hns
    have F2 := fr_stay zF hst
    have N3 := more_news (news_stay zN hst) heC (Nat.ne_of_gt (Nat.lt_trans zF.ns.lt hC)) (get_new (Nat.le_trans zF.above (Nat.le_of_lt (Nat.lt_trans zF.ns.lt hC))))
    clear zN zF
    have kE := InElt.start h
    show wpAny (model prog w) _ (eval _ _) _ _ _
    k_fold
    k_steps
    exact ⟨⟨k, _, hk3, congrArg (fun z => Value.str z _) (item_letter k hb3.1 hb3.2)⟩, _, _, rfl, by assumption⟩
  · intro D ys h tk2 hln hG hst hD hDs
    have hys : StrsAre ys (ns.map chF) := strs_of (by rw [hln, hi.length]) hG
    have F2 := fr_stay zF hst
    have N3 := news_more zF zN hst hD (get_new (Nat.le_of_lt hDs))
    clear zN zF
    k_steps
    refine join_list ⟨_, hD, rfl, _, rfl⟩ (by simpa using hys) ?_ ?_
    · have : ((ns.map chF).map (·.length)).sum = ns.length := by
        rw [List.map_map]
        have e : (fun x : Str => x.length) ∘ chF = fun _ => 1 := rfl
        rw [e, List.map_const', List.sum_replicate_nat]; omega
      rw [this]
      have : (Str.ofString "").length = 0 := by decide
      rw [this]; omega
    · intro t' k
      rw [word_join]
      exact hret t' h k F2.keep

end

section

-- nofill
/-- a turn's end: it goes on, the ledger's places are the same, the word holds anew -/
def TurnEnd (h₀ : Heap) (L : Addr) (J : (Str → Option Value) → List (Addr × Obj) → Prop) (own : List (Addr × Obj)) (adr : List Addr) (s₁ : Shared) (f : Flow) (s₂ : Shared) : Prop := f = .next ∧ InvEndN h₀ L J own adr s₁ s₂

section
variable {prog : Program} {w : World} {A : Around} {E : Value → Shared → Prop} {s : Shared} {env : Env} {h₀ : Heap} {target : Expr} {body : List Stmt} {Q : Flow → Shared → Prop}
theorem loopT {I : Addr} {fp wr : List Addr} {n : Nat} {P : Nat → Value → Prop} {St : Nat → Heap → Prop} {m₀ : Str → Option Value} {news : List (Addr × Obj)} (J : Nat → (Str → Option Value) → List (Addr × Obj) → Prop)
    (W : Walks prog w A I fp wr n P St) (hgo : ∀ i (s' : Shared) v (Q' : Unit → Shared → Prop), St i s'.heap → Q' () s' → wpAny (model prog w) A (letOwnedTupleGo target (.ref I) v) Q' E s')
    (hLf : env.locals ∉ fp) (hwr : ∀ b ∈ wr, h₀.get? b = none) (hnw : ∀ p ∈ news, p.1 ∉ wr) (hfp : ∀ q ∈ news, q.1 ∉ fp) (hst : St 0 s.heap) (F : Fr h₀ env.locals s.heap m₀) (N : News h₀ env.locals s.heap news) (hj : J 0 m₀ news)
    (turn : ∀ i v m₁ news₁ (s₁ : Shared) own, i < n → P i v → news₁.map (·.1) = news.map (·.1) → OwnOff own (news.map (·.1)) → J i m₁ news₁ → Fr h₀ env.locals s₁.heap m₁ → News h₀ env.locals s₁.heap (news₁ ++ own) →
      wpAny (model prog w) A (assign target env v) (fun _ s₃ => wpAny (model prog w) A (execs body env) (TurnEnd h₀ env.locals (J (i + 1)) own (news.map (·.1)) s₁) E s₃) E s₁)
    (done : ∀ m₁ news₁ h tk, J n m₁ news₁ → Fr h₀ env.locals h m₁ → News h₀ env.locals h news₁ → news₁.map (·.1) = news.map (·.1) → Q .next { s with heap := h, toks := tk }) :
    LoopAtT prog w A h₀ env target body Q E (.ref I) s := by
  refine ⟨I, fp, wr, n, P, St, m₀, news, (fun i m₁ news₁ => news₁.map (·.1) = news.map (·.1) ∧ J i m₁ news₁), rfl, W, hLf, hwr, hnw, hst, F, N, hgo, ⟨rfl, hj⟩, ?_, ?_⟩
  · rintro i v m₁ news₁ s₁ own hin hP ⟨hadr, hJ⟩ hoff hown _ _ _ F₁ N₁
    have hsep : OwnOff own (news.map (·.1)) := by
      intro p hp b hb e
      obtain ⟨q, hq, rfl⟩ := List.mem_map.mp hb
      exact hfp q hq (e ▸ hown p hp)
    have N₂ : News h₀ env.locals s₁.heap (news₁ ++ own) := fun p hp => N₁ p ((List.mem_append.mp hp).elim (fun h => List.mem_append.mpr (.inr h)) fun h => List.mem_append.mpr (.inl h))
    refine wpAny_mono (turn i v m₁ news₁ s₁ own hin hP hadr hsep hJ F₁ N₂) (fun _ s₃ h₃ => wpAny_mono h₃ (fun f s₄ h₄ => ?_) fun _ _ e => e) fun _ _ e => e
    obtain ⟨rfl, h', tk, m', news', nx, e, F', N', hn, ho, ha, hm⟩ := h₄
    refine ⟨rfl, h', tk, m', nx, e, F', fun p hp => N' p ((List.mem_append.mp hp).elim (ho p) (hn p)), fun p hp hq => ?_, ha, hm⟩
    have h1 : p.1 ∈ nx.map (·.1) := List.mem_map.mpr ⟨p, hp, rfl⟩
    rw [ha, ← hadr] at h1
    obtain ⟨q, hq1, hq2⟩ := List.mem_map.mp h1
    exact hoff q hq1 (by rw [hq2]; exact hq)
  · rintro h' tk m' news' F' N' _ ⟨ha, hJ⟩
    exact done m' news' h' tk hJ F' N' ha

/-- over range(n), one name or a cell -/
theorem rangeT {r : Addr} {b₀ : Int} {t₀ u₀ v₀ : Tok} {n : Nat} {m₀ : Str → Option Value} {news : List (Addr × Obj)} (J : Nat → (Str → Option Value) → List (Addr × Obj) → Prop)
    (hh : A.handled = none) (ht : ∀ it v, letOwnedTupleGo target it v = pure ()) (hr : IsRange s.heap r 0 b₀ 1 t₀ u₀ v₀) (hn : b₀ = (n : Int)) (hn2 : n < 1000) (F : Fr h₀ env.locals s.heap m₀) (N : News h₀ env.locals s.heap news) (hj : J 0 m₀ news)
    (turn : ∀ (i : Nat) t m₁ news₁ (s₁ : Shared) own, i < n → news₁.map (·.1) = news.map (·.1) → OwnOff own (news.map (·.1)) → J i m₁ news₁ → Fr h₀ env.locals s₁.heap m₁ → News h₀ env.locals s₁.heap (news₁ ++ own) →
      wpAny (model prog w) A (assign target env (.int i t)) (fun _ s₃ => wpAny (model prog w) A (execs body env) (TurnEnd h₀ env.locals (J (i + 1)) own (news.map (·.1)) s₁) E s₃) E s₁)
    (done : ∀ m₁ news₁ h tk, J n m₁ news₁ → Fr h₀ env.locals h m₁ → News h₀ env.locals h news₁ → news₁.map (·.1) = news.map (·.1) → Q .next { s with heap := h, toks := tk }) :
    wpAny (model prog w) A (pyIter (.ref r)) (fun it s₂ => LoopAtT prog w A h₀ env target body Q E it s₂) E s := by
  subst hn
  have hs : Builtin.Range.small 0 (n : Int) 1 = true := by
    have fits : ∀ x : Int, 0 ≤ x → x < 2000 → Builtin.Range.rangeFitsLong x = true := fun x h1 h2 => by unfold Builtin.Range.rangeFitsLong; simp; omega
    unfold Builtin.Range.small Builtin.Range.rangeSize
    simp [fits 0 (by omega) (by omega), fits 1 (by omega) (by omega), fits n (by omega) (by omega)]
    split <;> first | exact fits _ (by omega) (by omega) | omega
  have hrs : Builtin.Range.rangeSize 0 (n : Int) 1 = (n : Int) := by
    unfold Builtin.Range.rangeSize
    simp; omega
  refine wpAny_pyIter_range hr hs ?_
  have W : Walks prog w A s.heap.objs.size [s.heap.objs.size] [s.heap.objs.size] n (fun i v => i < n ∧ ∃ t, v = .int (0 + i * 1) t)
      (fun i h => IsRangeIter h s.heap.objs.size (0 + (i : Nat) * 1) ((n : Int) - (i : Nat)) 1) := (Walks.range hh _ 0 1 n).bound
  refine loopT J W (fun i s' v Q' _ h => wpAny_of_eq (ht _ v) h) ?_ ?_ ?_ ?_ (by show IsRangeIter _ _ _ _ _; rw [hrs]; simpa using Heap.get?_push_size _ rfl) (F.push _) (fun p hp => ⟨Heap.get?_push_of_some _ (N p hp).1, (N p hp).2⟩) hj ?_ done
  · intro hm
    exact absurd F.ns.lt ((List.mem_singleton.mp hm) ▸ Nat.lt_irrefl _)
  · intro b hb
    rw [List.mem_singleton.mp hb]
    exact next_is_new F
  · intro p hp hI
    exact absurd (Heap.lt_size (N p hp).1) ((List.mem_singleton.mp hI) ▸ Nat.lt_irrefl _)
  · intro p hp hI
    exact absurd (Heap.lt_size (N p hp).1) ((List.mem_singleton.mp hI) ▸ Nat.lt_irrefl _)
  · rintro i v m₁ news₁ s₁ own hi ⟨_, t, rfl⟩ ha ho hJ F₁ N₁
    have e : (0 + (i : Int) * 1) = (i : Int) := by omega
    rw [e]
    exact turn i t m₁ news₁ s₁ own hi ha ho hJ F₁ N₁
/-- over range(a, b) -/
theorem rangeFrom (a₀ : Nat) {r : Addr} {b₀ : Int} {t₀ u₀ v₀ : Tok} {n : Nat} {m₀ : Str → Option Value} {news : List (Addr × Obj)} (J : Nat → (Str → Option Value) → List (Addr × Obj) → Prop)
    (hh : A.handled = none) (ht : ∀ it v, letOwnedTupleGo target it v = pure ()) (hr : IsRange s.heap r (a₀ : Int) b₀ 1 t₀ u₀ v₀) (hn : b₀ = ((a₀ + n : Nat) : Int)) (hn2 : n < 900) (ha2 : a₀ < 50) (F : Fr h₀ env.locals s.heap m₀) (N : News h₀ env.locals s.heap news) (hj : J 0 m₀ news)
    (turn : ∀ (i : Nat) t m₁ news₁ (s₁ : Shared) own, i < n → news₁.map (·.1) = news.map (·.1) → OwnOff own (news.map (·.1)) → J i m₁ news₁ → Fr h₀ env.locals s₁.heap m₁ → News h₀ env.locals s₁.heap (news₁ ++ own) →
      wpAny (model prog w) A (assign target env (.int ((a₀ + i : Nat) : Int) t)) (fun _ s₃ => wpAny (model prog w) A (execs body env) (TurnEnd h₀ env.locals (J (i + 1)) own (news.map (·.1)) s₁) E s₃) E s₁)
    (done : ∀ m₁ news₁ h tk, J n m₁ news₁ → Fr h₀ env.locals h m₁ → News h₀ env.locals h news₁ → news₁.map (·.1) = news.map (·.1) → Q .next { s with heap := h, toks := tk }) :
    wpAny (model prog w) A (pyIter (.ref r)) (fun it s₂ => LoopAtT prog w A h₀ env target body Q E it s₂) E s := by
  subst hn
  have hs : Builtin.Range.small (a₀ : Int) ((a₀ + n : Nat) : Int) 1 = true := by
    have fits : ∀ x : Int, 0 ≤ x → x < 2000 → Builtin.Range.rangeFitsLong x = true := fun x h1 h2 => by unfold Builtin.Range.rangeFitsLong; simp; omega
    unfold Builtin.Range.small Builtin.Range.rangeSize
    simp [fits 0 (by omega) (by omega), fits 1 (by omega) (by omega), fits a₀ (by omega) (by omega), fits ((a₀ : Int) + n) (by omega) (by omega)]
    split <;> first | exact fits _ (by omega) (by omega) | omega
  have hrs : Builtin.Range.rangeSize (a₀ : Int) ((a₀ + n : Nat) : Int) 1 = (n : Int) := by
    unfold Builtin.Range.rangeSize
    simp; omega
  refine wpAny_pyIter_range hr hs ?_
  have W : Walks prog w A s.heap.objs.size [s.heap.objs.size] [s.heap.objs.size] n (fun i v => i < n ∧ ∃ t, v = .int ((a₀ : Int) + i * 1) t)
      (fun i h => IsRangeIter h s.heap.objs.size ((a₀ : Int) + (i : Nat) * 1) ((n : Int) - (i : Nat)) 1) := (Walks.range hh _ a₀ 1 n).bound
  refine loopT J W (fun i s' v Q' _ h => wpAny_of_eq (ht _ v) h) ?_ ?_ ?_ ?_ (by show IsRangeIter _ _ _ _ _; rw [hrs]; simpa using Heap.get?_push_size _ rfl) (F.push _) (fun p hp => ⟨Heap.get?_push_of_some _ (N p hp).1, (N p hp).2⟩) hj ?_ done
  · intro hm
    exact absurd F.ns.lt ((List.mem_singleton.mp hm) ▸ Nat.lt_irrefl _)
  · intro b hb
    rw [List.mem_singleton.mp hb]
    exact next_is_new F
  · intro p hp hI
    exact absurd (Heap.lt_size (N p hp).1) ((List.mem_singleton.mp hI) ▸ Nat.lt_irrefl _)
  · intro p hp hI
    exact absurd (Heap.lt_size (N p hp).1) ((List.mem_singleton.mp hI) ▸ Nat.lt_irrefl _)
  · rintro i v m₁ news₁ s₁ own hi ⟨_, t, rfl⟩ ha ho hJ F₁ N₁
    have e : ((a₀ : Int) + (i : Int) * 1) = ((a₀ + i : Nat) : Int) := by omega
    rw [e]
    exact turn i t m₁ news₁ s₁ own hi ha ho hJ F₁ N₁
end
theorem turn_intro {h₀ h' : Heap} {L : Addr} {J : (Str → Option Value) → List (Addr × Obj) → Prop} {own all : List (Addr × Obj)} {adr : List Addr} {s₁ : Shared} {m' : Str → Option Value} {tk : Nat} (nx : List (Addr × Obj)) (F' : Fr h₀ L h' m') (N' : News h₀ L h' all)
    (hs : ∀ p ∈ nx, p ∈ all) (ho : ∀ p ∈ own, p ∈ all) (ha : nx.map (·.1) = adr) (hJ : J m' nx) : TurnEnd h₀ L J own adr s₁ .next { s₁ with heap := h', toks := tk } := ⟨rfl, h', tk, m', all, nx, rfl, F', N', hs, ho, ha, hJ⟩

end

section

local macro_rules | `(tactic| walk_at "enterC") => `(tactic| (refine' enterC ?k1 ?k2 ?k3 ?k4 ?kA ?kF ?kK ?k6 ?k7 ?k8 ?k9 ?kB ?kD ?_ ?c2 ?c3 ?c4; (case kA => exact rfl); (case kF => exact rfl); (case kK => assumption); (case k1 => k_asm); (case k2 => k_asm); (case k3 => k_asm); (case k4 => k_asm); (case k6 => k_is); (case k7 => k_is); (case k8 => ktr_room); (case k9 => exact BindsTo.of_eq rfl); (case kB => exact rfl); (case kD => decide +kernel); (case c2 => exact rfl); (case c3 => exact rfl); (case c4 => exact rfl); k_whole; intro L' h' tk' cells' F' N' Y' B' X' T' hL'; k_cells Y'; (try simp only [List.cons_append, List.nil_append] at N'); (try dsimp only); (try k_fold)))
local macro_rules | `(tactic| walk_at "enterP") => `(tactic| (refine' enterP ?k1 ?k2 ?k3 ?k4 ?kA ?kF ?kK ?k6 ?k7 ?k8 ?k9 ?kB ?_ ?c2 ?c3 ?c4 ?c5; (case kA => exact rfl); (case kF => exact rfl); (case kK => assumption); (case k1 => k_asm); (case k2 => k_asm); (case k3 => k_asm); (case k4 => k_asm); (case k6 => k_is); (case k7 => k_is); (case k8 => ktr_room); (case k9 => exact BindsTo.of_eq rfl); (case c5 => decide); (case kB => exact locs rfl); (case c2 => exact rfl); (case c3 => exact rfl); (case c4 => exact rfl); k_whole; intro L' h' F' N' B' X' T' hL'; (try dsimp only); (try k_fold)))
local macro_rules | `(tactic| walk_at "m_toComp") => `(tactic| repeat ((fail_if_success (with_reducible show wpAny _ _ (eval (PySem.Expr.ListComp _ _ _ _) _) _ _ _)); first | (k_unfold; (try dsimp only)) | walk1 | (dsimp only; walk1)))
local macro_rules | `(tactic| walk_at "m_toCompCall") => `(tactic| repeat' ((fail_if_success (with_reducible show wpAny _ _ (eval (PySem.Expr.ListComp (PySem.Expr.BinOp (PySem.Expr.Call _ _ _ _) _ _ _) _ _ _) _) _ _ _)); first | (k_unfold; (try dsimp only)) | walk1 | (dsimp only; walk1)))
local macro_rules | `(tactic| walk_at "m_units") => `(tactic| ((try simp only [units_in1, units_deeper, Around.mark_units, units_caller]); (try dsimp only [ktrTop]); omega))
local macro_rules | `(tactic| walk_at "compareOp Eq ref ref") => `(tactic| (k_here; (with_reducible show wpAny _ _ (compareOp CmpOp.Eq (Value.ref _) (Value.ref _)) _ _ _); (with_unfolding_all refine' eq_intsK ?k1 ?k2 ?k3 ?k4 ?k5 ?_; (case k1 => is_list); (case k2 => l_ints); (case k3 => is_list); (case k4 => l_ints); (case k5 => walk_at "m_units"); k_whole)))
local macro_rules | `(tactic| walk_at "compareOp NotEq ref ref") => `(tactic| (k_here; (with_reducible show wpAny _ _ (compareOp CmpOp.NotEq (Value.ref _) (Value.ref _)) _ _ _); (with_unfolding_all refine' ne_intsK ?k1 ?k2 ?k3 ?k4 ?k5 ?_; (case k1 => is_list); (case k2 => l_ints); (case k3 => is_list); (case k4 => l_ints); (case k5 => walk_at "m_units"); k_whole)))
local macro_rules | `(tactic| walk_at "m_toWhile") => `(tactic| repeat' ((fail_if_success (with_reducible show wpAny _ _ (exec (PySem.Stmt.While _ _ _ _) _) _ _ _)); first | (k_unfold; (try dsimp only)) | walk1 | (dsimp only; walk1)))
local macro_rules | `(tactic| walk_at "m_toFor") => `(tactic| repeat' ((fail_if_success (with_reducible show wpAny _ _ (exec (PySem.Stmt.For _ _ _ _ _) _) _ _ _)); first | (k_unfold; (try dsimp only)) | walk1 | (dsimp only; walk1)))
local macro_rules | `(tactic| walk_at "enterD") => `(tactic| (refine' code_defG ?k1 ?k2 ?k3 ?k4 ?k5 ?kA ?kF ?kK ?k6 ?k7 ?k8 ?k9 ?kB ?_ ?c2 ?c3 ?c4 ?c5; (case kA => exact rfl); (case kF => exact rfl); (case kK => first | exact rfl | assumption); (case k1 => k_asm); (case k2 => k_asm); (case k3 => k_asm); (case k4 => k_asm); (case k5 => k_asm); (case k6 => k_is); (case k7 => k_is); (case k8 => ktr_room); (case k9 => first | exact BindsTo.of_eq rfl | exact binds_K (by k_in) rfl (by k_is) rfl rfl rfl); (case c5 => decide); (case kB => exact locs rfl); (case c2 => exact rfl); (case c3 => exact rfl); (case c4 => exact rfl); k_whole; intro g' L' h' FG' F' N' B' X' T' kG'; (try dsimp only); (try k_fold)))

local macro_rules | `(tactic| walk_at "m_post") => `(tactic| (intro t9 h9 tk9 st9; (have F9 := fr_stay (by assumption) st9); (have N9 := news_stay (by assumption) st9); (try have kE9 := elt_stay (by assumption) st9); (try dsimp only); k_sweep; (try k_fold)))
local macro_rules | `(tactic| walk_at "call ref") => `(tactic| (k_here; (with_reducible show wpAny _ _ (call (Value.ref _) [Value.int _ _, Value.int _ _]) _ _ _); k_dflt (first
  | (refine' opSub ?k1 ?k2 ?k3 ?k4 ?k5 ?k6 ?_; (case k1 => k_asm); (case k2 => k_asm); (case k3 => k_asm); (case k4 => k_asm); (case k5 => first | exact rfl | assumption); (case k6 => ktr_room))
  | (refine' opAdd ?k1 ?k2 ?k3 ?k4 ?k5 ?k6 ?_; (case k1 => k_asm); (case k2 => k_asm); (case k3 => k_asm); (case k4 => k_asm); (case k5 => first | exact rfl | assumption); (case k6 => ktr_room))
  | (refine' opMod ?k1 ?k2 ?k3 ?k4 ?k5 ?k6 ?k7 ?_; (case k1 => k_asm); (case k2 => k_asm); (case k3 => k_asm); (case k4 => k_asm); (case k5 => first | exact rfl | assumption); (case k6 => ktr_room); (case k7 => omega))
  | (refine' opMul ?k1 ?k2 ?k3 ?k4 ?k5 ?k6 ?k7 ?k8 ?_; (case k1 => k_asm); (case k2 => k_asm); (case k3 => k_asm); (case k4 => k_asm); (case k5 => first | exact rfl | assumption); (case k6 => ktr_room); (case k7 => omega); (case k8 => omega))); walk_at "m_post"))

local macro_rules | `(tactic| walk_at "m_mems") => `(tactic| (repeat' (first | exact List.forall_mem_nil _ | (refine List.forall_mem_cons.mpr ⟨by k_mem, ?_⟩))))
local macro_rules | `(tactic| walk_at "m_own") => `(tactic| (intro p9 hp9; (repeat' (first | exact hp9 | refine List.Mem.tail _ ?_))))

def ownF (ns : List Int) (prime : Int) (size : Nat) (i : Nat) : List Int :=
  (rangeKs 0 i).filter fun k => isort ((isort (ns.map fun x => (x + k).fmod size)).map fun x => (prime * x).fmod size) == isort (ns.map fun x => (x + k).fmod size)

theorem ownF_yes {ns : List Int} {prime : Int} {size i : Nat} (h : isort ((isort (ns.map fun x => (x + (i : Int)).fmod size)).map fun x => (prime * x).fmod size) = isort (ns.map fun x => (x + (i : Int)).fmod size)) : ownF ns prime size (i + 1) = ownF ns prime size i ++ [(i : Int)] := by
  unfold ownF
  rw [rangeKs_succ, List.filter_append]
  simp [h]
theorem ownF_no {ns : List Int} {prime : Int} {size i : Nat} (h : ¬ isort ((isort (ns.map fun x => (x + (i : Int)).fmod size)).map fun x => (prime * x).fmod size) = isort (ns.map fun x => (x + (i : Int)).fmod size)) : ownF ns prime size (i + 1) = ownF ns prime size i := by
  unfold ownF
  rw [rangeKs_succ, List.filter_append]
  simp [h]

set_option maxHeartbeats 600000 in
inductive OwnInv (lo L' : Addr) (oP oS : Obj) (ns : List Int) (prime : Int) (size : Nat) (m0 : Str → Option Value) (i : Nat) (m₁ : Str → Option Value) (nw : List (Addr × Obj)) : Prop
  | mk (vs' : List Value) (n' : Nat) (ot : Obj) (v : Option Value)
    (h0 : nw = [(lo, W.listOf vs'.toArray n'), (L' + 1 + 1 + 1, ot), (L' + 1 + 1, oP), (L' + 1, oS)])
    (h1 : ot.data = Data.cell v)
    (h2 : IntsAre vs' (ownF ns prime size i))
    (h3 : vs'.length ≤ i)
    (h4 : ∀ z, z ≠ Str.ofString "line" → m₁ z = m0 z)
    : OwnInv lo L' oP oS ns prime size m0 i m₁ nw

theorem own {prog : Program} {w : World} {p : Program} {loose : List Str} {mean : ExcName → Option Value} {mg mb : Str → Option Value}
  (dp un : Nat) (gd : Option (List Code)) (cn : Str) (cs : Scope) (a : Addr) (ccd : Value) (cl : List (Str × Addr)) (outer : List Env) (A₀ : Around) (base h₀ : Heap) (L : Addr) (m : Str → Option Value) (s : Shared) (l : Addr) (vs : List Value) (ns : List Int) (size : Nat) (prime : Int) (t1 t2 : Tok)
  (Q E : Value → Shared → Prop)
  (B : Below A₀ base outer h₀) (F : Fr h₀ L s.heap m) (X : (Kf w.params).In h₀) (T : Top p loose mean mg mb h₀) (hk : cs.kind = .function)
  (hl : s.heap.IsList l vs.toArray) (hi : IntsAre vs ns) (hlen : ns.length ≤ 5) (hsz : 1 ≤ size ∧ size ≤ 21) (hpr : 2 ≤ prime ∧ prime ≤ 3)
  (hdp : dp + 2 < recursionLimit) (hu : un + 100 < cLine)
  (hret : ∀ D ys n h' tk', s.heap.StaysIn h' → h'.get? D = some (W.listOf ys.toArray n) → s.heap.get? D = none → IntsAre ys (ownF ns prime size size) → Q (.ref D) { s with heap := h', toks := tk' }) :
  wpAny (model prog w) (ktrTop dp un gd cn cs L a ccd cl outer) (call (.ref 343) [.ref l, .int size t1, .int prime t2]) Q E s := by
  refine wpAny_call ?_
  k_dflt walk_at "enterC"
  k_steps
  refine For_invT s.heap ?_ (by intro _; rfl)
  k_fold
  k_steps
  rename_i L' hY tkY BY XY TY hLY oT oP oS dT dP dS lo hA l1 hB FA NA hC tkC t1' u1' v1' hR FC NC hKeep
  obtain ⟨m0, hm0, FD⟩ := frNamed FC
  refine rangeT (fun i m₁ nw => OwnInv lo L' oP oS ns prime size m0 i m₁ nw)
    rfl (by intro _ _; rfl) hR rfl (by omega) FD NC ⟨_, _, _, _, rfl, dT, .nil, Nat.le_refl _, fun _ _ => rfl⟩ ?_ ?_
  · rintro i t m₁ nw s₁ own' hi2 hadr hoff ⟨vs', n', ot, v, rfl, dT', hI', hln, hm⟩ F₁ N₁
    rw [map_but hm] at F₁
    subst hm0
    simp only [List.cons_append, List.nil_append] at N₁
    simp only [List.map_cons, List.map_nil] at hoff
    clear FC NC FA NA FD
    have hz1 := hsz.2
    have hz2 : vs'.length ≤ 21 := by omega
    have hz3 : vs'.toArray.size ≤ 21 := by rw [List.size_toArray]; exact hz2
    show wpAny (model prog w) _ _ _ _ _
    k_fold
    walk_at "m_toCompCall"
    refine compOne (by with_unfolding_all rfl) (by decide) (by rfl) (by decide) (by rfl) ?_
    k_fold
    k_steps
    (rename Fr _ _ _ _ => zF)
    (rename News _ _ _ _ => zN)
    (rename List.Pairwise _ _ => hsorted)
    (rename List.Perm _ (List.map _ _) => hperm)
    have hline := isort_unique hperm hsorted
    have hIl := ints_now (zN _ (.head _)).1 (by assumption)
    rw [hline] at hIl
    have hll := hIl.length
    refine oneList (fun j y => ∃ k t, (isort (ns.map fun x => (x + (i : Int)).fmod size))[j]? = some k ∧ y = Value.int ((prime * k).fmod size) t) rfl ⟨_, (zN _ (.head _)).1, rfl, _, rfl⟩ (by rw [hll, isort_length, List.length_map, sizeLine_eq]; omega) ?_ ?_
    · intro j va C m₂ h tk2 E' hva hst hC hns hm2
      obtain ⟨k, tk3, hk3, rfl⟩ := ints_at hIl hva
      have hkb : 0 ≤ k ∧ k < 100 := by
        have hmk := (isort_perm _).mem_iff.mp (List.mem_of_getElem? hk3)
        obtain ⟨x0, _, rfl⟩ := List.mem_map.mp hmk
        have hpos : (0 : Int) < size := by omega
        have h1 := Int.fmod_nonneg_of_pos (x0 + (i : Int)) hpos
        have h2 := Int.fmod_lt_of_pos (x0 + (i : Int)) hpos
        omega
      obtain ⟨oC, heC, hoC⟩ := LCg.ns_obj hns
      have F2 := fr_stay zF hst
      have N3 := more_news (news_stay zN hst) heC (Nat.ne_of_gt (Nat.lt_trans zF.ns.lt hC)) (get_new (Nat.le_trans zF.above (Nat.le_of_lt (Nat.lt_trans zF.ns.lt hC))))
      clear zN zF
      have kE := InElt.start h
      show wpAny (model prog w) _ (eval _ _) _ _ _
      k_fold
      k_steps
      exact ⟨⟨_, _, hk3, rfl⟩, _, _, rfl, by assumption⟩
    · intro D ys h tk2 hln2 hG hst hD hDs
      obtain ⟨ln, hlneq, hys⟩ : ∃ ln, ln = (isort (ns.map fun x => (x + (i : Int)).fmod size)).map (fun x => (prime * x).fmod size) ∧ IntsAre ys ln := ⟨_, rfl, ints_of (by rw [hln2, hll, List.length_map]) fun j y hy => by
        obtain ⟨k, t, h1, h2⟩ := hG j y hy
        exact ⟨t, _, by rw [List.getElem?_map, h1]; rfl, h2⟩⟩
      have hlnl : ln.length = ns.length := by rw [hlneq, List.length_map, isort_length, List.length_map]
      have F2 := fr_stay zF hst
      have N3 := news_more zF zN hst hD (get_new (Nat.le_of_lt hDs))
      have l9 := news_lt zN (Nat.le_of_lt hDs)
      k_lt l9
      clear zN zF
      k_steps
      · (rename Fr _ _ _ _ => F9)
        (rename News _ _ _ _ => N9)
        (rename _ = isort _ => heq9)
        (rename List.Pairwise _ _ => hs9)
        (rename List.Perm _ ln => hp9)
        simp only [List.push_toArray] at N9
        refine' turn_intro [(lo, ?o1), (L' + 1 + 1 + 1, ?o2), (L' + 1 + 1, oP), (L' + 1, oS)] F9 N9 ?hs ?ho ?ha ?hJ
        case hs => walk_at "m_mems"
        case ho => walk_at "m_own"
        case ha => rfl
        case hJ =>
          refine ⟨_, _, _, _, rfl, by assumption, ?_, ?_, ?_⟩
          · rw [ownF_yes (by rw [← hlneq, ← isort_unique hp9 hs9]; exact heq9)]
            exact ints_snoc hI'
          · simp; omega
          · intro z hz
            simp only [if_neg hz]
      · (rename Fr _ _ _ _ => F9)
        (rename News _ _ _ _ => N9)
        (rename ¬ _ = isort _ => heq9)
        (rename List.Pairwise _ _ => hs9)
        (rename List.Perm _ ln => hp9)
        refine' turn_intro [(lo, ?p1), (L' + 1 + 1 + 1, ?p2), (L' + 1 + 1, oP), (L' + 1, oS)] F9 N9 ?is ?io ?ia ?iJ
        case is => walk_at "m_mems"
        case io => walk_at "m_own"
        case ia => rfl
        case iJ =>
          refine ⟨_, _, _, _, rfl, by assumption, ?_, ?_, ?_⟩
          · rw [ownF_no (by rw [← hlneq, ← isort_unique hp9 hs9]; exact heq9)]
            exact hI'
          · omega
          · intro z hz
            simp only [if_neg hz]
  · intro m₁ nw h tk hJ F1 N1 _
    obtain ⟨vs', n', ot, v, rfl, dT', hI', hln, hm⟩ := hJ
    dsimp only at hm ⊢
    subst hm0
    rw [map_but hm] at F1
    clear FC NC FA NA FD
    show wpAny (model prog w) _ _ _ _ _
    k_fold
    k_steps
    dsimp only
    k_unfold
    exact hret _ _ _ _ _ F1.keep (N1 _ (.head _)).1 (N1 _ (.head _)).2.2 hI'

end

section

local macro_rules | `(tactic| walk_at "enterC") => `(tactic| (refine' enterC ?k1 ?k2 ?k3 ?k4 ?kA ?kF ?kK ?k6 ?k7 ?k8 ?k9 ?kB ?kD ?_ ?c2 ?c3 ?c4; (case kA => exact rfl); (case kF => exact rfl); (case kK => assumption); (case k1 => k_asm); (case k2 => k_asm); (case k3 => k_asm); (case k4 => k_asm); (case k6 => k_is); (case k7 => k_is); (case k8 => ktr_room); (case k9 => exact BindsTo.of_eq rfl); (case kB => exact rfl); (case kD => decide +kernel); (case c2 => exact rfl); (case c3 => exact rfl); (case c4 => exact rfl); k_whole; intro L' h' tk' cells' F' N' Y' B' X' T' hL'; k_cells Y'; (try simp only [List.cons_append, List.nil_append] at N'); (try dsimp only); (try k_fold)))
local macro_rules | `(tactic| walk_at "enterP") => `(tactic| (refine' enterP ?k1 ?k2 ?k3 ?k4 ?kA ?kF ?kK ?k6 ?k7 ?k8 ?k9 ?kB ?_ ?c2 ?c3 ?c4 ?c5; (case kA => exact rfl); (case kF => exact rfl); (case kK => assumption); (case k1 => k_asm); (case k2 => k_asm); (case k3 => k_asm); (case k4 => k_asm); (case k6 => k_is); (case k7 => k_is); (case k8 => ktr_room); (case k9 => exact BindsTo.of_eq rfl); (case c5 => decide); (case kB => exact locs rfl); (case c2 => exact rfl); (case c3 => exact rfl); (case c4 => exact rfl); k_whole; intro L' h' F' N' B' X' T' hL'; (try dsimp only); (try k_fold)))
local macro_rules | `(tactic| walk_at "m_toComp") => `(tactic| repeat ((fail_if_success (with_reducible show wpAny _ _ (eval (PySem.Expr.ListComp _ _ _ _) _) _ _ _)); first | (k_unfold; (try dsimp only)) | walk1 | (dsimp only; walk1)))
local macro_rules | `(tactic| walk_at "m_toCompCall") => `(tactic| repeat' ((fail_if_success (with_reducible show wpAny _ _ (eval (PySem.Expr.ListComp (PySem.Expr.BinOp (PySem.Expr.Call _ _ _ _) _ _ _) _ _ _) _) _ _ _)); first | (k_unfold; (try dsimp only)) | walk1 | (dsimp only; walk1)))
local macro_rules | `(tactic| walk_at "m_units") => `(tactic| ((try simp only [units_in1, units_deeper, Around.mark_units, units_caller]); (try dsimp only [ktrTop]); omega))
local macro_rules | `(tactic| walk_at "compareOp Eq ref ref") => `(tactic| (k_here; (with_reducible show wpAny _ _ (compareOp CmpOp.Eq (Value.ref _) (Value.ref _)) _ _ _); (with_unfolding_all refine' eq_intsK ?k1 ?k2 ?k3 ?k4 ?k5 ?_; (case k1 => is_list); (case k2 => l_ints); (case k3 => is_list); (case k4 => l_ints); (case k5 => walk_at "m_units"); k_whole)))
local macro_rules | `(tactic| walk_at "compareOp NotEq ref ref") => `(tactic| (k_here; (with_reducible show wpAny _ _ (compareOp CmpOp.NotEq (Value.ref _) (Value.ref _)) _ _ _); (with_unfolding_all refine' ne_intsK ?k1 ?k2 ?k3 ?k4 ?k5 ?_; (case k1 => is_list); (case k2 => l_ints); (case k3 => is_list); (case k4 => l_ints); (case k5 => walk_at "m_units"); k_whole)))
local macro_rules | `(tactic| walk_at "m_toWhile") => `(tactic| repeat' ((fail_if_success (with_reducible show wpAny _ _ (exec (PySem.Stmt.While _ _ _ _) _) _ _ _)); first | (k_unfold; (try dsimp only)) | walk1 | (dsimp only; walk1)))
local macro_rules | `(tactic| walk_at "m_toFor") => `(tactic| repeat' ((fail_if_success (with_reducible show wpAny _ _ (exec (PySem.Stmt.For _ _ _ _ _) _) _ _ _)); first | (k_unfold; (try dsimp only)) | walk1 | (dsimp only; walk1)))
local macro_rules | `(tactic| walk_at "enterD") => `(tactic| (refine' code_defG ?k1 ?k2 ?k3 ?k4 ?k5 ?kA ?kF ?kK ?k6 ?k7 ?k8 ?k9 ?kB ?_ ?c2 ?c3 ?c4 ?c5; (case kA => exact rfl); (case kF => exact rfl); (case kK => first | exact rfl | assumption); (case k1 => k_asm); (case k2 => k_asm); (case k3 => k_asm); (case k4 => k_asm); (case k5 => k_asm); (case k6 => k_is); (case k7 => k_is); (case k8 => ktr_room); (case k9 => first | exact BindsTo.of_eq rfl | exact binds_K (by k_in) rfl (by k_is) rfl rfl rfl); (case c5 => decide); (case kB => exact locs rfl); (case c2 => exact rfl); (case c3 => exact rfl); (case c4 => exact rfl); k_whole; intro g' L' h' FG' F' N' B' X' T' kG'; (try dsimp only); (try k_fold)))

local macro_rules | `(tactic| walk_at "m_post") => `(tactic| (intro t9 h9 tk9 st9; (have F9 := fr_stay (by assumption) st9); (have N9 := news_stay (by assumption) st9); (try have kE9 := elt_stay (by assumption) st9); (try dsimp only); k_sweep; (try k_fold)))
local macro_rules | `(tactic| walk_at "call ref") => `(tactic| (k_here; (with_reducible show wpAny _ _ (call (Value.ref _) [Value.int _ _, Value.int _ _]) _ _ _); k_dflt (first
  | (refine' opSub ?k1 ?k2 ?k3 ?k4 ?k5 ?k6 ?_; (case k1 => k_asm); (case k2 => k_asm); (case k3 => k_asm); (case k4 => k_asm); (case k5 => first | exact rfl | assumption); (case k6 => ktr_room))
  | (refine' opAdd ?k1 ?k2 ?k3 ?k4 ?k5 ?k6 ?_; (case k1 => k_asm); (case k2 => k_asm); (case k3 => k_asm); (case k4 => k_asm); (case k5 => first | exact rfl | assumption); (case k6 => ktr_room))
  | (refine' opMod ?k1 ?k2 ?k3 ?k4 ?k5 ?k6 ?k7 ?_; (case k1 => k_asm); (case k2 => k_asm); (case k3 => k_asm); (case k4 => k_asm); (case k5 => first | exact rfl | assumption); (case k6 => ktr_room); (case k7 => omega))
  | (refine' opMul ?k1 ?k2 ?k3 ?k4 ?k5 ?k6 ?k7 ?k8 ?_; (case k1 => k_asm); (case k2 => k_asm); (case k3 => k_asm); (case k4 => k_asm); (case k5 => first | exact rfl | assumption); (case k6 => ktr_room); (case k7 => omega); (case k8 => omega))); walk_at "m_post"))

local macro_rules | `(tactic| walk_at "m_mems") => `(tactic| (repeat' (first | exact List.forall_mem_nil _ | (refine List.forall_mem_cons.mpr ⟨by k_mem, ?_⟩))))
local macro_rules | `(tactic| walk_at "m_own") => `(tactic| (intro p9 hp9; (repeat' (first | exact hp9 | refine List.Mem.tail _ ?_))))

def unitsF (size i : Nat) : List Int := (rangeKs 1 i).filter fun u => Nat.gcd size u.toNat == 1
theorem unitsF_yes {size i : Nat} (h : Nat.gcd size (1 + i) = 1) : unitsF size (i + 1) = unitsF size i ++ [((1 + i : Nat) : Int)] := by
  unfold unitsF
  have e : rangeKs 1 (i + 1) = rangeKs 1 i ++ [((1 + i : Nat) : Int)] := by simp [rangeKs, List.range_succ]
  rw [e, List.filter_append]
  simp only [List.filter_cons, List.filter_nil, Int.toNat_natCast, h]
  rfl
theorem unitsF_no {size i : Nat} (h : ¬ Nat.gcd size (1 + i) = 1) : unitsF size (i + 1) = unitsF size i := by
  unfold unitsF
  have e : rangeKs 1 (i + 1) = rangeKs 1 i ++ [((1 + i : Nat) : Int)] := by simp [rangeKs, List.range_succ]
  rw [e, List.filter_append]
  simp only [List.filter_cons, List.filter_nil, Int.toNat_natCast]
  simp [h]

theorem units {prog : Program} {w : World} {p : Program} {loose : List Str} {mean : ExcName → Option Value} {mg mb : Str → Option Value}
  (dp un : Nat) (gd : Option (List Code)) (cn : Str) (cs : Scope) (a : Addr) (ccd : Value) (cl : List (Str × Addr)) (outer : List Env) (A₀ : Around) (base h₀ : Heap) (L : Addr) (m : Str → Option Value) (s : Shared) (size : Nat) (t1 : Tok)
  (Q E : Value → Shared → Prop)
  (B : Below A₀ base outer h₀) (F : Fr h₀ L s.heap m) (X : (Kf w.params).In h₀) (T : Top p loose mean mg mb h₀) (hk : cs.kind = .function)
  (hsz : 1 ≤ size) (hsz2 : size ≤ 21)
  (hdp : dp + 2 < recursionLimit) (hu : un + 100 < cLine)
  (hret : ∀ D ys n h' tk', s.heap.StaysIn h' → h'.get? D = some (W.listOf ys.toArray n) → s.heap.get? D = none → IntsAre ys (unitsF size (size - 1)) → Q (.ref D) { s with heap := h', toks := tk' }) :
  wpAny (model prog w) (ktrTop dp un gd cn cs L a ccd cl outer) (call (.ref 297) [.int size t1]) Q E s := by
  refine wpAny_call ?_
  k_dflt walk_at "enterP"
  walk_at "m_toFor"
  refine For_invT s.heap ?_ (by intro _; rfl)
  show wpAny (model prog w) _ _ _ _ _
  k_fold
  k_steps
  rename_i L' hY FY NY BY XY TY hLY lo hA l1 hB FA NA hC tkC t1' u1' v1' hR FC NC hKeep
  obtain ⟨m0, hm0, FD⟩ := frNamed FC
  refine rangeFrom 1 (n := size - 1) (fun i m₁ nw => ∃ (vs' : List Value) (n' : Nat), nw = [(lo, W.listOf vs'.toArray n')] ∧ IntsAre vs' (unitsF size i) ∧ vs'.length ≤ i ∧ ∀ z, z ≠ Str.ofString "unit" → z ≠ Str.ofString "one" → z ≠ Str.ofString "other" → m₁ z = m0 z)
    rfl (by intro _ _; rfl) hR (by omega) (by omega) (by omega) FD NC ⟨_, _, rfl, .nil, Nat.le_refl _, fun _ _ _ _ => rfl⟩ ?_ ?_
  · rintro i t m₁ nw s₁ own' hi2 hadr hoff ⟨vs', n', rfl, hI', hln, hm⟩ F₁ N₁
    rw [map_but3 hm] at F₁
    subst hm0
    simp only [List.cons_append, List.nil_append] at N₁
    simp only [List.map_cons, List.map_nil] at hoff
    clear FC NC FA NA FD
    have hz3 : vs'.toArray.size ≤ 21 := by rw [List.size_toArray]; omega
    show wpAny (model prog w) _ _ _ _ _
    k_fold
    walk_at "m_toWhile"
    (rename Fr _ _ _ _ => Fw)
    (rename News _ _ _ _ => Nw)
    obtain ⟨mw, hmw, Fw'⟩ := frNamed Fw
    obtain ⟨nw, hnw, Nw'⟩ := newsNamed Nw
    refine While_inv (fun n m₁ nw' => ∃ (x y : Nat) (ta tb : Tok), n = y ∧ nw' = nw ∧ m₁ (Str.ofString "one") = some (Value.int x ta) ∧ m₁ (Str.ofString "other") = some (Value.int y tb) ∧ Nat.gcd x y = Nat.gcd size (1 + i) ∧ ∀ z, z ≠ Str.ofString "one" → z ≠ Str.ofString "other" → m₁ z = mw z)
      (n₀ := 1 + i) Fw' Nw' ⟨size, 1 + i, _, _, rfl, rfl, by rw [hmw]; rfl, by rw [hmw]; rfl, rfl, fun _ _ _ => rfl⟩ ?_
    clear Fw Nw Fw' Nw'
    rintro n m2 nw' h2 tk2 F2 N2 ⟨x, y, ta, tb, rfl, rfl, e1, e2, hg, hm2⟩
    rw [map_but2 hm2, e1, e2] at F2
    subst hmw
    subst hnw
    show wpAny (model prog w) _ _ _ _ _
    k_fold
    k_steps
    · (rename Fr _ _ _ _ => F9)
      (rename News _ _ _ _ => N9)
      (rename _ ≠ (0 : Int) => hn9)
      refine' WhileStep.intro (n' := x % n) F9 (cb_drop N9 ?wd) (Nat.mod_lt _ (by omega)) ⟨n, x % n, ?u1, ?u2, rfl, rfl, ?e1, ?e2, ?e3, ?e4⟩
      case wd => walk_at "m_own"
      case e1 => exact rfl
      case e2 => rw [← fmod_nat]; exact rfl
      case e3 => rw [← hg, Nat.gcd_comm x n, Nat.gcd_rec n x, Nat.gcd_comm]
      case e4 =>
        intro z hz1 hz2
        simp only [if_neg hz1, if_neg hz2]
    · (rename Fr _ _ _ _ => F9)
      (rename News _ _ _ _ => N9)
      (rename _ = (0 : Int) => hn9)
      (rename _ = (1 : Int) => hx9)
      simp only [List.push_toArray] at N9
      have hn0 : n = 0 := by omega
      have hx1 : x = 1 := by omega
      subst hn0
      subst hx1
      refine' turn_intro [(lo, ?o1)] F9 N9 ?hs ?ho ?ha ?hJ
      case hs => walk_at "m_mems"
      case ho => walk_at "m_own"
      case ha => rfl
      case hJ =>
        refine ⟨_, _, rfl, ?_, ?_, ?_⟩
        · rw [unitsF_yes (by rw [← hg]; rfl)]
          exact ints_snoc hI'
        · simp; omega
        · intro z hz1 hz2 hz3
          simp only [if_neg hz1, if_neg hz2, if_neg hz3]
    · (rename Fr _ _ _ _ => F9)
      (rename News _ _ _ _ => N9)
      (rename _ = (0 : Int) => hn9)
      (rename _ ≠ (1 : Int) => hx9)
      have hn0 : n = 0 := by omega
      subst hn0
      refine' turn_intro [(lo, ?p1)] F9 N9 ?is ?io ?ia ?iJ
      case is => walk_at "m_mems"
      case io => walk_at "m_own"
      case ia => rfl
      case iJ =>
        refine ⟨_, _, rfl, ?_, ?_, ?_⟩
        · rw [unitsF_no (by rw [← hg, Nat.gcd_zero_right]; omega)]
          exact hI'
        · omega
        · intro z hz1 hz2 hz3
          simp only [if_neg hz1, if_neg hz2, if_neg hz3]
  · intro m₁ nw h tk hJ F1 N1 _
    obtain ⟨vs', n', rfl, hI', hln, hm⟩ := hJ
    dsimp only at hm ⊢
    subst hm0
    rw [map_but3 hm] at F1
    clear FC NC FA NA FD
    show wpAny (model prog w) _ _ _ _ _
    (try k_fold)
    k_steps
    dsimp only
    (try k_unfold)
    exact hret _ _ _ _ _ F1.keep (N1 _ (.head _)).1 (N1 _ (.head _)).2.2 hI'

end

section

local macro_rules | `(tactic| walk_at "enterC") => `(tactic| (refine' enterC ?k1 ?k2 ?k3 ?k4 ?kA ?kF ?kK ?k6 ?k7 ?k8 ?k9 ?kB ?kD ?_ ?c2 ?c3 ?c4; (case kA => exact rfl); (case kF => exact rfl); (case kK => assumption); (case k1 => k_asm); (case k2 => k_asm); (case k3 => k_asm); (case k4 => k_asm); (case k6 => k_is); (case k7 => k_is); (case k8 => ktr_room); (case k9 => exact BindsTo.of_eq rfl); (case kB => exact rfl); (case kD => decide +kernel); (case c2 => exact rfl); (case c3 => exact rfl); (case c4 => exact rfl); k_whole; intro L' h' tk' cells' F' N' Y' B' X' T' hL'; k_cells Y'; (try simp only [List.cons_append, List.nil_append] at N'); (try dsimp only); (try k_fold)))
local macro_rules | `(tactic| walk_at "enterP") => `(tactic| (refine' enterP ?k1 ?k2 ?k3 ?k4 ?kA ?kF ?kK ?k6 ?k7 ?k8 ?k9 ?kB ?_ ?c2 ?c3 ?c4 ?c5; (case kA => exact rfl); (case kF => exact rfl); (case kK => assumption); (case k1 => k_asm); (case k2 => k_asm); (case k3 => k_asm); (case k4 => k_asm); (case k6 => k_is); (case k7 => k_is); (case k8 => ktr_room); (case k9 => exact BindsTo.of_eq rfl); (case c5 => decide); (case kB => exact locs rfl); (case c2 => exact rfl); (case c3 => exact rfl); (case c4 => exact rfl); k_whole; intro L' h' F' N' B' X' T' hL'; (try dsimp only); (try k_fold)))
local macro_rules | `(tactic| walk_at "m_toComp") => `(tactic| repeat ((fail_if_success (with_reducible show wpAny _ _ (eval (PySem.Expr.ListComp _ _ _ _) _) _ _ _)); first | (k_unfold; (try dsimp only)) | walk1 | (dsimp only; walk1)))
local macro_rules | `(tactic| walk_at "m_toCompCall") => `(tactic| repeat' ((fail_if_success (with_reducible show wpAny _ _ (eval (PySem.Expr.ListComp (PySem.Expr.BinOp (PySem.Expr.Call _ _ _ _) _ _ _) _ _ _) _) _ _ _)); first | (k_unfold; (try dsimp only)) | walk1 | (dsimp only; walk1)))
local macro_rules | `(tactic| walk_at "m_units") => `(tactic| ((try simp only [units_in1, units_deeper, Around.mark_units, units_caller]); (try dsimp only [ktrTop]); omega))
local macro_rules | `(tactic| walk_at "compareOp Eq ref ref") => `(tactic| (k_here; (with_reducible show wpAny _ _ (compareOp CmpOp.Eq (Value.ref _) (Value.ref _)) _ _ _); (with_unfolding_all refine' eq_intsK ?k1 ?k2 ?k3 ?k4 ?k5 ?_; (case k1 => is_list); (case k2 => l_ints); (case k3 => is_list); (case k4 => l_ints); (case k5 => walk_at "m_units"); k_whole)))
local macro_rules | `(tactic| walk_at "compareOp NotEq ref ref") => `(tactic| (k_here; (with_reducible show wpAny _ _ (compareOp CmpOp.NotEq (Value.ref _) (Value.ref _)) _ _ _); (with_unfolding_all refine' ne_intsK ?k1 ?k2 ?k3 ?k4 ?k5 ?_; (case k1 => is_list); (case k2 => l_ints); (case k3 => is_list); (case k4 => l_ints); (case k5 => walk_at "m_units"); k_whole)))
local macro_rules | `(tactic| walk_at "m_toWhile") => `(tactic| repeat' ((fail_if_success (with_reducible show wpAny _ _ (exec (PySem.Stmt.While _ _ _ _) _) _ _ _)); first | (k_unfold; (try dsimp only)) | walk1 | (dsimp only; walk1)))
local macro_rules | `(tactic| walk_at "m_toFor") => `(tactic| repeat' ((fail_if_success (with_reducible show wpAny _ _ (exec (PySem.Stmt.For _ _ _ _ _) _) _ _ _)); first | (k_unfold; (try dsimp only)) | walk1 | (dsimp only; walk1)))
local macro_rules | `(tactic| walk_at "enterD") => `(tactic| (refine' code_defG ?k1 ?k2 ?k3 ?k4 ?k5 ?kA ?kF ?kK ?k6 ?k7 ?k8 ?k9 ?kB ?_ ?c2 ?c3 ?c4 ?c5; (case kA => exact rfl); (case kF => exact rfl); (case kK => first | exact rfl | assumption); (case k1 => k_asm); (case k2 => k_asm); (case k3 => k_asm); (case k4 => k_asm); (case k5 => k_asm); (case k6 => k_is); (case k7 => k_is); (case k8 => ktr_room); (case k9 => first | exact BindsTo.of_eq rfl | exact binds_K (by k_in) rfl (by k_is) rfl rfl rfl); (case c5 => decide); (case kB => exact locs rfl); (case c2 => exact rfl); (case c3 => exact rfl); (case c4 => exact rfl); k_whole; intro g' L' h' FG' F' N' B' X' T' kG'; (try dsimp only); (try k_fold)))

local macro_rules | `(tactic| walk_at "m_post") => `(tactic| (intro t9 h9 tk9 st9; (have F9 := fr_stay (by assumption) st9); (have N9 := news_stay (by assumption) st9); (try have kE9 := elt_stay (by assumption) st9); (try dsimp only); k_sweep; (try k_fold)))
local macro_rules | `(tactic| walk_at "call ref") => `(tactic| (k_here; (with_reducible show wpAny _ _ (call (Value.ref _) [Value.int _ _, Value.int _ _]) _ _ _); k_dflt (first
  | (refine' opSub ?k1 ?k2 ?k3 ?k4 ?k5 ?k6 ?_; (case k1 => k_asm); (case k2 => k_asm); (case k3 => k_asm); (case k4 => k_asm); (case k5 => first | exact rfl | assumption); (case k6 => ktr_room))
  | (refine' opAdd ?k1 ?k2 ?k3 ?k4 ?k5 ?k6 ?_; (case k1 => k_asm); (case k2 => k_asm); (case k3 => k_asm); (case k4 => k_asm); (case k5 => first | exact rfl | assumption); (case k6 => ktr_room))
  | (refine' opMod ?k1 ?k2 ?k3 ?k4 ?k5 ?k6 ?k7 ?_; (case k1 => k_asm); (case k2 => k_asm); (case k3 => k_asm); (case k4 => k_asm); (case k5 => first | exact rfl | assumption); (case k6 => ktr_room); (case k7 => omega))
  | (refine' opMul ?k1 ?k2 ?k3 ?k4 ?k5 ?k6 ?k7 ?k8 ?_; (case k1 => k_asm); (case k2 => k_asm); (case k3 => k_asm); (case k4 => k_asm); (case k5 => first | exact rfl | assumption); (case k6 => ktr_room); (case k7 => omega); (case k8 => omega))); walk_at "m_post"))

local macro_rules | `(tactic| walk_at "m_mems") => `(tactic| (repeat' (first | exact List.forall_mem_nil _ | (refine List.forall_mem_cons.mpr ⟨by k_mem, ?_⟩))))
local macro_rules | `(tactic| walk_at "m_own") => `(tactic| (intro p9 hp9; (repeat' (first | exact hp9 | refine List.Mem.tail _ ?_))))

def powersF (size : Nat) : List Int := if size = 7 then [1, 2, 4] else if size = 13 then [1, 3, 9] else [1, 2, 4, 8, 16, 11]
def baseF (size : Nat) : List Int := if size = 7 then [0, 1, 3] else if size = 13 then [0, 1, 3, 9] else [0, 1, 4, 14, 16]
def primeF (size : Nat) : Int := if size = 13 then 3 else 2
/-- the three rings -/
def Ring (size : Nat) : Prop := size = 7 ∨ size = 13 ∨ size = 21

theorem powers {prog : Program} {w : World} {p : Program} {loose : List Str} {mean : ExcName → Option Value} {mg mb : Str → Option Value}
  (dp un : Nat) (gd : Option (List Code)) (cn : Str) (cs : Scope) (a : Addr) (ccd : Value) (cl : List (Str × Addr)) (outer : List Env) (A₀ : Around) (base h₀ : Heap) (L : Addr) (m : Str → Option Value) (s : Shared) (size : Nat) (t1 t2 : Tok)
  (Q E : Value → Shared → Prop)
  (B : Below A₀ base outer h₀) (F : Fr h₀ L s.heap m) (X : (Kf w.params).In h₀) (T : Top p loose mean mg mb h₀) (hk : cs.kind = .function)
  (hsz : Ring size)
  (hdp : dp + 2 < recursionLimit) (hu : un + 100 < cLine)
  (hret : ∀ D ys n h' tk', s.heap.StaysIn h' → h'.get? D = some (W.listOf ys.toArray n) → s.heap.get? D = none → IntsAre ys (powersF size) → Q (.ref D) { s with heap := h', toks := tk' }) :
  wpAny (model prog w) (ktrTop dp un gd cn cs L a ccd cl outer) (call (.ref 304) [.int (primeF size) t1, .int size t2]) Q E s := by
  rcases hsz with rfl | rfl | rfl
  all_goals
    refine wpAny_call ?_
    k_dflt walk_at "enterP"
    k_steps
    dsimp only
    (try k_unfold)
    (rename Fr _ _ _ _ => Fz)
    (rename News _ _ _ _ => Nz)
    simp only [List.push_toArray, List.cons_append, List.nil_append] at Nz
    refine hret _ _ _ _ _ Fz.keep (Nz _ (.head _)).1 (Nz _ (.head _)).2.2 ?_
    repeat' constructor

def RetRing (s : Shared) (Q : Value → Shared → Prop) (size : Nat) : Prop :=
  ∀ (D lb : Addr) (ys : List Value) (nb nt : Nat) (t1 t2 : Tok) (h' : Heap) (tk' : Nat), s.heap.StaysIn h' → h'.get? D = some { cls := .type "tuple", data := .seq #[.int size t1, .ref lb, .int (primeF size) t2] nt } → h'.get? lb = some (W.listOf ys.toArray nb) →
    s.heap.get? D = none → s.heap.get? lb = none → D ≠ lb → IntsAre ys (baseF size) → Q (.ref D) { s with heap := h', toks := tk' }

theorem ring {prog : Program} {w : World} {p : Program} {loose : List Str} {mean : ExcName → Option Value} {mg mb : Str → Option Value}
  (dp un : Nat) (gd : Option (List Code)) (cn : Str) (cs : Scope) (a : Addr) (ccd : Value) (cl : List (Str × Addr)) (outer : List Env) (A₀ : Around) (base h₀ : Heap) (L : Addr) (m : Str → Option Value) (s : Shared) (n : Int) (size : Nat) (t1 : Tok)
  (Q E : Value → Shared → Prop)
  (B : Below A₀ base outer h₀) (F : Fr h₀ L s.heap m) (X : (Kf w.params).In h₀) (T : Top p loose mean mg mb h₀) (hk : cs.kind = .function)
  (hn : 0 ≤ n ∧ n < 1000000) (hsz : (n % 3 = 0 ∧ size = 7) ∨ (n % 3 = 1 ∧ size = 13) ∨ (n % 3 = 2 ∧ size = 21))
  (hdp : dp + 2 < recursionLimit) (hu : un + 100 < cLine)
  (hret : RetRing s Q size) :
  wpAny (model prog w) (ktrTop dp un gd cn cs L a ccd cl outer) (call (.ref 290) [.int n t1]) Q E s := by
  refine wpAny_call ?_
  k_dflt walk_at "enterP"
  k_steps
  · have e3 : n.fmod 3 = n % 3 := Int.fmod_eq_emod_of_nonneg n (by omega)
    have hs : size = 7 := by omega
    subst hs
    (rename Fr _ _ _ _ => Fz)
    (rename News _ _ _ _ => Nz)
    refine hret _ _ _ _ _ _ _ _ _ Fz.keep (News.get Nz (.tail _ (.tail _ (.tail _ (.tail _ (.tail _ (.head _))))))) (News.get Nz (.tail _ (.tail _ (.tail _ (.tail _ (.tail _ (.tail _ (.head _)))))))) (News.fresh Nz (.tail _ (.tail _ (.tail _ (.tail _ (.tail _ (.head _))))))) (News.fresh Nz (.tail _ (.tail _ (.tail _ (.tail _ (.tail _ (.tail _ (.head _)))))))) (by k_ne) ?_
    repeat' constructor
  · have e3 : n.fmod 3 = n % 3 := Int.fmod_eq_emod_of_nonneg n (by omega)
    have hs : size = 13 := by omega
    subst hs
    (rename Fr _ _ _ _ => Fz)
    (rename News _ _ _ _ => Nz)
    refine hret _ _ _ _ _ _ _ _ _ Fz.keep (News.get Nz (.tail _ (.tail _ (.tail _ (.head _))))) (News.get Nz (.tail _ (.tail _ (.tail _ (.tail _ (.head _)))))) (News.fresh Nz (.tail _ (.tail _ (.tail _ (.head _))))) (News.fresh Nz (.tail _ (.tail _ (.tail _ (.tail _ (.head _)))))) (by k_ne) ?_
    repeat' constructor
  · have e3 : n.fmod 3 = n % 3 := Int.fmod_eq_emod_of_nonneg n (by omega)
    have hs : size = 21 := by omega
    subst hs
    (rename Fr _ _ _ _ => Fz)
    (rename News _ _ _ _ => Nz)
    refine hret _ _ _ _ _ _ _ _ _ Fz.keep (News.get Nz (.tail _ (.head _))) (News.get Nz (.tail _ (.tail _ (.head _)))) (News.fresh Nz (.tail _ (.head _))) (News.fresh Nz (.tail _ (.tail _ (.head _)))) (by k_ne) ?_
    repeat' constructor

end

section

-- nofill
section
variable {prog : Program} {w : World} {A₀ A : Around} {s : Shared} {base h₀ : Heap} {outer : List Env} {L : Addr} {m mg mb : Str → Option Value} {K : Frag} {p : Program} {loose : List Str} {mean : ExcName → Option Value}
  {R : Result → Shared → Prop} {name qual : Str} {params : Arguments} {body : List Stmt} {scope : Scope} {dV kV doc pm cdv ct oc : Value} {an od : Option Addr} {osl : Array (Option Value)} {f : Addr} {args : Args} {binds : List (Str × Value)}

/-- a generator function's call: its frame is laid, nothing of its text is run -/
theorem enterG (hk₀ : h₀.StaysIn s.heap) (X₀ : K.In h₀) (T : Top p loose mean mg mb h₀)
    (ho : K.lookup f = some ⟨oc, od, .func (fnOf name qual params body scope dV kV doc pm an cdv ct), osl⟩) (hcd : codeIn K cdv qual = true) (hroom : A.depth < recursionLimit)
    (hbind : BindsTo s (fnOf name qual params body scope dV kV doc pm an cdv ct) args binds) (hloc : ∀ y ∈ binds, scope.names.lookup y.1 = some .local)
    (h : ∀ (L' : Addr) h₁ tk, s.heap.objs.size ≤ L' → L' < h₁.objs.size → h₁.Ns L' (fun y => binds.reverse.lookup y) → s.heap.StaysIn h₁ →
      ∀ nm qn, R (.ok (.ret (.ref h₁.objs.size))) { s with gens := s.gens.push (.fresh (.func body (envOf qual scope L' f cdv))), toks := tk, heap := h₁.push { cls := .type "generator", data := .fields #[.int s.gens.size 0, nm, qn] } })
    (hco : scope.isCoroutine = false) (hgen : scope.isGenerator = true) (hk : scope.kind = .function)
    (hcell : ∀ x ∈ scope.names, x.2 ≠ .cell) : codeAny (model prog w) A (.call (.ref f) args) R s := by
  have X := X₀.keeps hk₀
  have T' := T.keeps hk₀
  refine codeAny_call_generator (fd := fnOf name qual params body scope dV kV doc pm an cdv ct) (body := body) hroom (X _ _ ho) rfl hco hgen rfl (codeRec_of X hcd) (hbind _ _ _ _ ?_)
  refine wpAny_newFunctionEnv hcell hloc (fun h₁ hns₁ hsb₁ => ?_) hk
  have hk₁ : s.heap.StaysIn h₁ := fun b o e => hsb₁.extBut b o (Nat.ne_of_lt (Heap.lt_size e)) (Heap.get?_push_of_some _ e)
  exact ⟨T'.nolimit.keeps hk₁, h _ h₁ _ (Nat.le_refl _) (by obtain ⟨o, _, _, ho, _⟩ := hns₁; exact Heap.lt_size ho) hns₁ hk₁ _ _⟩
end

/-- what a generator's turn keeps: the ground and the addresses named -/
def SinceG (hb : Heap) (kp : List Addr) (s₀ s : Shared) : Prop := ∃ h' tk, s = { s₀ with heap := h', toks := tk } ∧ (hb.StaysIn s₀.heap → hb.StaysIn h') ∧ ∀ b ∈ kp, ∀ o, s₀.heap.get? b = some o → h'.get? b = some o
theorem SinceG.refl (hb : Heap) (kp : List Addr) (s : Shared) : SinceG hb kp s s := ⟨s.heap, s.toks, rfl, id, fun _ _ _ e => e⟩
theorem SinceG.step {hb : Heap} {kp : List Addr} {s₀ s : Shared} (x : SinceG hb kp s₀ s) {h' : Heap} {tk : Nat} (hs : hb.StaysIn s.heap → hb.StaysIn h') (hk : ∀ b ∈ kp, ∀ o, s.heap.get? b = some o → h'.get? b = some o) : SinceG hb kp s₀ { s with heap := h', toks := tk } := by
  obtain ⟨h₁, tk₁, rfl, hs₁, hk₁⟩ := x
  exact ⟨h', tk, rfl, fun q => hs (hs₁ q), fun b hb o e => hk b hb o (hk₁ b hb o e)⟩
abbrev RGen (hb : Heap) (kp : List Addr) : GenEnd := fun n s₀ r s₁ => r = .ok (.ret .none) ∧ (n = 0 ∧ SinceG hb kp s₀ s₁)
def YGen (hb : Heap) (kp : List Addr) (Lg lz : Addr) (ns : List Int) : Protocol := fun m s₀ v s kap => (∃ k t, ns[ns.length - 1 - m]? = some k ∧ v = .int k t) ∧ SinceG hb kp s₀ s ∧
  ∃ fp : List Addr, (∀ b ∈ fp, Lg ≤ b ∨ b = lz) ∧ ∀ s'' : Shared, (∀ b ∈ fp, ∀ o, s.heap.get? b = some o → s''.heap.get? b = some o) → hb.StaysIn s''.heap → kap (.send .none) s''
/-- the generator, j of its items told -/
def GAt (prog : Program) (w : World) (A : Around) (hb : Heap) (kp : List Addr) (Lg lz : Addr) (ns : List Int) (g j : Nat) (s : Shared) : Prop :=
  ∃ (gs : GenState) (fp : List Addr), s.gens[g]? = some gs ∧ (∀ b ∈ fp, Lg ≤ b ∨ b = lz) ∧ ∀ s'' : Shared, (∀ b ∈ fp, ∀ o, s.heap.get? b = some o → s''.heap.get? b = some o) → hb.StaysIn s''.heap →
    gs.Goes (model prog w) A.in1 (RGen hb kp) (YGen hb kp Lg lz ns) (ns.length - j) (.send .none) s''

section
variable {prog : Program} {w : World} {A : Around} {E : Value → Shared → Prop} {env : Env} {h₀ : Heap} {target iter : Expr} {body : List Stmt} {pos : Pos} {Q : Flow → Shared → Prop}
theorem forG (kp : List Addr) {a g Lg lz : Nat} {ns : List Int} {m₀ : Str → Option Value} {news : List (Addr × Obj)} (J : Nat → (Str → Option Value) → List (Addr × Obj) → Prop) {R : Result → Shared → Prop} {s : Shared}
    (hh : A.handled = none) (hroom : A.depth < recursionLimit) (ht : ∀ it v, letOwnedTupleGo target it v = pure ()) (hlim : h₀.NoLimit)
    (hst : GAt prog w A h₀ kp Lg lz ns g 0 s) (hg : s.heap.IsGen a g) (hLL : env.locals < Lg) (hLz : lz ≠ env.locals) (haL : Lg < a)
    (F : Fr h₀ env.locals s.heap m₀) (N : News h₀ env.locals s.heap news) (hkp : env.locals ∈ kp ∧ a ∈ kp ∧ ∀ p ∈ news, p.1 ∈ kp) (hnw : ∀ p ∈ news, p.1 < Lg ∧ p.1 ≠ lz) (hj : J 0 m₀ news)
    (turn : ∀ i k t m₁ news₁ (s₁ : Shared) own, ns[i]? = some k → news₁.map (·.1) = news.map (·.1) → OwnOff own (news.map (·.1)) → J i m₁ news₁ → Fr h₀ env.locals s₁.heap m₁ → News h₀ env.locals s₁.heap (news₁ ++ own) →
      wpAny (model prog w) A (assign target env (.int k t)) (fun _ s₃ => wpAny (model prog w) A (execs body env) (TurnEnd h₀ env.locals (J (i + 1)) own (news.map (·.1)) s₁) (notedBy (model prog w) A env fun e s' => R (.error e) s') s₃) (notedBy (model prog w) A env fun e s' => R (.error e) s') s₁)
    (done : ∀ m₁ news₁ h tk, J ns.length m₁ news₁ → Fr h₀ env.locals h m₁ → News h₀ env.locals h news₁ → news₁.map (·.1) = news.map (·.1) → R (.ok .next) { s.setGen g .finished with heap := h, toks := tk }) :
    codeAny (model prog w) A (.forLoop target (.ref a) body [] env) R s := by
  refine codeAny_forLoop
    (fun k s' => ∃ i h' tk gs' m' news', s' = { s.setGen g gs' with heap := h', toks := tk } ∧ GAt prog w A h₀ kp Lg lz ns g i s' ∧ h'.IsGen a g ∧ Fr h₀ env.locals h' m' ∧ News h₀ env.locals h' news' ∧ news'.map (·.1) = news.map (·.1) ∧ J i m' news' ∧ i ≤ ns.length ∧ k = ns.length + 1 - i) ?_ (ns.length + 1) ?_ (ht _)
  · rintro k s' ⟨i, h', tk, gs₀, m', news', rfl, ⟨gs, fp, hgs, hfp, hgo⟩, hg', F', N', ha', hJ, hi, rfl⟩
    have hlim' : h'.NoLimit := hlim.keeps F'.keep
    have next : ∀ h₁ : Heap, (h₀.StaysIn h' → h₀.StaysIn h₁) → (∀ b ∈ kp, ∀ o, h'.get? b = some o → h₁.get? b = some o) → Fr h₀ env.locals h₁ m' ∧ News h₀ env.locals h₁ news' ∧ h₁.IsGen a g := fun h₁ hs₁ hk₁ =>
      ⟨⟨F'.ns.at' fun o e => hk₁ _ hkp.1 o e, hs₁ F'.keep, F'.above⟩, fun p hp => (by
          have hm : p.1 ∈ news'.map (·.1) := List.mem_map.mpr ⟨p, hp, rfl⟩
          rw [ha'] at hm
          obtain ⟨q, hq, e⟩ := List.mem_map.mp hm
          have hb : p.1 ∈ kp := e ▸ hkp.2.2 q hq
          exact ⟨hk₁ _ hb _ (N' p hp).1, (N' p hp).2⟩), by
          obtain ⟨o, nm, qn, ho, r⟩ := hg'
          exact ⟨o, nm, qn, hk₁ a hkp.2.1 o ho, r⟩⟩
    refine wpAny_pyNext_gen (P := fun n s₀ s₁ => n = 0 ∧ SinceG h₀ kp s₀ s₁) hh hlim' hroom hg' hgs (hgo _ (fun _ _ _ e => e) F'.keep) (fun v s₁ gs' hv => ?_) (fun s₁ hp h₂ hk => ?_)
    · obtain ⟨⟨kk, t, hkk, rfl⟩, ⟨h₁, tk₁, rfl, hs₁, hk₁⟩, fp', hfp', hkap⟩ := hv
      obtain ⟨F₁, N₁, G₁⟩ := next h₁ hs₁ hk₁
      generalize hn : ns.length - i = n at hkap hkk
      cases n with
      | zero => exact False.elim (hkap { s with heap := h₁ } (fun _ _ _ e => e) F₁.keep)
      | succ mm =>
        have hi2 : i < ns.length := by omega
        have hidx : ns.length - 1 - (mm + 1 - 1) = i := by omega
        rw [hidx] at hkk
        have hlt : g < s.gens.size := by
          rcases Nat.lt_or_ge g s.gens.size with q | q
          · exact q
          · rw [show (({ s.setGen g gs₀ with heap := h', toks := tk } : Shared).gens) = s.gens.setIfInBounds g gs₀ from rfl, Array.getElem?_eq_none (by simpa using q)] at hgs
            cases hgs
        have hL : env.locals ∉ a :: fp' := fun hm => by
          rcases List.mem_cons.mp hm with q | q
          · exact absurd (q ▸ haL) (Nat.not_lt.mpr (Nat.le_of_lt hLL))
          · rcases hfp' _ q with q | q
            · exact absurd hLL (Nat.not_lt.mpr q)
            · exact hLz q.symm
        have Nown : News h₀ env.locals h₁ (PyProof.Rows.ownOf h₀ (a :: fp') h₁) := news_ownOf hL
        have hsep : OwnOff (PyProof.Rows.ownOf h₀ (a :: fp') h₁) (news.map (·.1)) := by
          intro p hp b hb e
          obtain ⟨q, hq, rfl⟩ := List.mem_map.mp hb
          have h1 := hnw q hq
          rcases List.mem_cons.mp (ownOf_sub p hp) with z | z
          · exact absurd (z ▸ e ▸ h1.1) (Nat.not_lt.mpr (Nat.le_of_lt haL))
          · rcases hfp' _ z with z | z
            · exact absurd (e ▸ h1.1) (Nat.not_lt.mpr z)
            · exact h1.2 (e ▸ z)
        refine wpAny_mono (turn i kk t m' news' _ (PyProof.Rows.ownOf h₀ (a :: fp') h₁) hkk ha' hsep hJ F₁ (N₁.append Nown)) (fun _ s₂ h₂ => wpAny_mono h₂ (fun f s₃ h₃ => ?_) fun _ _ e => e) fun _ _ e => e
        obtain ⟨rfl, h₃, tk₃, m₃, all, nx, rfl, F₃, N₃, hx, ho, hadr, hJ₃⟩ := h₃
        have keepfp : ∀ b ∈ a :: fp', ∀ o, h₁.get? b = some o → h₃.get? b = some o := fun b hb o e => by
          cases hb0 : h₀.get? b with
          | some o₀ =>
            have : o₀ = o := by have := F₁.keep b o₀ hb0; rw [e] at this; exact (Option.some.inj this).symm
            exact this ▸ F₃.keep b o₀ hb0
          | none => exact (N₃ _ (ho _ (mem_ownOf hb hb0 e))).1
        refine ⟨ns.length + 1 - (i + 1), by omega, i + 1, h₃, tk₃, gs', m₃, nx, ?_, ⟨gs', fp', ?_, hfp', fun s'' hal hst'' => ?_⟩, ?_, F₃, fun p hp => N₃ p (hx p hp), hadr, hJ₃, hi2, rfl⟩
        · simp [Shared.setGen, Array.setIfInBounds_setIfInBounds]
        · simp [Shared.setGen, hlt]
        · have e : ns.length - (i + 1) = mm := by omega
          rw [e]
          exact hkap s'' (fun b hb o q => hal b hb o (keepfp b (List.mem_cons_of_mem _ hb) o q)) hst''
        · obtain ⟨o, nm, qn, ho', r⟩ := G₁
          exact ⟨o, nm, qn, keepfp a (List.mem_cons_self ..) o ho', r⟩
    · obtain ⟨hn0, h₁, tk₁, rfl, hs₁, hk₁⟩ := hp
      have hin : i = ns.length := by omega
      subst hin
      obtain ⟨F₁, N₁, _⟩ := next h₁ hs₁ hk₁
      refine wpAny_execs_nil ?_
      have := done m' news' h₂ tk₁ hJ (F₁.keeps hk) (fun p hp => ⟨hk _ _ (N₁ p hp).1, (N₁ p hp).2⟩) ha'
      simpa [Shared.setGen, Array.setIfInBounds_setIfInBounds] using this
  · have hs : s = { s.setGen g (s.gens[g]?.getD .finished) with heap := s.heap, toks := s.toks } := by
      obtain ⟨gs, _, hgs, _⟩ := hst
      have : s.gens.setIfInBounds g gs = s.gens := by
        apply Array.ext_getElem?
        intro k
        rw [Array.getElem?_setIfInBounds]
        split
        · rename_i q; subst q
          split
          · rw [hgs]
          · rename_i q2; rw [Array.getElem?_eq_none (Nat.not_lt.mp q2)] at hgs; cases hgs
        · rfl
      rw [hgs]
      simp [Shared.setGen, this]
    exact ⟨0, s.heap, s.toks, _, m₀, news, hs, hst, hg, F, N, rfl, hj, Nat.zero_le _, rfl⟩
end

section
variable {prog : Program} {w : World} {A : Around} {env : Env} {hb : Heap} {target : Expr} {body : List Stmt} {fs : List Frame} {R : GenEnd} {Y : Protocol}
/-- a for over a list inside a generator -/
theorem segForG (kp : List Addr) {I Lg lz N : Nat} {ws : List Value} (hh : (A.over (.forLoop target (.ref I) body [] env) fs).handled = none) (ht : ∀ it v, letOwnedTupleGo target it v = pure ()) (hbLg : hb.objs.size ≤ Lg) (hLI : Lg < I) (hzI : lz ≠ I) (hIk : I ∉ kp)
    (turn : ∀ i n (s₀ s₁ : Shared) m₁ v, n + i = N → ws[i]? = some v → Fr hb Lg s₁.heap m₁ → SinceG hb kp s₀ s₁ → s₁.heap.IsListIter I lz (i + 1) → s₁.heap.IsList lz ws.toArray →
      (∀ n' (s₀' s' : Shared) m', n' + (i + 1) = N → i + 1 < ws.length → Fr hb Lg s'.heap m' → SinceG hb kp s₀' s' → s'.heap.IsListIter I lz (i + 1) → s'.heap.IsList lz ws.toArray →
        Seg (model prog w) A R Y n' s₀' (.forLoop target (.ref I) body [] env) ((model prog w).den (.forLoop target (.ref I) body [] env)) fs s') →
      wpAny (model prog w) (A.over (.forLoop target (.ref I) body [] env) fs) (assign target env v) (fun _ s₂ => Seg (model prog w) A R Y n s₀ (.forLoop target (.ref I) body [] env) ((execs body env).wrap (fun f => match f with
            | .next | .cont => .pure (.again (.forLoop target (.ref I) body [] env))
            | .brk => .pure (.done .next)
            | .ret v => .pure (.done (.ret v))) (fun e => (do noteFrame e env; theTreesLotGoes e : Sem Unit).wrap (fun _ => .raise e) .raise id id) id id) fs s₂)
        (fun e s₂ => Seg (model prog w) A R Y n s₀ (.forLoop target (.ref I) body [] env) ((do noteFrame e env; theTreesLotGoes e : Sem Unit).wrap (fun _ => .raise e) .raise id id) fs s₂) s₁) :
    ∀ (k i n : Nat) (s₀ s₁ : Shared) m₁, ws.length - i = k → n + i = N → i < ws.length → Fr hb Lg s₁.heap m₁ → SinceG hb kp s₀ s₁ → s₁.heap.IsListIter I lz i → s₁.heap.IsList lz ws.toArray →
      Seg (model prog w) A R Y n s₀ (.forLoop target (.ref I) body [] env) ((model prog w).den (.forLoop target (.ref I) body [] env)) fs s₁ := by
  intro k
  induction k with
  | zero => intro i n s₀ s₁ m₁ hk _ hi; omega
  | succ k ih =>
    intro i n s₀ s₁ m₁ hk hn hi F₁ S₁ hit hlz
    show Seg _ A _ _ _ s₀ _ ((forTurn target (.ref I) body [] env).onRaise (fun x => do noteFrame x env; theTreesLotGoes x)) fs s₁
    rw [Sem.onRaise_eq_wrap]
    unfold forTurn
    refine seg_bind_wrap (wpAny_standAt ?_)
    refine seg_bind_wrap (wpAny_onRaise ?_)
    have W : Walks prog w (A.over (.forLoop target (.ref I) body [] env) fs) I [I, lz] [I] _ _ _ := Walks.list hh I lz hzI ws.toArray
    refine W.item i s₁ _ _ (by simpa using hi) ⟨hit, hlz⟩ fun v h₁ tk₁ hP hst₁ hk₁ => ?_
    have F₂ : Fr hb Lg h₁ m₁ := ⟨F₁.ns.at' fun o e => hk₁ _ o (by simpa using Nat.ne_of_lt hLI) e, fun b o e => hk₁ b o (by
      have : b < Lg := Nat.lt_of_lt_of_le (Heap.lt_size e) hbLg
      simpa using Nat.ne_of_lt (Nat.lt_trans this hLI)) (F₁.keep b o e), hbLg⟩
    have S₂ : SinceG hb kp s₀ { s₁ with heap := h₁, toks := tk₁ } := S₁.step (fun _ => F₂.keep) fun b hb1 o e => hk₁ b o (fun q => by
      rw [List.mem_singleton] at q
      exact hIk (q ▸ hb1)) e
    show Seg _ A _ _ _ s₀ _ ((letOwnedTupleGo target (.ref I) v >>= _).wrap _ _ _ _) fs _
    refine seg_bind_wrap (wpAny_of_eq (ht _ v) ?_)
    refine seg_bind_wrap (wpAny_mono (turn i n s₀ _ m₁ v hn (by simpa using hP) F₂ S₂ hst₁.1 hst₁.2 fun n' s₀' s' m' hn' hi' F' S' hit' hlz' => ih (i + 1) n' s₀' s' m' (by omega) hn' hi' F' S' hit' hlz') (fun _ s₂ h₂ => ?_) fun e s₂ h₂ => ?_)
    · rw [Sem.bind_eq_wrap', Sem.wrap_wrap]
      rw [Sem.wrap_congr (execs body env) _ _ (K' := fun f => match f with
            | .next | .cont => .pure (.again (.forLoop target (.ref I) body [] env))
            | .brk => .pure (.done .next)
            | .ret v => .pure (.done (.ret v))) (H' := (fun e => (do noteFrame e env; theTreesLotGoes e : Sem Unit).wrap (fun _ => .raise e) .raise id id))
        (fun f => by cases f <;> rfl)
        (fun e => by exact Sem.bind_eq_wrap _ _)]
      exact h₂
    · rw [Sem.bind_eq_wrap]
      exact h₂
end
theorem kept_own {hb h h' : Heap} {L : Addr} {fp : List Addr} {all : List (Addr × Obj)} (st : hb.StaysIn h) (st' : hb.StaysIn h') (N : News hb L h' all) (ho : ∀ p ∈ PyProof.Rows.ownOf hb fp h, p ∈ all) : ∀ b ∈ fp, ∀ o, h.get? b = some o → h'.get? b = some o := fun b hb' o e => by
  cases hb0 : hb.get? b with
  | some o₀ =>
    have : o₀ = o := by have := st b o₀ hb0; rw [e] at this; exact (Option.some.inj this).symm
    exact this ▸ st' b o₀ hb0
  | none => exact (N _ (ho _ (mem_ownOf hb' hb0 e))).1

end

section

local macro_rules | `(tactic| walk_at "enterC") => `(tactic| (refine' enterC ?k1 ?k2 ?k3 ?k4 ?kA ?kF ?kK ?k6 ?k7 ?k8 ?k9 ?kB ?kD ?_ ?c2 ?c3 ?c4; (case kA => exact rfl); (case kF => exact rfl); (case kK => assumption); (case k1 => k_asm); (case k2 => k_asm); (case k3 => k_asm); (case k4 => k_asm); (case k6 => k_is); (case k7 => k_is); (case k8 => ktr_room); (case k9 => exact BindsTo.of_eq rfl); (case kB => exact rfl); (case kD => decide +kernel); (case c2 => exact rfl); (case c3 => exact rfl); (case c4 => exact rfl); k_whole; intro L' h' tk' cells' F' N' Y' B' X' T' hL'; k_cells Y'; (try simp only [List.cons_append, List.nil_append] at N'); (try dsimp only); (try k_fold)))
local macro_rules | `(tactic| walk_at "enterP") => `(tactic| (refine' enterP ?k1 ?k2 ?k3 ?k4 ?kA ?kF ?kK ?k6 ?k7 ?k8 ?k9 ?kB ?_ ?c2 ?c3 ?c4 ?c5; (case kA => exact rfl); (case kF => exact rfl); (case kK => assumption); (case k1 => k_asm); (case k2 => k_asm); (case k3 => k_asm); (case k4 => k_asm); (case k6 => k_is); (case k7 => k_is); (case k8 => ktr_room); (case k9 => exact BindsTo.of_eq rfl); (case c5 => decide); (case kB => exact locs rfl); (case c2 => exact rfl); (case c3 => exact rfl); (case c4 => exact rfl); k_whole; intro L' h' F' N' B' X' T' hL'; (try dsimp only); (try k_fold)))
local macro_rules | `(tactic| walk_at "m_toComp") => `(tactic| repeat ((fail_if_success (with_reducible show wpAny _ _ (eval (PySem.Expr.ListComp _ _ _ _) _) _ _ _)); first | (k_unfold; (try dsimp only)) | walk1 | (dsimp only; walk1)))
local macro_rules | `(tactic| walk_at "m_toCompCall") => `(tactic| repeat' ((fail_if_success (with_reducible show wpAny _ _ (eval (PySem.Expr.ListComp (PySem.Expr.BinOp (PySem.Expr.Call _ _ _ _) _ _ _) _ _ _) _) _ _ _)); first | (k_unfold; (try dsimp only)) | walk1 | (dsimp only; walk1)))
local macro_rules | `(tactic| walk_at "m_units") => `(tactic| ((try simp only [units_in1, units_deeper, Around.mark_units, units_caller]); (try dsimp only [ktrTop]); omega))
local macro_rules | `(tactic| walk_at "compareOp Eq ref ref") => `(tactic| (k_here; (with_reducible show wpAny _ _ (compareOp CmpOp.Eq (Value.ref _) (Value.ref _)) _ _ _); (with_unfolding_all refine' eq_intsK ?k1 ?k2 ?k3 ?k4 ?k5 ?_; (case k1 => is_list); (case k2 => l_ints); (case k3 => is_list); (case k4 => l_ints); (case k5 => walk_at "m_units"); k_whole)))
local macro_rules | `(tactic| walk_at "compareOp NotEq ref ref") => `(tactic| (k_here; (with_reducible show wpAny _ _ (compareOp CmpOp.NotEq (Value.ref _) (Value.ref _)) _ _ _); (with_unfolding_all refine' ne_intsK ?k1 ?k2 ?k3 ?k4 ?k5 ?_; (case k1 => is_list); (case k2 => l_ints); (case k3 => is_list); (case k4 => l_ints); (case k5 => walk_at "m_units"); k_whole)))
local macro_rules | `(tactic| walk_at "m_toWhile") => `(tactic| repeat' ((fail_if_success (with_reducible show wpAny _ _ (exec (PySem.Stmt.While _ _ _ _) _) _ _ _)); first | (k_unfold; (try dsimp only)) | walk1 | (dsimp only; walk1)))
local macro_rules | `(tactic| walk_at "m_toFor") => `(tactic| repeat' ((fail_if_success (with_reducible show wpAny _ _ (exec (PySem.Stmt.For _ _ _ _ _) _) _ _ _)); first | (k_unfold; (try dsimp only)) | walk1 | (dsimp only; walk1)))
local macro_rules | `(tactic| walk_at "enterD") => `(tactic| (refine' code_defG ?k1 ?k2 ?k3 ?k4 ?k5 ?kA ?kF ?kK ?k6 ?k7 ?k8 ?k9 ?kB ?_ ?c2 ?c3 ?c4 ?c5; (case kA => exact rfl); (case kF => exact rfl); (case kK => first | exact rfl | assumption); (case k1 => k_asm); (case k2 => k_asm); (case k3 => k_asm); (case k4 => k_asm); (case k5 => k_asm); (case k6 => k_is); (case k7 => k_is); (case k8 => ktr_room); (case k9 => first | exact BindsTo.of_eq rfl | exact binds_K (by k_in) rfl (by k_is) rfl rfl rfl); (case c5 => decide); (case kB => exact locs rfl); (case c2 => exact rfl); (case c3 => exact rfl); (case c4 => exact rfl); k_whole; intro g' L' h' FG' F' N' B' X' T' kG'; (try dsimp only); (try k_fold)))

local macro_rules | `(tactic| walk_at "m_post") => `(tactic| (intro t9 h9 tk9 st9; (have F9 := fr_stay (by assumption) st9); (have N9 := news_stay (by assumption) st9); (try have kE9 := elt_stay (by assumption) st9); (try dsimp only); k_sweep; (try k_fold)))
local macro_rules | `(tactic| walk_at "call ref") => `(tactic| (k_here; (with_reducible show wpAny _ _ (call (Value.ref _) [Value.int _ _, Value.int _ _]) _ _ _); k_dflt (first
  | (refine' opSub ?k1 ?k2 ?k3 ?k4 ?k5 ?k6 ?_; (case k1 => k_asm); (case k2 => k_asm); (case k3 => k_asm); (case k4 => k_asm); (case k5 => first | exact rfl | assumption); (case k6 => ktr_room))
  | (refine' opAdd ?k1 ?k2 ?k3 ?k4 ?k5 ?k6 ?_; (case k1 => k_asm); (case k2 => k_asm); (case k3 => k_asm); (case k4 => k_asm); (case k5 => first | exact rfl | assumption); (case k6 => ktr_room))
  | (refine' opMod ?k1 ?k2 ?k3 ?k4 ?k5 ?k6 ?k7 ?_; (case k1 => k_asm); (case k2 => k_asm); (case k3 => k_asm); (case k4 => k_asm); (case k5 => first | exact rfl | assumption); (case k6 => ktr_room); (case k7 => omega))
  | (refine' opMul ?k1 ?k2 ?k3 ?k4 ?k5 ?k6 ?k7 ?k8 ?_; (case k1 => k_asm); (case k2 => k_asm); (case k3 => k_asm); (case k4 => k_asm); (case k5 => first | exact rfl | assumption); (case k6 => ktr_room); (case k7 => omega); (case k8 => omega))); walk_at "m_post"))

local macro_rules | `(tactic| walk_at "m_mems") => `(tactic| (repeat' (first | exact List.forall_mem_nil _ | (refine List.forall_mem_cons.mpr ⟨by k_mem, ?_⟩))))
local macro_rules | `(tactic| walk_at "m_own") => `(tactic| (intro p9 hp9; (repeat' (first | exact hp9 | refine List.Mem.tail _ ?_))))

def marksF (start : Int) (ns : List Int) (i : Nat) : List Int := (List.range (i + 1)).map fun j => start + (ns.take j).sum

theorem marksF_split (start : Int) (ns : List Int) (i : Nat) : marksF start ns i = ((List.range i).map fun j => start + (ns.take j).sum) ++ [start + (ns.take i).sum] := by simp [marksF, List.range_succ]
theorem marksF_next {start k : Int} {ns : List Int} {i : Nat} (h : ns[i]? = some k) : marksF start ns (i + 1) = marksF start ns i ++ [(start + (ns.take i).sum) + k] := by
  have e : (ns.take (i + 1)).sum = (ns.take i).sum + k := by rw [List.take_add_one, h]; simp
  rw [marksF_split start ns (i + 1), e, Int.add_assoc]
  rfl
theorem push_set {α : Type} (xs : Array α) (x y : α) : (xs.push x).setIfInBounds xs.size y = xs.push y := by
  apply Array.ext_getElem?
  intro k
  rw [Array.getElem?_setIfInBounds, Array.getElem?_push, Array.getElem?_push]
  by_cases h : xs.size = k
  · subst h; simp
  · rw [if_neg h, if_neg (Ne.symm h), if_neg (Ne.symm h)]

theorem marks {prog : Program} {w : World} {p : Program} {loose : List Str} {mean : ExcName → Option Value} {mg mb : Str → Option Value}
  (dp un : Nat) (gd : Option (List Code)) (cn : Str) (cs : Scope) (a : Addr) (ccd : Value) (cl : List (Str × Addr)) (outer : List Env) (A₀ : Around) (base h₀ : Heap) (L : Addr) (m : Str → Option Value) (s : Shared) (l : Addr) (vs : List Value) (ns : List Int) (start : Int) (t1 : Tok)
  (Q E : Value → Shared → Prop)
  (B : Below A₀ base outer h₀) (F : Fr h₀ L s.heap m) (X : (Kf w.params).In h₀) (T : Top p loose mean mg mb h₀) (hk : cs.kind = .function)
  (hl : s.heap.IsList l vs.toArray) (hi : IntsAre vs ns) (hlen : ns.length ≤ 5) (hb : ∀ n ∈ ns, 1 ≤ n ∧ n ≤ 20)
  (hdp : dp + 10 < recursionLimit) (hu : un + 100 < cLine)
  (hret : ∀ D ys n h' tk', s.heap.StaysIn h' → h'.get? D = some (W.listOf ys.toArray n) → s.heap.get? D = none → IntsAre ys (marksF start ns ns.length) → Q (.ref D) { s with heap := h', toks := tk', gens := s.gens.push .finished }) :
  wpAny (model prog w) (ktrTop dp un gd cn cs L a ccd cl outer) (call (.ref 316) [.int start t1, .ref l]) Q E s := by
  refine wpAny_call ?_
  k_dflt walk_at "enterP"
  walk_at "m_toFor"
  refine wpAny_For ?_ (by intro _; rfl)
  show wpAny (model prog w) _ _ _ _ _
  k_fold
  k_steps
  rename_i L' hY BY XY TY hLY qk0 ek0 tkA lM h1 l1a h2 l2 h3 l1b lz ws h4 FC NC hI l1c
  obtain ⟨m0, hm0, FD⟩ := frNamed FC
  refine wpAny_call ?_
  k_dflt refine' enterG FC.keep ?k2 ?k3 ?k4 ?k5 ?k6 ?k7 ?k8 ?_ ?k9 ?k10 ?k11 ?k12
  case k2 => k_asm
  case k3 => k_asm
  case k4 => k_is
  case k5 => k_is
  case k6 => ktr_room
  case k7 => exact BindsTo.of_eq rfl
  case k8 => exact locs rfl
  case k9 => rfl
  case k10 => rfl
  case k11 => rfl
  case k12 => decide
  intro Lg h5 tk5 hLg hLg5 hns5 hst5 nm qn
  have F5 : Fr s.heap L' h5 m0 := FD.keeps hst5
  have N5 := news_stay NC hst5
  show wpAny (model prog w) _ (pyIter _) _ _ _
  refine wpAny_pyIter_gen (g := s.gens.size) ⟨_, _, _, Heap.get?_push_size _ rfl, rfl, rfl, rfl⟩ ?_
  obtain ⟨aG, haG⟩ : ∃ aG, aG = h5.objs.size := ⟨_, rfl⟩
  rw [← haG]
  have hLL : L' < Lg := Nat.lt_of_lt_of_le FC.ns.lt hLg
  have hzLg : lz < Lg := Nat.lt_of_lt_of_le (Heap.lt_size (NC _ (.head _)).1) hLg
  have hMLg : lM < Lg := Nat.lt_trans l1c.2 hzLg
  have hzL : lz ≠ L' := (NC _ (.head _)).2.1
  obtain ⟨nz, ez⟩ : ∃ nz, h4.get? lz = some (W.listOf ws.toArray nz) := ⟨_, (NC _ (.head _)).1⟩
  have zfr := (NC _ (.head _)).2.2
  obtain ⟨nM, eM⟩ : ∃ nM, h4.get? lM = some (W.listOf [Value.int start t1].toArray nM) := ⟨_, (NC _ (.tail _ (.tail _ (.head _)))).1⟩
  have Mfr := (NC _ (.tail _ (.tail _ (.head _)))).2
  refine forG [L', lM, lz, aG] (fun i m₁ nw => ∃ vs' n', nw = [(lM, W.listOf vs'.toArray n')] ∧ IntsAre vs' (marksF start ns i) ∧ ∀ z, z ≠ Str.ofString "step" → m₁ z = m0 z)
    (g := s.gens.size) (Lg := Lg) (lz := lz) (ns := ns) rfl ?room (by intro _ _; rfl) TY.nolimit ⟨_, [Lg, lz, aG], Array.getElem?_push_size .., ?fps, fun s'' hal hst'' => ⟨rfl, ?seg⟩⟩ ⟨_, _, _, haG ▸ Heap.get?_push_size _ rfl, rfl, rfl, rfl⟩ hLL hzL (haG ▸ hLg5) (F5.push _) (news := [(lM, W.listOf [Value.int start t1].toArray nM)]) ?N ?kp ?hnw ⟨_, _, rfl, ?I0, fun _ _ => rfl⟩ ?turn ?done
  case fps =>
    intro b hb
    simp only [List.mem_cons, List.not_mem_nil, or_false] at hb
    rcases hb with hb | hb | hb
    · exact .inl (hb ▸ Nat.le_refl _)
    · exact .inr hb
    · exact .inl (hb ▸ haG ▸ Nat.le_of_lt hLg5)
  case kp => exact ⟨.head _, by simp, by simp⟩
  case seg =>
    have hLgs : s.heap.objs.size ≤ Lg := Nat.le_trans hLY (Nat.le_of_lt hLL)
    have Fg : Fr s.heap Lg s''.heap _ := ⟨(hns5.push _).at' fun o e => hal Lg (by simp) o e, hst'', hLgs⟩
    have Ng : News s.heap Lg s''.heap [(lz, W.listOf ws.toArray nz)] := by
      intro q hq
      rw [List.mem_singleton.mp hq]
      exact ⟨hal lz (by simp) _ (Heap.get?_push_of_some _ (hst5 _ _ ez)), Nat.ne_of_lt hzLg, zfr⟩
    have hLo : Lg ∉ [L', lM, lz, aG] := by
      simp only [List.mem_cons, List.not_mem_nil, or_false, not_or]
      exact ⟨Nat.ne_of_gt hLL, Nat.ne_of_gt hMLg, Nat.ne_of_gt hzLg, haG ▸ Nat.ne_of_lt hLg5⟩
    have No : News s.heap Lg s''.heap (PyProof.Rows.ownOf s.heap [L', lM, lz, aG] s''.heap) := news_ownOf hLo
    have haS : aG < s''.heap.objs.size := Heap.lt_size (hal aG (by simp) _ (haG ▸ Heap.get?_push_size _ rfl))
    have Nx := Ng.append No
    have kept := fun (h' : Heap) (all : List (Addr × Obj)) => kept_own (fp := [L', lM, lz, aG]) (L := Lg) (h' := h') (all := all) hst''
    generalize PyProof.Rows.ownOf s.heap [L', lM, lz, aG] s''.heap = own at Nx kept
    clear FC NC FD F5 N5 Ng No
    simp only [List.cons_append, List.nil_append] at Nx
    refine seg_func ?_
    refine seg_execs_cons ?_
    refine seg_wrap ?_
    show wpAny (model prog w) (ktrTop _ _ _ _ _ _ _ _ _ _) _ _ _ _
    k_fold
    k_steps
    (rename Fr _ _ _ _ => Fg2)
    refine seg_execs_cons ?_
    rw [exec_For]
    refine seg_bind_wrap (wpAny_standAt ?_)
    refine seg_bind_wrap ?_
    show wpAny (model prog w) (ktrTop _ _ _ _ _ _ _ _ _ _) _ _ _ _
    k_fold
    k_steps
    (rename Fr _ _ _ _ => Fg2)
    (rename News _ _ _ _ => Ng2)
    rename_i h6
    refine seg_bind_wrap (wpAny_of_eq rfl ?_)
    refine seg_bind_wrap (wpAny_standAt ?_)
    refine seg_bind_wrap (wpAny_holding (wpAny_pyIter_list ⟨_, (Ng2 _ (.head _)).1, rfl, _, rfl⟩ ?_))
    refine seg_call fun pp => ?_
    have ea6 : h6.get? aG = some _ := kept h6 _ Fg2.keep Ng2 (fun q hq => .tail _ hq) aG (by simp) _ (hal aG (by simp) _ (haG ▸ Heap.get?_push_size _ rfl))
    have hkk : ∀ b ∈ [L', lM, lz, aG], b < h6.objs.size := by
      intro b hb
      simp only [List.mem_cons, List.not_mem_nil, or_false] at hb
      have := Fg2.ns.lt
      rcases hb with hb | hb | hb | hb
      · exact hb ▸ Nat.lt_trans hLL this
      · exact hb ▸ Nat.lt_trans hMLg this
      · exact hb ▸ Nat.lt_trans hzLg this
      · exact hb ▸ Heap.lt_size ea6
    refine segForG [L', lM, lz, aG] (hb := s.heap) (Lg := Lg) (lz := lz) (N := ns.length) (ws := ws) rfl (by intro _ _; rfl) hLgs Fg2.ns.lt (Nat.ne_of_lt (hkk lz (by simp))) (fun q => Nat.lt_irrefl _ (hkk _ q)) ?turn2 ws.length 0 _ _ _ _ rfl (by omega) ?pss (Fg2.push _) ⟨_, _, rfl, fun _ => (Fg2.push _).keep, fun b hb o e => Heap.get?_push_of_some _ (kept h6 _ Fg2.keep Ng2 (fun q hq => .tail _ hq) b hb o e)⟩ ⟨_, Heap.get?_push_size _ rfl, rfl, rfl⟩ ⟨_, Heap.get?_push_of_some _ (Ng2 _ (.head _)).1, rfl, _, rfl⟩
    case pss => rw [hI.length]; simp
    case turn2 =>
      intro i n s₀ s₁ m₁ v hn hv F₁ S₁ hit hlz go
      have hLI : Lg < h6.objs.size := Fg2.ns.lt
      obtain ⟨I, hII⟩ : ∃ I, I = h6.objs.size := ⟨_, rfl⟩
      rw [← hII] at go hit hLI hkk ⊢
      have hLo2 : Lg ∉ [L', lM, lz, aG, I] := by
        simp only [List.mem_cons, List.not_mem_nil, or_false, not_or] at hLo ⊢
        exact ⟨hLo.1, hLo.2.1, hLo.2.2.1, hLo.2.2.2, Nat.ne_of_lt hLI⟩
      have No : News s.heap Lg s₁.heap (PyProof.Rows.ownOf s.heap [L', lM, lz, aG, I] s₁.heap) := news_ownOf hLo2
      have kept2 := fun (h' : Heap) (all : List (Addr × Obj)) => kept_own (fp := [L', lM, lz, aG, I]) (L := Lg) (h' := h') (all := all) F₁.keep
      generalize PyProof.Rows.ownOf s.heap [L', lM, lz, aG, I] s₁.heap = own2 at No kept2
      obtain ⟨k, t, hkat, rfl⟩ := ints_at hI hv
      clear Fg2 Ng2 hal kept hst5 hns5
      rcases Nat.lt_or_ge i ns.length with hin | hin
      · rw [List.getElem?_append_left hin] at hkat
        have hkb := hb k (List.mem_of_getElem? hkat)
        show wpAny (model prog w) (ktrTop _ _ _ _ _ _ _ _ _ _) _ _ _ _
        k_fold
        k_steps
        refine seg_execs_cons ?_
        refine seg_wrap ?_
        show wpAny (model prog w) (ktrTop _ _ _ _ _ _ _ _ _ _) _ _ _ _
        k_fold
        k_steps
        all_goals (try (exfalso; omega))
        refine seg_execs_cons ?_
        refine seg_wrap ?_
        show wpAny (model prog w) (ktrTop _ _ _ _ _ _ _ _ _ _) _ _ _ _
        k_fold
        k_steps
        all_goals (try (exfalso; omega))
        refine seg_execs_cons ?_
        cases n with
        | zero => omega
        | succ n =>
          refine seg_Expr_Yield rfl rfl rfl ?_
          show wpAny (model prog w) (ktrTop _ _ _ _ _ _ _ _ _ _) _ _ _ _
          k_fold
          k_steps
          (rename Fr _ _ _ _ => Fy)
          (rename News _ _ _ _ => Ny)
          rename_i kap hkap
          have hidx : ns.length - 1 - n = i := by omega
          refine ⟨⟨k, _, by rw [hidx]; exact hkat, rfl⟩, ?since, [Lg, lz, aG, I], ?fps2, fun s3 hal3 hst3 => hkap _ _ ?_⟩
          case since => exact S₁.step (fun _ => Fy.keep) fun b hb o e => kept2 _ _ Fy.keep Ny (fun q hq => hq) b (List.mem_append_left [I] hb) o e
          case fps2 =>
            intro b hb
            simp only [List.mem_cons, List.not_mem_nil, or_false] at hb
            rcases hb with hb | hb | hb | hb
            · exact .inl (hb ▸ Nat.le_refl _)
            · exact .inr hb
            · exact .inl (hb ▸ haG ▸ Nat.le_of_lt hLg5)
            · exact .inl (hb ▸ Nat.le_of_lt hLI)
          show Seg (model prog w) _ _ _ _ _ _ _ _ _
          have F3 : Fr s.heap Lg s3.heap _ := ⟨Fy.ns.at' fun o e => hal3 Lg (by simp) o e, hst3, hLgs⟩
          have hit3 : s3.heap.IsListIter I lz (i + 1) := by
            obtain ⟨o, e, r⟩ := hit
            exact ⟨o, hal3 I (by simp) o (kept2 _ _ Fy.keep Ny (fun q hq => hq) I (by simp) o e), r⟩
          have hlz3 : s3.heap.IsList lz ws.toArray := by
            obtain ⟨o, e, r⟩ := hlz
            exact ⟨o, hal3 lz (by simp) o (kept2 _ _ Fy.keep Ny (fun q hq => hq) lz (by simp) o e), r⟩
          have No3 : News s.heap Lg s3.heap (PyProof.Rows.ownOf s.heap [L', lM, lz, aG, I] s3.heap) := news_ownOf hLo2
          have kept3 := fun (h' : Heap) (all : List (Addr × Obj)) => kept_own (fp := [L', lM, lz, aG, I]) (L := Lg) (h' := h') (all := all) F3.keep
          generalize PyProof.Rows.ownOf s.heap [L', lM, lz, aG, I] s3.heap = own3 at No3 kept3
          clear Fy Ny kept2 hal3 hit hlz
          refine seg_execs_cons ?_
          refine seg_wrap ?_
          show wpAny (model prog w) (ktrTop _ _ _ _ _ _ _ _ _ _) _ _ _ _
          k_fold
          k_steps
          (rename Fr _ _ _ _ => F9)
          (rename News _ _ _ _ => N9)
          refine seg_execs_nil ?_
          refine seg_again rfl ?_
          refine go n _ _ _ (by omega) (by rw [hI.length]; simp; omega) F9 ⟨_, _, rfl, fun _ => F9.keep, fun b hb o e => kept3 _ _ F9.keep N9 (fun q hq => hq) b (List.mem_append_left [I] hb) o e⟩ ?_ ?_
          · obtain ⟨o, e, r⟩ := hit3
            exact ⟨o, kept3 _ _ F9.keep N9 (fun q hq => hq) I (by simp) o e, r⟩
          · obtain ⟨o, e, r⟩ := hlz3
            exact ⟨o, kept3 _ _ F9.keep N9 (fun q hq => hq) lz (by simp) o e, r⟩
      · have hin2 : i = ns.length := by omega
        have hn0 : n = 0 := by omega
        subst hn0
        rw [List.getElem?_append_right hin, hin2, Nat.sub_self] at hkat
        have hk127 : k = 127 := by simpa using hkat.symm
        subst hk127
        show wpAny (model prog w) (ktrTop _ _ _ _ _ _ _ _ _ _) _ _ _ _
        k_fold
        k_steps
        refine seg_execs_cons ?_
        refine seg_wrap ?_
        show wpAny (model prog w) (ktrTop _ _ _ _ _ _ _ _ _ _) _ _ _ _
        k_fold
        k_steps
        (rename Fr _ _ _ _ => F9)
        (rename News _ _ _ _ => N9)
        show Seg (model prog w) _ _ _ _ _ _ _ _ _
        refine seg_leaf (.ok (.ret .none)) ?_
        exact seg_end (.ok (.ret .none)) ⟨rfl, rfl, S₁.step (fun _ => F9.keep) fun b hb o e => kept2 _ _ F9.keep N9 (fun q hq => hq) b (List.mem_append_left [I] hb) o e⟩
  case room => ktr_room
  case N =>
    intro q hq
    rw [List.mem_singleton.mp hq]
    exact ⟨Heap.get?_push_of_some _ (hst5 _ _ eM), Mfr⟩
  case hnw =>
    intro q hq
    rw [List.mem_singleton.mp hq]
    exact ⟨hMLg, Nat.ne_of_lt l1c.2⟩
  case I0 =>
    have : marksF start ns 0 = [start] := by simp [marksF]
    rw [this]
    exact .cons _ _ .nil
  case turn =>
    clear FC NC F5 N5 hst5 hns5
    rintro i k t m₁ nw s₁ own hki hadr hoff ⟨vs', n', rfl, hI', hm⟩ F₁ N₁
    rw [map_but hm] at F₁
    subst hm0
    simp only [List.cons_append, List.nil_append] at N₁
    simp only [List.map_cons, List.map_nil] at hoff
    clear FD
    obtain ⟨fr, hfr⟩ : ∃ fr, fr = (List.range i).map fun j => start + (ns.take j).sum := ⟨_, rfl⟩
    obtain ⟨la, hla⟩ : ∃ la, la = start + (ns.take i).sum := ⟨_, rfl⟩
    have hnext : marksF start ns (i + 1) = (fr ++ [la]) ++ [la + k] := by rw [marksF_next hki, marksF_split, hfr, hla]
    rw [marksF_split, ← hfr, ← hla] at hI'
    have hln : vs'.length ≤ 6 := by
      have : i < ns.length := by
        rcases Nat.lt_or_ge i ns.length with q | q
        · exact q
        · rw [List.getElem?_eq_none q] at hki; cases hki
      rw [hI'.length, hfr]; simp; omega
    have hz3 : vs'.toArray.size ≤ 6 := by rw [List.size_toArray]; omega
    show wpAny (model prog w) _ _ _ _ _
    k_fold
    k_steps
    (rename Fr _ _ _ _ => F9)
    (rename News _ _ _ _ => N9)
    simp only [List.push_toArray] at N9
    refine' turn_intro [(lM, ?o1)] F9 N9 ?hs ?ho ?ha ?hJ
    case hs => walk_at "m_mems"
    case ho => walk_at "m_own"
    case ha => rfl
    case hJ =>
      refine ⟨_, _, rfl, ?_, ?_⟩
      · rw [hnext]
        exact ints_snoc hI'
      · intro z hz
        simp only [if_neg hz]
  case done =>
    rintro m₁ nw h tk9 ⟨vs', n', rfl, hI', hm⟩ F₁ N₁ _
    dsimp only at hm ⊢
    subst hm0
    rw [map_but hm] at F₁
    clear FC NC F5 N5 hst5 hns5 FD
    show wpAny (model prog w) _ _ _ _ _
    (try k_fold)
    k_steps
    dsimp only
    (try k_unfold)
    simp only [Shared.setGen, push_set]
    exact hret _ _ _ _ _ F₁.keep (N₁ _ (.head _)).1 (N₁ _ (.head _)).2.2 hI'

end

section

-- nofill
theorem plainAttrs_pat : PlainAttrs "re.Pattern" :=
  ⟨⟨"object.__getattribute__", by rw [typeLookup_type, builtinLookup_eq_fast]; kernel_rfl, by decide +kernel⟩, by rw [typeLookup_type, builtinLookup_eq_fast]; kernel_rfl⟩
theorem slot_search : Slot "re.Pattern" "search" "re.Pattern.search" :=
  .of (owner := "re.Pattern") (n := "search") (by rw [typeLookup_type, builtinLookup_eq_fast]; kernel_rfl) (by decide +kernel) (by decide +kernel) (by decide +kernel)
    (by first | exact .inl (by decide +kernel) | exact .inr (by decide +kernel)) (by rw [isSubtype_type]; kernel_rfl)
theorem type_search : typeOf (.builtin "re.Pattern.search") = pure (.type "method_descriptor") := by show builtinType _ = _; rw [builtinType_eq_fast]; kernel_rfl
theorem entry_search : entryFor table "re.Pattern.search" = some Builtin.«re.Pattern.search» := entryFor_of_tree (by kernel_rfl)
theorem args_search (a b : Value) : argsOk "re.Pattern.search" ⟨[a, b], []⟩ := by unfold argsOk; kernel_rfl

/-- the regex machine, driven -/
def drv : Nat → Sre.M → Option Sre.M
  | 0, _ => none
  | n + 1, m => if (m.runFor Builtin.Re.reTurnSteps).outcome.isSome then some (m.runFor Builtin.Re.reTurnSteps) else drv n (m.runFor Builtin.Re.reTurnSteps)
def isFailed : Option Sre.Outcome → Bool
  | some .failed => true
  | _ => false
def noHit (code : Array Nat) (text : Array Nat) : Bool := ((drv 40 (Sre.forSearch code text 0 0 text.size false)).map fun m => isFailed m.outcome) == some true

section
variable {M : Model} {A : Around} {E : Value → Shared → Prop} {s : Shared}
theorem wp_drive : ∀ {k n : Nat} {m m' : Sre.M} {Q : Sre.M → Shared → Prop}, drv k m = some m' → k ≤ n → Q m' s → wpAny M A (Builtin.Re.reDrive n m) Q E s
  | 0, _, _, _, _, h, _, _ => by cases h
  | k + 1, 0, _, _, _, _, h, _ => absurd h (by omega)
  | k + 1, n + 1, m, m', Q, h, hn, hq => by
    unfold drv at h
    show wpAny M A (if (m.runFor Builtin.Re.reTurnSteps).outcome.isSome = true then _ else _) Q E s
    by_cases c : (m.runFor Builtin.Re.reTurnSteps).outcome.isSome = true
    · rw [if_pos c] at h ⊢
      cases h
      exact wpAny_pure hq
    · rw [if_neg c] at h ⊢
      exact wpAny_bind (wpAny_rule (wp_drive h (by omega) hq))
theorem wp_for {f : Nat → PUnit → Sem (ForInStep PUnit)} (hf : ∀ i (Q : ForInStep PUnit → Shared → Prop), Q (.yield ⟨⟩) s → wpAny M A (f i ⟨⟩) Q E s) : ∀ (l : List Nat) {Q : PUnit → Shared → Prop}, Q ⟨⟩ s → wpAny M A (forIn l PUnit.unit f) Q E s
  | [], _, h => by simp only [List.forIn_nil]; exact wpAny_pure h
  | i :: l, Q, h => by
    rw [List.forIn_cons]
    exact wpAny_bind (hf i _ (wp_for hf l h))
theorem wp_toEnd {m : Sre.M} {Q : Option Sre.M → Shared → Prop} (h : ((drv 40 m).map fun m => isFailed m.outcome) = some true) (hq : Q none s) : wpAny M A (Builtin.Re.reRunToEnd m) Q E s := by
  obtain ⟨m', h1, h2⟩ := Option.map_eq_some_iff.mp h
  unfold Builtin.Re.reRunToEnd
  refine wpAny_bind (wp_drive h1 (by decide) ?_)
  refine wpAny_bind (wp_for (fun i Q hQ => ?_) _ ?_)
  · cases m'.seen.has i with
    | true =>
      show wpAny M A (rule _ >>= _) _ E s
      exact wpAny_bind (wpAny_rule (wpAny_pure hQ))
    | false => exact wpAny_pure hQ
  · cases ho : m'.outcome with
    | none => rw [ho] at h2; cases h2
    | some o =>
      rw [ho] at h2
      cases o with
      | failed => exact wpAny_pure hq
      | matched => cases h2
      | stuck y => cases h2
end
section
variable {prog : Program} {w : World} {A : Around} {E : Value → Shared → Prop} {s : Shared}
/-- search over a text that the pattern does not touch -/
theorem search_none {P c : Addr} {f0 f1 f2 f3 f4 f6 : Value} {o : Obj} {oc : Obj} {cs : Array Value} {nn : Nat} {v : Str} {t : Tok} {Q : Value → Shared → Prop}
    (hP : s.heap.get? P = some o) (hcl : o.cls = .type "re.Pattern") (hf : o.data = .fields #[f0, f1, f2, f3, f4, .ref c, f6]) (hc : s.heap.get? c = some oc) (hcs : oc.data = .seq cs nn)
    (h2 : f2 = .int 0 0) (h6 : f6 = .int 0 0) (hno : noHit ((cs.map Builtin.Re.reRawOf).map (·.toNat)) v.cps = true) (hlen : v.length ≤ 100) (hq : Q .none s) :
    wpAny (model prog w) A (call (.builtin "re.Pattern.search") [.ref P, .str v t]) Q E s := by
  subst h2 h6
  refine wpAny_call (codeAny_call_builtin slot_search.plain entry_search (slot_search.check _ _ _ _ _ _ _ _ ⟨o, hP, hcl⟩ (args_search _ _) ?_))
  unfold Builtin.«re.Pattern.search»
  unfold Builtin.Re.reTarget
  refine wpAny_bind ?_
  have hn : Builtin.Re.reNamed "re.Pattern.search" "search" ["string", "pos", "endpos"] 1 [.str v t] [] = pure [some (.str v t), none, none] := by kernel_rfl
  show wpAny (model prog w) A.in1 (Builtin.Re.reNamed "re.Pattern.search" "search" ["string", "pos", "endpos"] 1 [.str v t] [] >>= _) _ _ s
  rw [hn]
  refine wpAny_bind (wpAny_pure ?_)
  show wpAny (model prog w) A.in1 (pure (0 : Int) >>= _) _ _ s
  refine wpAny_bind (wpAny_pure ?_)
  show wpAny (model prog w) A.in1 (pure ((2 : Int) ^ 63 - 1) >>= _) _ _ s
  refine wpAny_bind (wpAny_pure ?_)
  show wpAny (model prog w) A.in1 (fieldsOf (.ref P) >>= _) _ _ s
  refine wpAny_bind (wpAny_fieldsOf hP hf ?_)
  show wpAny (model prog w) A.in1 (Builtin.Re.reTextOf (.str v t) >>= _) _ _ s
  have ht : Builtin.Re.reTextOf (.str v t) = pure (v.cps, 0) := rfl
  rw [ht]
  refine wpAny_bind (wpAny_pure ?_)
  show wpAny (model prog w) A.in1 (Builtin.Re.reNoCollectionInside (.str v t) 0 >>= _) _ _ s
  have hc0 : Builtin.Re.reNoCollectionInside (.str v t) 0 = pure () := rfl
  rw [hc0]
  refine wpAny_bind (wpAny_pure ?_)
  show wpAny (model prog w) A.in1 (Builtin.Re.reRawItems (.ref c) >>= _) _ _ s
  unfold Builtin.Re.reRawItems
  refine wpAny_bind (wpAny_bind (wpAny_seqItems hc hcs (wpAny_pure ?_)))
  refine wpAny_pure ?_
  unfold Builtin.Re.reAnswer
  refine wpAny_bind (wp_toEnd ?_ (wpAny_pure hq))
  have hsz : v.cps.size ≤ 100 := hlen
  have e1 : min ((2 : Int) ^ 63 - 1).toNat v.cps.size = v.cps.size := Nat.min_eq_right (Nat.le_trans hsz (by decide))
  have e0 : min (0 : Int).toNat v.cps.size = 0 := by simp
  dsimp only
  rw [e1, e0]
  unfold noHit at hno
  simpa [Builtin.Re.reRawNat] using hno
end
section
variable {prog : Program} {w : World} {A : Around} {E : Value → Shared → Prop} {s : Shared} {K : Frag} {h₀ : Heap} {L : Addr} {m : Str → Option Value}
theorem meth_search {P : Addr} {o : Obj} {pl : Sem Bool} {Q : Value × List Value → Shared → Prop} (F : Fr h₀ L s.heap m) (X : K.In h₀) (ho : K.lookup P = some o) (hcl : o.cls = .type "re.Pattern") (hd : o.dict = none)
    (h : Q (.builtin "re.Pattern.search", [.ref P]) s) : wpAny (model prog w) A (getMethod (.ref P) (Str.ofString "search") pl) Q E s :=
  getMethod_builtin ⟨o, (X.keeps F.keep) _ _ ho, hcl⟩ plainAttrs_pat slot_search type_search (fun a e => by cases e; exact ⟨o, (X.keeps F.keep) _ _ ho, hd⟩) h
theorem search_K {P c : Addr} {f0 f1 f2 f3 f4 f6 : Value} {o oc : Obj} {cs : Array Value} {nn : Nat} {code : Array Nat} {v : Str} {t : Tok} {Q : Value → Shared → Prop} (F : Fr h₀ L s.heap m) (X : K.In h₀) (hP : K.lookup P = some o)
    (hcl : o.cls = .type "re.Pattern") (hf : o.data = .fields #[f0, f1, f2, f3, f4, .ref c, f6]) (hc : K.lookup c = some oc) (hcs : oc.data = .seq cs nn)
    (h2 : f2 = .int 0 0) (h6 : f6 = .int 0 0) (hco : (cs.map Builtin.Re.reRawOf).map (·.toNat) = code) (hno : noHit code v.cps = true) (hlen : v.length ≤ 100) (hq : Q .none s) :
    wpAny (model prog w) A (call (.builtin "re.Pattern.search") [.ref P, .str v t]) Q E s :=
  search_none ((X.keeps F.keep) _ _ hP) hcl hf ((X.keeps F.keep) _ _ hc) hcs h2 h6 (hco ▸ hno) hlen hq
end
def codeN : Array Nat := #[14, 10, 4, 1, 1, 22, 0, 31, 16, 127, 0, 13, 7, 22, 0, 31, 16, 127, 0, 1]
def codeV : Array Nat := #[14, 14, 4, 1, 1, 9, 4294966783, 0, 0, 2147483648, 0, 0, 0, 0, 0, 13, 11, 9, 4294966783, 0, 0, 2147483648, 0, 0, 0, 0, 0, 1]
/-- a text that neither pattern touches -/
def Safe (v : Str) : Prop := noHit codeN v.cps = true ∧ noHit codeV v.cps = true ∧ v.length ≤ 100

end

section

local macro_rules | `(tactic| walk_at "enterC") => `(tactic| (refine' enterC ?k1 ?k2 ?k3 ?k4 ?kA ?kF ?kK ?k6 ?k7 ?k8 ?k9 ?kB ?kD ?_ ?c2 ?c3 ?c4; (case kA => exact rfl); (case kF => exact rfl); (case kK => assumption); (case k1 => k_asm); (case k2 => k_asm); (case k3 => k_asm); (case k4 => k_asm); (case k6 => k_is); (case k7 => k_is); (case k8 => ktr_room); (case k9 => exact BindsTo.of_eq rfl); (case kB => exact rfl); (case kD => decide +kernel); (case c2 => exact rfl); (case c3 => exact rfl); (case c4 => exact rfl); k_whole; intro L' h' tk' cells' F' N' Y' B' X' T' hL'; k_cells Y'; (try simp only [List.cons_append, List.nil_append] at N'); (try dsimp only); (try k_fold)))
local macro_rules | `(tactic| walk_at "enterP") => `(tactic| (refine' enterP ?k1 ?k2 ?k3 ?k4 ?kA ?kF ?kK ?k6 ?k7 ?k8 ?k9 ?kB ?_ ?c2 ?c3 ?c4 ?c5; (case kA => exact rfl); (case kF => exact rfl); (case kK => assumption); (case k1 => k_asm); (case k2 => k_asm); (case k3 => k_asm); (case k4 => k_asm); (case k6 => k_is); (case k7 => k_is); (case k8 => ktr_room); (case k9 => exact BindsTo.of_eq rfl); (case c5 => decide); (case kB => exact locs rfl); (case c2 => exact rfl); (case c3 => exact rfl); (case c4 => exact rfl); k_whole; intro L' h' F' N' B' X' T' hL'; (try dsimp only); (try k_fold)))
local macro_rules | `(tactic| walk_at "m_toComp") => `(tactic| repeat ((fail_if_success (with_reducible show wpAny _ _ (eval (PySem.Expr.ListComp _ _ _ _) _) _ _ _)); first | (k_unfold; (try dsimp only)) | walk1 | (dsimp only; walk1)))
local macro_rules | `(tactic| walk_at "m_toCompCall") => `(tactic| repeat' ((fail_if_success (with_reducible show wpAny _ _ (eval (PySem.Expr.ListComp (PySem.Expr.BinOp (PySem.Expr.Call _ _ _ _) _ _ _) _ _ _) _) _ _ _)); first | (k_unfold; (try dsimp only)) | walk1 | (dsimp only; walk1)))
local macro_rules | `(tactic| walk_at "m_units") => `(tactic| ((try simp only [units_in1, units_deeper, Around.mark_units, units_caller]); (try dsimp only [ktrTop]); omega))
local macro_rules | `(tactic| walk_at "compareOp Eq ref ref") => `(tactic| (k_here; (with_reducible show wpAny _ _ (compareOp CmpOp.Eq (Value.ref _) (Value.ref _)) _ _ _); (with_unfolding_all refine' eq_intsK ?k1 ?k2 ?k3 ?k4 ?k5 ?_; (case k1 => is_list); (case k2 => l_ints); (case k3 => is_list); (case k4 => l_ints); (case k5 => walk_at "m_units"); k_whole)))
local macro_rules | `(tactic| walk_at "compareOp NotEq ref ref") => `(tactic| (k_here; (with_reducible show wpAny _ _ (compareOp CmpOp.NotEq (Value.ref _) (Value.ref _)) _ _ _); (with_unfolding_all refine' ne_intsK ?k1 ?k2 ?k3 ?k4 ?k5 ?_; (case k1 => is_list); (case k2 => l_ints); (case k3 => is_list); (case k4 => l_ints); (case k5 => walk_at "m_units"); k_whole)))
local macro_rules | `(tactic| walk_at "m_toWhile") => `(tactic| repeat' ((fail_if_success (with_reducible show wpAny _ _ (exec (PySem.Stmt.While _ _ _ _) _) _ _ _)); first | (k_unfold; (try dsimp only)) | walk1 | (dsimp only; walk1)))
local macro_rules | `(tactic| walk_at "m_toFor") => `(tactic| repeat' ((fail_if_success (with_reducible show wpAny _ _ (exec (PySem.Stmt.For _ _ _ _ _) _) _ _ _)); first | (k_unfold; (try dsimp only)) | walk1 | (dsimp only; walk1)))
local macro_rules | `(tactic| walk_at "enterD") => `(tactic| (refine' code_defG ?k1 ?k2 ?k3 ?k4 ?k5 ?kA ?kF ?kK ?k6 ?k7 ?k8 ?k9 ?kB ?_ ?c2 ?c3 ?c4 ?c5; (case kA => exact rfl); (case kF => exact rfl); (case kK => first | exact rfl | assumption); (case k1 => k_asm); (case k2 => k_asm); (case k3 => k_asm); (case k4 => k_asm); (case k5 => k_asm); (case k6 => k_is); (case k7 => k_is); (case k8 => ktr_room); (case k9 => first | exact BindsTo.of_eq rfl | exact binds_K (by k_in) rfl (by k_is) rfl rfl rfl); (case c5 => decide); (case kB => exact locs rfl); (case c2 => exact rfl); (case c3 => exact rfl); (case c4 => exact rfl); k_whole; intro g' L' h' FG' F' N' B' X' T' kG'; (try dsimp only); (try k_fold)))

local macro_rules | `(tactic| walk_at "m_post") => `(tactic| (intro t9 h9 tk9 st9; (have F9 := fr_stay (by assumption) st9); (have N9 := news_stay (by assumption) st9); (try have kE9 := elt_stay (by assumption) st9); (try dsimp only); k_sweep; (try k_fold)))
local macro_rules | `(tactic| walk_at "call ref") => `(tactic| (k_here; (with_reducible show wpAny _ _ (call (Value.ref _) [Value.int _ _, Value.int _ _]) _ _ _); k_dflt (first
  | (refine' opSub ?k1 ?k2 ?k3 ?k4 ?k5 ?k6 ?_; (case k1 => k_asm); (case k2 => k_asm); (case k3 => k_asm); (case k4 => k_asm); (case k5 => first | exact rfl | assumption); (case k6 => ktr_room))
  | (refine' opAdd ?k1 ?k2 ?k3 ?k4 ?k5 ?k6 ?_; (case k1 => k_asm); (case k2 => k_asm); (case k3 => k_asm); (case k4 => k_asm); (case k5 => first | exact rfl | assumption); (case k6 => ktr_room))
  | (refine' opMod ?k1 ?k2 ?k3 ?k4 ?k5 ?k6 ?k7 ?_; (case k1 => k_asm); (case k2 => k_asm); (case k3 => k_asm); (case k4 => k_asm); (case k5 => first | exact rfl | assumption); (case k6 => ktr_room); (case k7 => omega))
  | (refine' opMul ?k1 ?k2 ?k3 ?k4 ?k5 ?k6 ?k7 ?k8 ?_; (case k1 => k_asm); (case k2 => k_asm); (case k3 => k_asm); (case k4 => k_asm); (case k5 => first | exact rfl | assumption); (case k6 => ktr_room); (case k7 => omega); (case k8 => omega))); walk_at "m_post"))

local macro_rules | `(tactic| walk_at "m_mems") => `(tactic| (repeat' (first | exact List.forall_mem_nil _ | (refine List.forall_mem_cons.mpr ⟨by k_mem, ?_⟩))))
local macro_rules | `(tactic| walk_at "m_own") => `(tactic| (intro p9 hp9; (repeat' (first | exact hp9 | refine List.Mem.tail _ ?_))))

local macro_rules | `(tactic| walk_at "getMethod ref") => `(tactic| (k_here; (with_reducible show wpAny _ _ (getMethod (Value.ref _) (Str.ofString "search") _) _ _ _); k_dflt (refine' meth_search ?k1 ?k2 ?k3 ?k4 ?k5 ?_; (case k1 => k_asm); (case k2 => k_asm); (case k3 => k_is); (case k4 => rfl); (case k5 => rfl))))
local macro_rules | `(tactic| walk_at "call builtin:re.Pattern.search") => `(tactic| (k_here; k_dflt (refine' search_K ?k1 ?k2 ?k3 ?k4 ?k5 ?k6 ?k7 ?k8 ?k9 ?ka ?kb ?kc ?_; (case k1 => k_asm); (case k2 => k_asm); (case k3 => k_is); (case k4 => rfl); (case k5 => rfl); (case k6 => k_is); (case k7 => rfl); (case k8 => rfl); (case k9 => rfl); (case kb => assumption); (case ka => decide +kernel); (case kc => assumption))))

local macro_rules | `(tactic| k_room) => `(tactic| ktr_room)
theorem conv {prog : Program} {w : World} {p : Program} {loose : List Str} {mean : ExcName → Option Value} {mg mb : Str → Option Value}
  {dp un : Nat} {gd : Option (List Code)} {cn : Str} {cs : Scope} {a : Addr} {ccd : Value} {cl : List (Str × Addr)} {outer : List Env} {A₀ : Around} {base h₀ : Heap} {L : Addr} {m : Str → Option Value} {s : Shared} {x : Value} {v : Str} {t : Tok} {b : Bool}
  {R : Result → Shared → Prop}
  (B : Below A₀ base outer h₀) (F : Fr h₀ L s.heap m) (X : (Kf w.params).In h₀) (T : Top p loose mean mg mb h₀) (hk : cs.kind = .function)
  (hdp : dp + 10 < recursionLimit) (hv : Safe v)
  (hret : ∀ h' tk', s.heap.StaysIn h' → R (.ok (.ret (.str v t))) { s with heap := h', toks := tk' }) :
  codeAny (model prog w) (ktrTop dp un gd cn cs L a ccd cl outer) (.call (.ref 70) ⟨[x, .str v t], [(Str.ofString "name", .bool b)]⟩) R s := by
  obtain ⟨hv1, hv2, hv3⟩ := hv
  cases b
  · clear hv1
    unfold codeV at hv2
    k_dflt walk_at "enterP"
    k_steps
    (rename Fr _ _ _ _ => F9)
    exact hret _ _ F9.keep
  · clear hv2
    unfold codeN at hv1
    k_dflt walk_at "enterP"
    k_steps
    (rename Fr _ _ _ _ => F9)
    exact hret _ _ F9.keep

end

section

local macro_rules | `(tactic| walk_at "enterC") => `(tactic| (refine' enterC ?k1 ?k2 ?k3 ?k4 ?kA ?kF ?kK ?k6 ?k7 ?k8 ?k9 ?kB ?kD ?_ ?c2 ?c3 ?c4; (case kA => exact rfl); (case kF => exact rfl); (case kK => assumption); (case k1 => k_asm); (case k2 => k_asm); (case k3 => k_asm); (case k4 => k_asm); (case k6 => k_is); (case k7 => k_is); (case k8 => ktr_room); (case k9 => exact BindsTo.of_eq rfl); (case kB => exact rfl); (case kD => decide +kernel); (case c2 => exact rfl); (case c3 => exact rfl); (case c4 => exact rfl); k_whole; intro L' h' tk' cells' F' N' Y' B' X' T' hL'; k_cells Y'; (try simp only [List.cons_append, List.nil_append] at N'); (try dsimp only); (try k_fold)))
local macro_rules | `(tactic| walk_at "enterP") => `(tactic| (refine' enterP ?k1 ?k2 ?k3 ?k4 ?kA ?kF ?kK ?k6 ?k7 ?k8 ?k9 ?kB ?_ ?c2 ?c3 ?c4 ?c5; (case kA => exact rfl); (case kF => exact rfl); (case kK => assumption); (case k1 => k_asm); (case k2 => k_asm); (case k3 => k_asm); (case k4 => k_asm); (case k6 => k_is); (case k7 => k_is); (case k8 => ktr_room); (case k9 => exact BindsTo.of_eq rfl); (case c5 => decide); (case kB => exact locs rfl); (case c2 => exact rfl); (case c3 => exact rfl); (case c4 => exact rfl); k_whole; intro L' h' F' N' B' X' T' hL'; (try dsimp only); (try k_fold)))
local macro_rules | `(tactic| walk_at "m_toComp") => `(tactic| repeat ((fail_if_success (with_reducible show wpAny _ _ (eval (PySem.Expr.ListComp _ _ _ _) _) _ _ _)); first | (k_unfold; (try dsimp only)) | walk1 | (dsimp only; walk1)))
local macro_rules | `(tactic| walk_at "m_toCompCall") => `(tactic| repeat' ((fail_if_success (with_reducible show wpAny _ _ (eval (PySem.Expr.ListComp (PySem.Expr.BinOp (PySem.Expr.Call _ _ _ _) _ _ _) _ _ _) _) _ _ _)); first | (k_unfold; (try dsimp only)) | walk1 | (dsimp only; walk1)))
local macro_rules | `(tactic| walk_at "m_units") => `(tactic| ((try simp only [units_in1, units_deeper, Around.mark_units, units_caller]); (try dsimp only [ktrTop]); omega))
local macro_rules | `(tactic| walk_at "compareOp Eq ref ref") => `(tactic| (k_here; (with_reducible show wpAny _ _ (compareOp CmpOp.Eq (Value.ref _) (Value.ref _)) _ _ _); (with_unfolding_all refine' eq_intsK ?k1 ?k2 ?k3 ?k4 ?k5 ?_; (case k1 => is_list); (case k2 => l_ints); (case k3 => is_list); (case k4 => l_ints); (case k5 => walk_at "m_units"); k_whole)))
local macro_rules | `(tactic| walk_at "compareOp NotEq ref ref") => `(tactic| (k_here; (with_reducible show wpAny _ _ (compareOp CmpOp.NotEq (Value.ref _) (Value.ref _)) _ _ _); (with_unfolding_all refine' ne_intsK ?k1 ?k2 ?k3 ?k4 ?k5 ?_; (case k1 => is_list); (case k2 => l_ints); (case k3 => is_list); (case k4 => l_ints); (case k5 => walk_at "m_units"); k_whole)))
local macro_rules | `(tactic| walk_at "m_toWhile") => `(tactic| repeat' ((fail_if_success (with_reducible show wpAny _ _ (exec (PySem.Stmt.While _ _ _ _) _) _ _ _)); first | (k_unfold; (try dsimp only)) | walk1 | (dsimp only; walk1)))
local macro_rules | `(tactic| walk_at "m_toFor") => `(tactic| repeat' ((fail_if_success (with_reducible show wpAny _ _ (exec (PySem.Stmt.For _ _ _ _ _) _) _ _ _)); first | (k_unfold; (try dsimp only)) | walk1 | (dsimp only; walk1)))
local macro_rules | `(tactic| walk_at "enterD") => `(tactic| (refine' code_defG ?k1 ?k2 ?k3 ?k4 ?k5 ?kA ?kF ?kK ?k6 ?k7 ?k8 ?k9 ?kB ?_ ?c2 ?c3 ?c4 ?c5; (case kA => exact rfl); (case kF => exact rfl); (case kK => first | exact rfl | assumption); (case k1 => k_asm); (case k2 => k_asm); (case k3 => k_asm); (case k4 => k_asm); (case k5 => k_asm); (case k6 => k_is); (case k7 => k_is); (case k8 => ktr_room); (case k9 => first | exact BindsTo.of_eq rfl | exact binds_K (by k_in) rfl (by k_is) rfl rfl rfl); (case c5 => decide); (case kB => exact locs rfl); (case c2 => exact rfl); (case c3 => exact rfl); (case c4 => exact rfl); k_whole; intro g' L' h' FG' F' N' B' X' T' kG'; (try dsimp only); (try k_fold)))

local macro_rules | `(tactic| walk_at "m_post") => `(tactic| (intro t9 h9 tk9 st9; (have F9 := fr_stay (by assumption) st9); (have N9 := news_stay (by assumption) st9); (try have kE9 := elt_stay (by assumption) st9); (try dsimp only); k_sweep; (try k_fold)))
local macro_rules | `(tactic| walk_at "call ref") => `(tactic| (k_here; (with_reducible show wpAny _ _ (call (Value.ref _) [Value.int _ _, Value.int _ _]) _ _ _); k_dflt (first
  | (refine' opSub ?k1 ?k2 ?k3 ?k4 ?k5 ?k6 ?_; (case k1 => k_asm); (case k2 => k_asm); (case k3 => k_asm); (case k4 => k_asm); (case k5 => first | exact rfl | assumption); (case k6 => ktr_room))
  | (refine' opAdd ?k1 ?k2 ?k3 ?k4 ?k5 ?k6 ?_; (case k1 => k_asm); (case k2 => k_asm); (case k3 => k_asm); (case k4 => k_asm); (case k5 => first | exact rfl | assumption); (case k6 => ktr_room))
  | (refine' opMod ?k1 ?k2 ?k3 ?k4 ?k5 ?k6 ?k7 ?_; (case k1 => k_asm); (case k2 => k_asm); (case k3 => k_asm); (case k4 => k_asm); (case k5 => first | exact rfl | assumption); (case k6 => ktr_room); (case k7 => omega))
  | (refine' opMul ?k1 ?k2 ?k3 ?k4 ?k5 ?k6 ?k7 ?k8 ?_; (case k1 => k_asm); (case k2 => k_asm); (case k3 => k_asm); (case k4 => k_asm); (case k5 => first | exact rfl | assumption); (case k6 => ktr_room); (case k7 => omega); (case k8 => omega))); walk_at "m_post"))

local macro_rules | `(tactic| walk_at "m_mems") => `(tactic| (repeat' (first | exact List.forall_mem_nil _ | (refine List.forall_mem_cons.mpr ⟨by k_mem, ?_⟩))))
local macro_rules | `(tactic| walk_at "m_own") => `(tactic| (intro p9 hp9; (repeat' (first | exact hp9 | refine List.Mem.tail _ ?_))))

local macro_rules | `(tactic| k_room) => `(tactic| ktr_room)
section
variable {prog : Program} {w : World} {A : Around} {E : Value → Shared → Prop} {s : Shared} {env : Env} {target : Expr} {body : List Stmt} {Q : Flow → Shared → Prop}
/-- a for over an empty list -/
theorem forNil {l : Addr} (hh : A.handled = none) (hl : s.heap.IsList l #[]) (hq : ∀ h', s.heap.StaysIn h' → Q .next { s with heap := h' }) :
    wpAny (model prog w) A (pyIter (.ref l)) (fun it s₂ => codeAny (model prog w) A (.forLoop target it body [] env) (fun r s' => match r with | .ok f => Q f s' | .error e => cameBackBy (model prog w) A env E e s') s₂) E s := by
  have hlt : l < s.heap.objs.size := by obtain ⟨_, e, _⟩ := hl; exact Heap.lt_size e
  refine wpAny_pyIter_list hl ?_
  refine codeAny_forLoop_any (fun _ s' => s' = { s with heap := s.heap.push { cls := .type "list_iterator", data := .fields #[.ref l, .int 0 0] } }) ?_ 0 rfl
  rintro n s' rfl
  refine wpAny_pyNext_list_end (i := 0) hh ⟨_, Heap.get?_push_size _ rfl, rfl, rfl⟩ (hl.push _) rfl fun h' hx => ?_
  refine wpAny_execs_nil ?_
  exact hq h' fun b o e => hx b o (Nat.ne_of_lt (Heap.lt_size e)) (Heap.get?_push_of_some _ e)
end

/-- the attributes of a table -/
abbrev hdDict (w : World) (lh : Addr) (tkk : Tok) : Obj := dictOf [{ hash := PyData.keyHash w.params (Str.ofString "_headers"), key := Value.str (Str.ofString "_headers") tkk, val := Value.ref lh }] 1

theorem headers {prog : Program} {w : World} {p : Program} {loose : List Str} {mean : ExcName → Option Value} {mg mb : Str → Option Value}
  (dp un : Nat) (gd : Option (List Code)) (cn : Str) (cs : Scope) (a : Addr) (ccd : Value) (cl : List (Str × Addr)) (outer : List Env) (A₀ : Around) (base h₀ : Heap) (L : Addr) (m : Str → Option Value) (s : Shared)
  (Q E : Value → Shared → Prop)
  (B : Below A₀ base outer h₀) (F : Fr h₀ L s.heap m) (X : (Kf w.params).In h₀) (T : Top p loose mean mg mb h₀) (hk : cs.kind = .function)
  (hdp : dp + 10 < recursionLimit) (hu : un + 100 < cLine)
  (news : List (Addr × Obj)) (N0 : News h₀ L s.heap news)
  (hret : ∀ (x dx lh : Addr) (tkk : Tok) (h' : Heap) (tk' : Nat), Fr h₀ L h' m → News h₀ L h' ((lh, W.listOf #[] 0) :: (x, instObj 171 dx) :: (dx, hdDict w lh tkk) :: news) → (∀ p ∈ news, p.1 < dx) → dx < x → x < lh → Q (.ref x) { s with heap := h', toks := tk' }) :
  wpAny (model prog w) (ktrTop dp un gd cn cs L a ccd cl outer) (call (.ref 171) []) Q E s := by
  k_dflt refine' call_cls ?k1 ?k2 ?k3 ?k4 ?k5 ?k6 ?_
  case k1 => k_asm
  case k2 => k_asm
  case k3 => k_asm
  case k4 => k_is
  case k5 => k_is
  case k6 => k_is
  k_whole
  intro x dx h1 F1 N1 l1 l2
  have l1' := l1
  have l2' := l2
  (try k_lt l1)
  (try k_lt2 l2)
  k_dflt walk_at "enterD"
  walk_at "m_toFor"
  refine wpAny_For ?_ (by intro _; rfl)
  show wpAny (model prog w) _ _ _ _ _
  k_fold
  walk1
  k_unfold
  (rename Fr _ _ _ _ => F5)
  (rename News _ _ _ _ => N5)
  refine forNil rfl ⟨_, (N5 _ (.head _)).1, rfl, _, rfl⟩ fun h6 st6 => ?_
  have F6 := fr_stay F5 st6
  have N6 := news_stay N5 st6
  clear F5 N5 F1 N1 N0
  dsimp only
  (try k_fold)
  k_steps
  (rename News h₀ _ _ _ => N9)
  (rename Fr h₀ _ _ _ => F9)
  (rename _ ∧ _ ∧ AllLt _ _ => l9)
  exact hret _ _ _ _ _ _ F9 N9 l1' l2' l9.1

end

section

-- nofill
abbrev tupObj (vs : List Value) (n : Nat) : Obj := { cls := .type "tuple", data := .seq vs.toArray n }
/-- the pairs of a table, laid -/
def Tups (own : List (Addr × Obj)) (ts : List Addr) (hs : List (Str × Str)) : Prop := ts.length = hs.length ∧ ∀ (i : Nat) (t : Addr) (kv : Str × Str), ts[i]? = some t → hs[i]? = some kv → ∃ n t1 t2, (t, tupObj [.str kv.1 t1, .str kv.2 t2] n) ∈ own

section
variable {prog : Program} {w : World} {A : Around} {E : Value → Shared → Prop} {s : Shared} {env : Env} {h₀ : Heap} {target : Expr} {body : List Stmt} {Q : Flow → Shared → Prop}
theorem go_list {I l : Addr} {i : Nat} {ts : List Expr} {cx : Nat} {ps : Pos} {v : Value} {Q : Unit → Shared → Prop} (h : s.heap.IsListIter I l i) (hq : Q () s) : wpAny (model prog w) A (letOwnedTupleGo (.Tuple ts cx ps) (.ref I) v) Q E s := by
  obtain ⟨o, ho, hc, hd⟩ := h
  cases v with
  | ref a =>
    show wpAny (model prog w) A (load I >>= _) Q E s
    refine wpAny_bind (wpAny_load ho ?_)
    rw [hc, hd]
    exact wpAny_pure hq
  | _ => exact wpAny_pure hq

/-- a turn's end that may also give back -/
def TurnFind (h₀ : Heap) (L : Addr) (J : (Str → Option Value) → Prop) (all : List (Addr × Obj)) (Q : Flow → Shared → Prop) (s₁ : Shared) (f : Flow) (s₂ : Shared) : Prop :=
  (f = .next ∧ ∃ h' tk m', s₂ = { s₁ with heap := h', toks := tk } ∧ Fr h₀ L h' m' ∧ News h₀ L h' all ∧ J m') ∨ (∃ v, f = .ret v ∧ Q (.ret v) s₂)

/-- a for over a list of pairs, with a return in it -/
theorem forTups {l : Addr} {items : List Value} {n : Nat} {es : List Expr} {cx : Nat} {ps : Pos} {m₀ : Str → Option Value} {news : List (Addr × Obj)} (J : Nat → (Str → Option Value) → Prop)
    (hh : A.handled = none) (F : Fr h₀ env.locals s.heap m₀) (N : News h₀ env.locals s.heap news) (hl : (l, W.listOf items.toArray n) ∈ news) (hj : J 0 m₀) (hE : PassesOwn (model prog w) A env E)
    (turn : ∀ i v m₁ h₁ tk₁ own, items[i]? = some v → J i m₁ → Fr h₀ env.locals h₁ m₁ → News h₀ env.locals h₁ (news ++ own) →
      wpAny (model prog w) A (assign (.Tuple es cx ps) env v) (fun _ s₃ => wpAny (model prog w) A (execs body env) (TurnFind h₀ env.locals (J (i + 1)) (news ++ own) Q { s with heap := h₁, toks := tk₁ }) E s₃) E { s with heap := h₁, toks := tk₁ })
    (done : ∀ m₁ h tk, J items.length m₁ → Fr h₀ env.locals h m₁ → News h₀ env.locals h news → Q .next { s with heap := h, toks := tk }) :
    wpAny (model prog w) A (pyIter (.ref l)) (fun it s₂ => codeAny (model prog w) A (.forLoop (.Tuple es cx ps) it body [] env) (fun r s' => match r with | .ok f => Q f s' | .error e => cameBackBy (model prog w) A env E e s') s₂) E s := by
  have hll : s.heap.IsList l items.toArray := ⟨_, (N _ hl).1, rfl, _, rfl⟩
  refine wpAny_pyIter_list hll ?_
  have hIl : s.heap.objs.size ≠ l := Nat.ne_of_gt (Heap.lt_size (N _ hl).1)
  have hIL : env.locals ≠ s.heap.objs.size := Nat.ne_of_lt F.ns.lt
  obtain ⟨I, hI⟩ : ∃ I, I = s.heap.objs.size := ⟨_, rfl⟩
  have hI0 : h₀.get? I = none := by rw [hI]; exact next_is_new F
  have hnI : ∀ p ∈ news, p.1 ≠ I := fun p hp => by rw [hI]; exact Nat.ne_of_lt (Heap.lt_size (N p hp).1)
  have hst0 : (s.heap.push { cls := .type "list_iterator", data := .fields #[.ref l, .int 0 0] }).IsListIter I l 0 := by rw [hI]; exact ⟨_, Heap.get?_push_size _ rfl, rfl, rfl⟩
  rw [← hI] at hIl hIL ⊢
  have W : Walks prog w A I [I, l] [I] _ _ _ := Walks.list hh I l (Ne.symm hIl) items.toArray
  refine codeAny_forLoop_any (fun k s' => ∃ i h' tk m', s' = { s with heap := h', toks := tk } ∧ i ≤ items.length ∧ k = items.length + 1 - i ∧ h'.IsListIter I l i ∧ Fr h₀ env.locals h' m' ∧ News h₀ env.locals h' news ∧ J i m') ?_ (items.length + 1)
    ⟨0, _, _, m₀, rfl, Nat.zero_le _, rfl, hst0, F.push _, fun p hp => ⟨Heap.get?_push_of_some _ (N p hp).1, (N p hp).2⟩, hj⟩
  rintro k s' ⟨i, h', tk, m', rfl, hi, rfl, hit, F', N', hJ⟩
  have next : ∀ h₁ : Heap, (∀ b o, b ∉ [I] → h'.get? b = some o → h₁.get? b = some o) → Fr h₀ env.locals h₁ m' ∧ News h₀ env.locals h₁ news := fun h₁ hk₁ =>
    ⟨⟨F'.ns.at' fun o e => hk₁ _ o (by simpa using hIL) e, fun b o e => hk₁ b o (fun q => by rw [List.mem_singleton] at q; rw [q, hI0] at e; cases e) (F'.keep b o e), F'.above⟩,
      fun p hp => ⟨hk₁ _ _ (by simpa using hnI p hp) (N' p hp).1, (N' p hp).2⟩⟩
  by_cases hlt : i < items.length
  · refine W.item i _ _ _ (by simpa using hlt) ⟨hit, ⟨_, (N' _ hl).1, rfl, _, rfl⟩⟩ fun v h₁ tk₁ hP hst₁ hk₁ => ?_
    obtain ⟨F₁, N₁⟩ := next h₁ hk₁
    obtain ⟨o, eo, ro⟩ := id hst₁.1
    have N₂ : News h₀ env.locals h₁ (news ++ [(I, o)]) := fun p hp => (List.mem_append.mp hp).elim (fun q => N₁ p q) fun q => by rw [List.mem_singleton.mp q]; exact ⟨eo, Ne.symm hIL, hI0⟩
    refine go_list hst₁.1 ?_
    refine wpAny_mono (turn i v m' h₁ tk₁ [(I, o)] (by simpa using hP) hJ F₁ N₂) (fun _ s₂ h₂ => wpAny_mono h₂ (fun f s₃ h₃ => ?_) hE) hE
    rcases h₃ with ⟨rfl, h₃', tk₃, m₃, rfl, F₃, N₃, hJ₃⟩ | ⟨v', rfl, hq⟩
    · refine ⟨items.length + 1 - (i + 1), by omega, i + 1, h₃', tk₃, m₃, rfl, hlt, rfl, ⟨o, (N₃ _ (List.mem_append_right _ (List.mem_singleton.mpr rfl))).1, ro⟩, F₃, fun p hp => N₃ p (List.mem_append_left _ hp), hJ₃⟩
    · exact hq
  · have hin : i = items.length := by omega
    subst hin
    refine W.done _ _ _ (by simpa using (⟨hit, ⟨_, (N' _ hl).1, rfl, _, rfl⟩⟩ : h'.IsListIter I l items.length ∧ h'.IsList l items.toArray)) fun h₁ tk₁ hk₁ => wpAny_execs_nil ?_
    obtain ⟨F₁, N₁⟩ := next h₁ hk₁
    exact done m' h₁ tk₁ hJ F₁ N₁
end
theorem ofAllLt {d : Nat} : ∀ {l : List (Addr × Obj)}, AllLt d l → ∀ p ∈ l, p.1 < d
  | [], _, _, h => nomatch h
  | q :: r, hh, p, h => by
    rcases List.mem_cons.mp h with rfl | h
    · exact hh.1
    · exact ofAllLt hh.2 p h


end

section

local macro_rules | `(tactic| walk_at "enterC") => `(tactic| (refine' enterC ?k1 ?k2 ?k3 ?k4 ?kA ?kF ?kK ?k6 ?k7 ?k8 ?k9 ?kB ?kD ?_ ?c2 ?c3 ?c4; (case kA => exact rfl); (case kF => exact rfl); (case kK => assumption); (case k1 => k_asm); (case k2 => k_asm); (case k3 => k_asm); (case k4 => k_asm); (case k6 => k_is); (case k7 => k_is); (case k8 => ktr_room); (case k9 => exact BindsTo.of_eq rfl); (case kB => exact rfl); (case kD => decide +kernel); (case c2 => exact rfl); (case c3 => exact rfl); (case c4 => exact rfl); k_whole; intro L' h' tk' cells' F' N' Y' B' X' T' hL'; k_cells Y'; (try simp only [List.cons_append, List.nil_append] at N'); (try dsimp only); (try k_fold)))
local macro_rules | `(tactic| walk_at "enterP") => `(tactic| (refine' enterP ?k1 ?k2 ?k3 ?k4 ?kA ?kF ?kK ?k6 ?k7 ?k8 ?k9 ?kB ?_ ?c2 ?c3 ?c4 ?c5; (case kA => exact rfl); (case kF => exact rfl); (case kK => assumption); (case k1 => k_asm); (case k2 => k_asm); (case k3 => k_asm); (case k4 => k_asm); (case k6 => k_is); (case k7 => k_is); (case k8 => ktr_room); (case k9 => exact BindsTo.of_eq rfl); (case c5 => decide); (case kB => exact locs rfl); (case c2 => exact rfl); (case c3 => exact rfl); (case c4 => exact rfl); k_whole; intro L' h' F' N' B' X' T' hL'; (try dsimp only); (try k_fold)))
local macro_rules | `(tactic| walk_at "m_toComp") => `(tactic| repeat ((fail_if_success (with_reducible show wpAny _ _ (eval (PySem.Expr.ListComp _ _ _ _) _) _ _ _)); first | (k_unfold; (try dsimp only)) | walk1 | (dsimp only; walk1)))
local macro_rules | `(tactic| walk_at "m_toCompCall") => `(tactic| repeat' ((fail_if_success (with_reducible show wpAny _ _ (eval (PySem.Expr.ListComp (PySem.Expr.BinOp (PySem.Expr.Call _ _ _ _) _ _ _) _ _ _) _) _ _ _)); first | (k_unfold; (try dsimp only)) | walk1 | (dsimp only; walk1)))
local macro_rules | `(tactic| walk_at "m_units") => `(tactic| ((try simp only [units_in1, units_deeper, Around.mark_units, units_caller]); (try dsimp only [ktrTop]); omega))
local macro_rules | `(tactic| walk_at "compareOp Eq ref ref") => `(tactic| (k_here; (with_reducible show wpAny _ _ (compareOp CmpOp.Eq (Value.ref _) (Value.ref _)) _ _ _); (with_unfolding_all refine' eq_intsK ?k1 ?k2 ?k3 ?k4 ?k5 ?_; (case k1 => is_list); (case k2 => l_ints); (case k3 => is_list); (case k4 => l_ints); (case k5 => walk_at "m_units"); k_whole)))
local macro_rules | `(tactic| walk_at "compareOp NotEq ref ref") => `(tactic| (k_here; (with_reducible show wpAny _ _ (compareOp CmpOp.NotEq (Value.ref _) (Value.ref _)) _ _ _); (with_unfolding_all refine' ne_intsK ?k1 ?k2 ?k3 ?k4 ?k5 ?_; (case k1 => is_list); (case k2 => l_ints); (case k3 => is_list); (case k4 => l_ints); (case k5 => walk_at "m_units"); k_whole)))
local macro_rules | `(tactic| walk_at "m_toWhile") => `(tactic| repeat' ((fail_if_success (with_reducible show wpAny _ _ (exec (PySem.Stmt.While _ _ _ _) _) _ _ _)); first | (k_unfold; (try dsimp only)) | walk1 | (dsimp only; walk1)))
local macro_rules | `(tactic| walk_at "m_toFor") => `(tactic| repeat' ((fail_if_success (with_reducible show wpAny _ _ (exec (PySem.Stmt.For _ _ _ _ _) _) _ _ _)); first | (k_unfold; (try dsimp only)) | walk1 | (dsimp only; walk1)))
local macro_rules | `(tactic| walk_at "enterD") => `(tactic| (refine' code_defG ?k1 ?k2 ?k3 ?k4 ?k5 ?kA ?kF ?kK ?k6 ?k7 ?k8 ?k9 ?kB ?_ ?c2 ?c3 ?c4 ?c5; (case kA => exact rfl); (case kF => exact rfl); (case kK => first | exact rfl | assumption); (case k1 => k_asm); (case k2 => k_asm); (case k3 => k_asm); (case k4 => k_asm); (case k5 => k_asm); (case k6 => k_is); (case k7 => k_is); (case k8 => ktr_room); (case k9 => first | exact BindsTo.of_eq rfl | exact binds_K (by k_in) rfl (by k_is) rfl rfl rfl); (case c5 => decide); (case kB => exact locs rfl); (case c2 => exact rfl); (case c3 => exact rfl); (case c4 => exact rfl); k_whole; intro g' L' h' FG' F' N' B' X' T' kG'; (try dsimp only); (try k_fold)))

local macro_rules | `(tactic| walk_at "m_post") => `(tactic| (intro t9 h9 tk9 st9; (have F9 := fr_stay (by assumption) st9); (have N9 := news_stay (by assumption) st9); (try have kE9 := elt_stay (by assumption) st9); (try dsimp only); k_sweep; (try k_fold)))
local macro_rules | `(tactic| walk_at "call ref") => `(tactic| (k_here; (with_reducible show wpAny _ _ (call (Value.ref _) [Value.int _ _, Value.int _ _]) _ _ _); k_dflt (first
  | (refine' opSub ?k1 ?k2 ?k3 ?k4 ?k5 ?k6 ?_; (case k1 => k_asm); (case k2 => k_asm); (case k3 => k_asm); (case k4 => k_asm); (case k5 => first | exact rfl | assumption); (case k6 => ktr_room))
  | (refine' opAdd ?k1 ?k2 ?k3 ?k4 ?k5 ?k6 ?_; (case k1 => k_asm); (case k2 => k_asm); (case k3 => k_asm); (case k4 => k_asm); (case k5 => first | exact rfl | assumption); (case k6 => ktr_room))
  | (refine' opMod ?k1 ?k2 ?k3 ?k4 ?k5 ?k6 ?k7 ?_; (case k1 => k_asm); (case k2 => k_asm); (case k3 => k_asm); (case k4 => k_asm); (case k5 => first | exact rfl | assumption); (case k6 => ktr_room); (case k7 => omega))
  | (refine' opMul ?k1 ?k2 ?k3 ?k4 ?k5 ?k6 ?k7 ?k8 ?_; (case k1 => k_asm); (case k2 => k_asm); (case k3 => k_asm); (case k4 => k_asm); (case k5 => first | exact rfl | assumption); (case k6 => ktr_room); (case k7 => omega); (case k8 => omega))); walk_at "m_post"))

local macro_rules | `(tactic| walk_at "m_mems") => `(tactic| (repeat' (first | exact List.forall_mem_nil _ | (refine List.forall_mem_cons.mpr ⟨by k_mem, ?_⟩))))
local macro_rules | `(tactic| walk_at "m_own") => `(tactic| (intro p9 hp9; (repeat' (first | exact hp9 | refine List.Mem.tail _ ?_))))

local macro_rules | `(tactic| walk_at "getMethod ref") => `(tactic| (k_here; (with_reducible show wpAny _ _ (getMethod (Value.ref _) (Str.ofString "search") _) _ _ _); k_dflt (refine' meth_search ?k1 ?k2 ?k3 ?k4 ?k5 ?_; (case k1 => k_asm); (case k2 => k_asm); (case k3 => k_is); (case k4 => rfl); (case k5 => rfl))))
local macro_rules | `(tactic| walk_at "call builtin:re.Pattern.search") => `(tactic| (k_here; k_dflt (refine' search_K ?k1 ?k2 ?k3 ?k4 ?k5 ?k6 ?k7 ?k8 ?k9 ?ka ?kb ?kc ?_; (case k1 => k_asm); (case k2 => k_asm); (case k3 => k_is); (case k4 => rfl); (case k5 => rfl); (case k6 => k_is); (case k7 => rfl); (case k8 => rfl); (case k9 => rfl); (case kb => assumption); (case ka => decide +kernel); (case kc => assumption))))

local macro_rules | `(tactic| walk_at "m_post0") => `(tactic| (intro h9 tk9 st9; (have F9 := fr_stay (by assumption) st9); (have N9 := news_stay (by assumption) st9); (try dsimp only); k_sweep; (try k_fold)))
local macro_rules | `(tactic| walk_at "call builtin:str.lower") => `(tactic| (k_here; (with_reducible show wpAny _ _ (call (Value.builtin "str.lower") [Value.str _ _]) _ _ _); (refine SC.lower (fit_lower (by omega)) ?_)))
local macro_rules | `(tactic| walk_at "call ref") => `(tactic| (k_here; k_dflt (refine wpAny_call ?_; (refine' conv ?k1 ?k2 ?k3 ?k4 ?k5 ?k6 ?k7 ?_; (case k1 => k_asm); (case k2 => k_asm); (case k3 => k_asm); (case k4 => k_asm); (case k5 => first | exact rfl | assumption); (case k6 => ktr_room); (case k7 => assumption)); walk_at "m_post0")))

local macro_rules | `(tactic| k_room) => `(tactic| ktr_room)
def getF (hs : List (Str × Str)) (nm : Str) : Option Str := (hs.find? fun kv => PySem.Txt.lower kv.1 == nm).map (·.2)

theorem find_here {α : Type} {p : α → Bool} {l : List α} {i : Nat} {x : α} (h : l[i]? = some x) (hn : (l.take i).find? p = none) (hp : p x = true) : l.find? p = some x := by
  have hi : i < l.length := by
    rcases Nat.lt_or_ge i l.length with q | q
    · exact q
    · rw [List.getElem?_eq_none q] at h; cases h
  have e : l = l.take i ++ x :: l.drop (i + 1) := by
    rw [List.getElem?_eq_getElem hi] at h
    cases h
    rw [← List.drop_eq_getElem_cons hi, List.take_append_drop]
  rw [e, List.find?_append, hn, List.find?_cons_of_pos hp]
  rfl
theorem find_none {α : Type} {p : α → Bool} {l : List α} {i : Nat} {x : α} (h : l[i]? = some x) (hn : (l.take i).find? p = none) (hp : p x = false) : (l.take (i + 1)).find? p = none := by
  rw [List.take_add_one, h, List.find?_append, hn]
  simp [hp]

theorem hget {prog : Program} {w : World} {p : Program} {loose : List Str} {mean : ExcName → Option Value} {mg mb : Str → Option Value}
  {dp un : Nat} {gd : Option (List Code)} {cn : Str} {cs : Scope} {a : Addr} {ccd : Value} {cl : List (Str × Addr)} {outer : List Env} {A₀ : Around} {base h₀ : Heap} {L : Addr} {m : Str → Option Value} {s : Shared}
  {x dx lh : Addr} {tkk : Tok} {ts : List Addr} {nl : Nat} {hs : List (Str × Str)} {news : List (Addr × Obj)} {key : Str} {t : Tok}
  {R : Result → Shared → Prop}
  (B : Below A₀ base outer h₀) (F : Fr h₀ L s.heap m) (X : (Kf w.params).In h₀) (T : Top p loose mean mg mb h₀) (hk : cs.kind = .function)
  (N : News h₀ L s.heap ((lh, W.listOf (ts.map Value.ref).toArray nl) :: (x, instObj 171 dx) :: (dx, hdDict w lh tkk) :: news)) (U : Tups news ts hs) 
  (hdp : dp + 20 < recursionLimit) (hkl : key.length ≤ 100) (hv : Safe (PySem.Txt.lower key)) (hkv : ∀ kv ∈ hs, kv.1.length ≤ 100)
  (hretS : ∀ v t' h' tk', getF hs (PySem.Txt.lower key) = some v → Fr h₀ L h' m → News h₀ L h' ((lh, W.listOf (ts.map Value.ref).toArray nl) :: (x, instObj 171 dx) :: (dx, hdDict w lh tkk) :: news) → R (.ok (.ret (.str v t'))) { s with heap := h', toks := tk' })
  (hretN : ∀ h' tk', getF hs (PySem.Txt.lower key) = none → Fr h₀ L h' m → News h₀ L h' ((lh, W.listOf (ts.map Value.ref).toArray nl) :: (x, instObj 171 dx) :: (dx, hdDict w lh tkk) :: news) → R (.ok (.ret .none)) { s with heap := h', toks := tk' }) :
  codeAny (model prog w) (ktrTop dp un gd cn cs L a ccd cl outer) (.call (.ref 118) ⟨[.ref x, .str key t], []⟩) R s := by
  k_dflt walk_at "enterD"
  walk_at "m_toFor"
  refine wpAny_For ?_ (by intro _; rfl)
  show wpAny (model prog w) _ _ _ _ _
  k_fold
  k_steps
  (rename Fr _ _ _ _ => FC)
  (rename News _ _ _ _ => NC)
  obtain ⟨m0, hm0, FD⟩ := frNamed FC
  refine forTups (fun i m₁ => (∀ z, z ≠ Str.ofString "k" → z ≠ Str.ofString "v" → m₁ z = m0 z) ∧ (hs.take i).find? (fun kv => PySem.Txt.lower kv.1 == PySem.Txt.lower key) = none) rfl FD NC (.head _) ⟨fun _ _ _ => rfl, rfl⟩ (by passes_own) ?_ ?_
  · rintro i v m₁ h₁ tk₁ own hv9 ⟨hm, hJ⟩ F₁ N₁
    have hit : i < ts.length := by
      rcases Nat.lt_or_ge i ts.length with q | q
      · exact q
      · rw [List.getElem?_eq_none (by simpa using q)] at hv9; cases hv9
    have hih : i < hs.length := U.1 ▸ hit
    obtain ⟨⟨kn, kvv⟩, hkv9⟩ : ∃ kv, hs[i]? = some kv := ⟨_, List.getElem?_eq_getElem hih⟩
    obtain ⟨t9, ht9, rfl⟩ : ∃ t9, ts[i]? = some t9 ∧ v = .ref t9 := by
      rw [List.getElem?_map] at hv9
      obtain ⟨t9, h1, h2⟩ := Option.map_eq_some_iff.mp hv9
      exact ⟨t9, h1, h2.symm⟩
    obtain ⟨n9, u1, u2, hmem⟩ := U.2 i t9 _ ht9 hkv9
    dsimp only at hmem
    have hk9 : kn.length ≤ 100 := hkv _ (List.mem_of_getElem? hkv9)
    have N₂ := N₁
    have N₃ := more_news N₂ (N₂ (t9, tupObj [.str kn u1, .str kvv u2] n9) (List.mem_append_left own (.tail _ (.tail _ (.tail _ hmem))))).1 (N₂ (t9, tupObj [.str kn u1, .str kvv u2] n9) (List.mem_append_left own (.tail _ (.tail _ (.tail _ hmem))))).2.1 (N₂ (t9, tupObj [.str kn u1, .str kvv u2] n9) (List.mem_append_left own (.tail _ (.tail _ (.tail _ hmem))))).2.2
    rw [map_but2 hm] at F₁
    subst hm0
    simp only [List.cons_append, List.nil_append] at N₃
    clear FC NC FD N₁ N₂
    show wpAny (model prog w) _ _ _ _ _
    k_fold
    k_steps
    · (rename Fr _ _ _ _ => F9)
      (rename News _ _ _ _ => N9)
      (rename (_ == _) = true => heq9)
      refine .inr ⟨_, rfl, ?_⟩
      refine leaveK_ F9 (fun p hp => N9 p (.tail _ (List.mem_append_left own hp))) fun Fq Nq => hretS _ _ _ _ ?_ Fq Nq
      unfold getF
      rw [find_here hkv9 hJ heq9]
      rfl
    · (rename Fr _ _ _ _ => F9)
      (rename News _ _ _ _ => N9)
      (rename (_ == _) = false => heq9)
      refine .inl ⟨rfl, _, _, _, rfl, F9, fun p hp => N9 p (.tail _ hp), ?_, ?_⟩
      · intro z hz1 hz2
        simp only [if_neg hz1, if_neg hz2]
      · exact find_none hkv9 hJ heq9
  · rintro m₁ h tk ⟨hm, hJ⟩ F₁ N₁
    dsimp only at hm ⊢
    subst hm0
    rw [map_but2 hm] at F₁
    clear FC NC FD
    show wpAny (model prog w) _ _ _ _ _
    (try k_fold)
    k_steps
    refine hretN _ _ ?_ (by assumption) (by assumption)
    unfold getF
    rw [List.length_map, U.1, List.take_length] at hJ
    rw [hJ]
    rfl

end

section

local macro_rules | `(tactic| walk_at "enterC") => `(tactic| (refine' enterC ?k1 ?k2 ?k3 ?k4 ?kA ?kF ?kK ?k6 ?k7 ?k8 ?k9 ?kB ?kD ?_ ?c2 ?c3 ?c4; (case kA => exact rfl); (case kF => exact rfl); (case kK => assumption); (case k1 => k_asm); (case k2 => k_asm); (case k3 => k_asm); (case k4 => k_asm); (case k6 => k_is); (case k7 => k_is); (case k8 => ktr_room); (case k9 => exact BindsTo.of_eq rfl); (case kB => exact rfl); (case kD => decide +kernel); (case c2 => exact rfl); (case c3 => exact rfl); (case c4 => exact rfl); k_whole; intro L' h' tk' cells' F' N' Y' B' X' T' hL'; k_cells Y'; (try simp only [List.cons_append, List.nil_append] at N'); (try dsimp only); (try k_fold)))
local macro_rules | `(tactic| walk_at "enterP") => `(tactic| (refine' enterP ?k1 ?k2 ?k3 ?k4 ?kA ?kF ?kK ?k6 ?k7 ?k8 ?k9 ?kB ?_ ?c2 ?c3 ?c4 ?c5; (case kA => exact rfl); (case kF => exact rfl); (case kK => assumption); (case k1 => k_asm); (case k2 => k_asm); (case k3 => k_asm); (case k4 => k_asm); (case k6 => k_is); (case k7 => k_is); (case k8 => ktr_room); (case k9 => exact BindsTo.of_eq rfl); (case c5 => decide); (case kB => exact locs rfl); (case c2 => exact rfl); (case c3 => exact rfl); (case c4 => exact rfl); k_whole; intro L' h' F' N' B' X' T' hL'; (try dsimp only); (try k_fold)))
local macro_rules | `(tactic| walk_at "m_toComp") => `(tactic| repeat ((fail_if_success (with_reducible show wpAny _ _ (eval (PySem.Expr.ListComp _ _ _ _) _) _ _ _)); first | (k_unfold; (try dsimp only)) | walk1 | (dsimp only; walk1)))
local macro_rules | `(tactic| walk_at "m_toCompCall") => `(tactic| repeat' ((fail_if_success (with_reducible show wpAny _ _ (eval (PySem.Expr.ListComp (PySem.Expr.BinOp (PySem.Expr.Call _ _ _ _) _ _ _) _ _ _) _) _ _ _)); first | (k_unfold; (try dsimp only)) | walk1 | (dsimp only; walk1)))
local macro_rules | `(tactic| walk_at "m_units") => `(tactic| ((try simp only [units_in1, units_deeper, Around.mark_units, units_caller]); (try dsimp only [ktrTop]); omega))
local macro_rules | `(tactic| walk_at "compareOp Eq ref ref") => `(tactic| (k_here; (with_reducible show wpAny _ _ (compareOp CmpOp.Eq (Value.ref _) (Value.ref _)) _ _ _); (with_unfolding_all refine' eq_intsK ?k1 ?k2 ?k3 ?k4 ?k5 ?_; (case k1 => is_list); (case k2 => l_ints); (case k3 => is_list); (case k4 => l_ints); (case k5 => walk_at "m_units"); k_whole)))
local macro_rules | `(tactic| walk_at "compareOp NotEq ref ref") => `(tactic| (k_here; (with_reducible show wpAny _ _ (compareOp CmpOp.NotEq (Value.ref _) (Value.ref _)) _ _ _); (with_unfolding_all refine' ne_intsK ?k1 ?k2 ?k3 ?k4 ?k5 ?_; (case k1 => is_list); (case k2 => l_ints); (case k3 => is_list); (case k4 => l_ints); (case k5 => walk_at "m_units"); k_whole)))
local macro_rules | `(tactic| walk_at "m_toWhile") => `(tactic| repeat' ((fail_if_success (with_reducible show wpAny _ _ (exec (PySem.Stmt.While _ _ _ _) _) _ _ _)); first | (k_unfold; (try dsimp only)) | walk1 | (dsimp only; walk1)))
local macro_rules | `(tactic| walk_at "m_toFor") => `(tactic| repeat' ((fail_if_success (with_reducible show wpAny _ _ (exec (PySem.Stmt.For _ _ _ _ _) _) _ _ _)); first | (k_unfold; (try dsimp only)) | walk1 | (dsimp only; walk1)))
local macro_rules | `(tactic| walk_at "enterD") => `(tactic| (refine' code_defG ?k1 ?k2 ?k3 ?k4 ?k5 ?kA ?kF ?kK ?k6 ?k7 ?k8 ?k9 ?kB ?_ ?c2 ?c3 ?c4 ?c5; (case kA => exact rfl); (case kF => exact rfl); (case kK => first | exact rfl | assumption); (case k1 => k_asm); (case k2 => k_asm); (case k3 => k_asm); (case k4 => k_asm); (case k5 => k_asm); (case k6 => k_is); (case k7 => k_is); (case k8 => ktr_room); (case k9 => first | exact BindsTo.of_eq rfl | exact binds_K (by k_in) rfl (by k_is) rfl rfl rfl); (case c5 => decide); (case kB => exact locs rfl); (case c2 => exact rfl); (case c3 => exact rfl); (case c4 => exact rfl); k_whole; intro g' L' h' FG' F' N' B' X' T' kG'; (try dsimp only); (try k_fold)))

local macro_rules | `(tactic| walk_at "m_post") => `(tactic| (intro t9 h9 tk9 st9; (have F9 := fr_stay (by assumption) st9); (have N9 := news_stay (by assumption) st9); (try have kE9 := elt_stay (by assumption) st9); (try dsimp only); k_sweep; (try k_fold)))
local macro_rules | `(tactic| walk_at "call ref") => `(tactic| (k_here; (with_reducible show wpAny _ _ (call (Value.ref _) [Value.int _ _, Value.int _ _]) _ _ _); k_dflt (first
  | (refine' opSub ?k1 ?k2 ?k3 ?k4 ?k5 ?k6 ?_; (case k1 => k_asm); (case k2 => k_asm); (case k3 => k_asm); (case k4 => k_asm); (case k5 => first | exact rfl | assumption); (case k6 => ktr_room))
  | (refine' opAdd ?k1 ?k2 ?k3 ?k4 ?k5 ?k6 ?_; (case k1 => k_asm); (case k2 => k_asm); (case k3 => k_asm); (case k4 => k_asm); (case k5 => first | exact rfl | assumption); (case k6 => ktr_room))
  | (refine' opMod ?k1 ?k2 ?k3 ?k4 ?k5 ?k6 ?k7 ?_; (case k1 => k_asm); (case k2 => k_asm); (case k3 => k_asm); (case k4 => k_asm); (case k5 => first | exact rfl | assumption); (case k6 => ktr_room); (case k7 => omega))
  | (refine' opMul ?k1 ?k2 ?k3 ?k4 ?k5 ?k6 ?k7 ?k8 ?_; (case k1 => k_asm); (case k2 => k_asm); (case k3 => k_asm); (case k4 => k_asm); (case k5 => first | exact rfl | assumption); (case k6 => ktr_room); (case k7 => omega); (case k8 => omega))); walk_at "m_post"))

local macro_rules | `(tactic| walk_at "m_mems") => `(tactic| (repeat' (first | exact List.forall_mem_nil _ | (refine List.forall_mem_cons.mpr ⟨by k_mem, ?_⟩))))
local macro_rules | `(tactic| walk_at "m_own") => `(tactic| (intro p9 hp9; (repeat' (first | exact hp9 | refine List.Mem.tail _ ?_))))

local macro_rules | `(tactic| walk_at "getMethod ref") => `(tactic| (k_here; (with_reducible show wpAny _ _ (getMethod (Value.ref _) (Str.ofString "search") _) _ _ _); k_dflt (refine' meth_search ?k1 ?k2 ?k3 ?k4 ?k5 ?_; (case k1 => k_asm); (case k2 => k_asm); (case k3 => k_is); (case k4 => rfl); (case k5 => rfl))))
local macro_rules | `(tactic| walk_at "call builtin:re.Pattern.search") => `(tactic| (k_here; k_dflt (refine' search_K ?k1 ?k2 ?k3 ?k4 ?k5 ?k6 ?k7 ?k8 ?k9 ?ka ?kb ?kc ?_; (case k1 => k_asm); (case k2 => k_asm); (case k3 => k_is); (case k4 => rfl); (case k5 => rfl); (case k6 => k_is); (case k7 => rfl); (case k8 => rfl); (case k9 => rfl); (case kb => assumption); (case ka => decide +kernel); (case kc => assumption))))

local macro_rules | `(tactic| walk_at "m_post0") => `(tactic| (intro h9 tk9 st9; (have F9 := fr_stay (by assumption) st9); (have N9 := news_stay (by assumption) st9); (try dsimp only); k_sweep; (try k_fold)))
local macro_rules | `(tactic| walk_at "call builtin:str.lower") => `(tactic| (k_here; (with_reducible show wpAny _ _ (call (Value.builtin "str.lower") [Value.str _ _]) _ _ _); (refine SC.lower (fit_lower (by omega)) ?_)))
local macro_rules | `(tactic| walk_at "call ref") => `(tactic| (k_here; k_dflt (refine wpAny_call ?_; (refine' conv ?k1 ?k2 ?k3 ?k4 ?k5 ?k6 ?k7 ?_; (case k1 => k_asm); (case k2 => k_asm); (case k3 => k_asm); (case k4 => k_asm); (case k5 => first | exact rfl | assumption); (case k6 => ktr_room); (case k7 => assumption)); walk_at "m_post0")))

local macro_rules | `(tactic| k_room) => `(tactic| ktr_room)
theorem hset {prog : Program} {w : World} {p : Program} {loose : List Str} {mean : ExcName → Option Value} {mg mb : Str → Option Value}
  {dp un : Nat} {gd : Option (List Code)} {cn : Str} {cs : Scope} {a : Addr} {ccd : Value} {cl : List (Str × Addr)} {outer : List Env} {A₀ : Around} {base h₀ : Heap} {L : Addr} {m : Str → Option Value} {s : Shared}
  {x dx lh : Addr} {tkk : Tok} {ts : List Addr} {nl : Nat} {hs : List (Str × Str)} {news : List (Addr × Obj)} {key val : Str} {t1 t2 : Tok}
  {R : Result → Shared → Prop}
  (B : Below A₀ base outer h₀) (F : Fr h₀ L s.heap m) (X : (Kf w.params).In h₀) (T : Top p loose mean mg mb h₀) (hk : cs.kind = .function)
  (N : News h₀ L s.heap ((lh, W.listOf (ts.map Value.ref).toArray nl) :: (x, instObj 171 dx) :: (dx, hdDict w lh tkk) :: news)) (U : Tups news ts hs) (hlen : hs.length ≤ 100) (hdx : dx < x) (hxl : x < lh) (hoff : OwnOff news [lh, x, dx])
  (hdp : dp + 30 < recursionLimit) (hkl : key.length ≤ 100) (hv : Safe (PySem.Txt.lower key)) (hkv : ∀ kv ∈ hs, kv.1.length ≤ 100)
  (hsn : getF hs (PySem.Txt.lower key) = none → Safe key ∧ Safe val)
  (hretS : ∀ v t' h' tk', getF hs (PySem.Txt.lower key) = some v → Fr h₀ L h' m → News h₀ L h' ((lh, W.listOf (ts.map Value.ref).toArray nl) :: (x, instObj 171 dx) :: (dx, hdDict w lh tkk) :: news) → R (.ok (.ret (.str v t'))) { s with heap := h', toks := tk' })
  (hretN : ∀ tn n u1 u2 h' tk', getF hs (PySem.Txt.lower key) = none → Fr h₀ L h' m → News h₀ L h' ((tn, tupObj [.str key u1, .str val u2] n) :: (lh, W.listOf ((ts ++ [tn]).map Value.ref).toArray (nl + 1)) :: (x, instObj 171 dx) :: (dx, hdDict w lh tkk) :: news) → lh < tn → (∀ p ∈ news, p.1 < tn) → R (.ok (.ret (.str val t2))) { s with heap := h', toks := tk' }) :
  codeAny (model prog w) (ktrTop dp un gd cn cs L a ccd cl outer) (.call (.ref 161) ⟨[.ref x, .str key t1, .str val t2], []⟩) R s := by
  have hz3 : (ts.map Value.ref).toArray.size ≤ 100 := by simp [U.1]; exact hlen
  k_dflt walk_at "enterD"
  repeat ((fail_if_success (with_reducible show wpAny _ _ (call (Value.ref 118) _ _) _ _ _)); first | (k_unfold; (try dsimp only)) | walk1 | (dsimp only; walk1))
  refine wpAny_call ?_
  k_dflt refine' hget ?k1 ?k2 ?k3 ?k4 ?k5 ?k6 ?k7 ?k8 ?k9 ?ka ?kb ?_ ?_
  case k1 => k_asm
  case k2 => k_asm
  case k3 => k_asm
  case k4 => k_asm
  case k5 => rfl
  case k6 => assumption
  case k7 => assumption
  case k8 => ktr_room
  case k9 => assumption
  case ka => assumption
  case kb => assumption
  · intro v t' h9 tk9 hg9 F9 N9
    dsimp only
    k_sweep
    (try k_fold)
    k_steps
    exact hretS _ _ _ _ hg9 (by assumption) (by assumption)
  · intro h9 tk9 hg9 F9 N9
    obtain ⟨hs1, hs2⟩ := hsn hg9
    dsimp only
    k_sweep
    (try k_fold)
    k_steps
    (rename _ ∧ _ ∧ _ ∧ AllLt _ _ => l9)
    rename_i D9 _ _ _
    k_dflt refine' append_K ?a1 ?a2 ?a3 ?_ ?az
    case a1 => k_asm
    case a2 => k_asm
    case a3 =>
      refine Upd.tail (Nat.ne_of_gt l9.1) (Upd.head (List.forall_mem_cons.mpr ⟨Nat.ne_of_lt hxl, List.forall_mem_cons.mpr ⟨Nat.ne_of_lt (Nat.lt_trans hdx hxl), OwnOff.ne hoff (.head _)⟩⟩))
    case az => exact Nat.le_trans hz3 (by rw [sizeLine_eq]; decide)
    k_whole
    intro h8 F8 N8
    (try k_sweep)
    (try dsimp only)
    (try k_fold)
    k_steps
    (rename News h₀ _ _ _ => Nq)
    (rename Fr h₀ _ _ _ => Fq)
    have e : (ts.map Value.ref).toArray.push (Value.ref D9) = ((ts ++ [D9]).map Value.ref).toArray := by simp
    rw [e] at Nq
    exact hretN _ _ _ _ _ _ hg9 Fq Nq l9.1 (ofAllLt l9.2.2.2)

end

section

-- nofill
/-- a turn's end whose ledger may have grown -/
def TurnG (h₀ : Heap) (L : Addr) (J : (Str → Option Value) → List (Addr × Obj) → Prop) (own : List (Addr × Obj)) (s₁ : Shared) (f : Flow) (s₂ : Shared) : Prop :=
  f = .next ∧ ∃ h' tk m' all nx, s₂ = { s₁ with heap := h', toks := tk } ∧ Fr h₀ L h' m' ∧ News h₀ L h' all ∧ (∀ p ∈ nx, p ∈ all) ∧ (∀ p ∈ own, p ∈ all) ∧ OwnOff own (nx.map (·.1)) ∧ J m' nx

section
variable {prog : Program} {w : World} {A : Around} {E : Value → Shared → Prop} {s : Shared} {env : Env} {h₀ : Heap} {target : Expr} {body : List Stmt} {Q : Flow → Shared → Prop}
/-- a for over a list of the ground, its ledger may grow -/
theorem listG {l : Addr} {vs : List Value} {ns : List Int} {m₀ : Str → Option Value} {news : List (Addr × Obj)} (J : Nat → (Str → Option Value) → List (Addr × Obj) → Prop)
    (hh : A.handled = none) (ht : ∀ it v, letOwnedTupleGo target it v = pure ()) (hl : h₀.IsList l vs.toArray) (hi : IntsAre vs ns) (F : Fr h₀ env.locals s.heap m₀) (N : News h₀ env.locals s.heap news) (hj : J 0 m₀ news) (hE : PassesOwn (model prog w) A env E)
    (turn : ∀ i k t m₁ news₁ h₁ tk₁ own, ns[i]? = some k → OwnOff own (news₁.map (·.1)) → J i m₁ news₁ → Fr h₀ env.locals h₁ m₁ → News h₀ env.locals h₁ (news₁ ++ own) →
      wpAny (model prog w) A (assign target env (.int k t)) (fun _ s₃ => wpAny (model prog w) A (execs body env) (TurnG h₀ env.locals (J (i + 1)) own { s with heap := h₁, toks := tk₁ }) E s₃) E { s with heap := h₁, toks := tk₁ })
    (done : ∀ m₁ news₁ h tk, J ns.length m₁ news₁ → Fr h₀ env.locals h m₁ → News h₀ env.locals h news₁ → Q .next { s with heap := h, toks := tk }) :
    wpAny (model prog w) A (pyIter (.ref l)) (fun it s₂ => codeAny (model prog w) A (.forLoop target it body [] env) (fun r s' => match r with | .ok f => Q f s' | .error e => cameBackBy (model prog w) A env E e s') s₂) E s := by
  have hll : s.heap.IsList l vs.toArray := hl.at fun o e => F.keep _ _ e
  have hl0 : ∃ o, h₀.get? l = some o := by obtain ⟨o, e, _⟩ := hl; exact ⟨o, e⟩
  obtain ⟨ol, hol⟩ := hl0
  refine wpAny_pyIter_list hll ?_
  have hIl : s.heap.objs.size ≠ l := Nat.ne_of_gt (Heap.lt_size (F.keep _ _ hol))
  have hIL : env.locals ≠ s.heap.objs.size := Nat.ne_of_lt F.ns.lt
  have hn0 : ∀ p ∈ news, p.1 ≠ s.heap.objs.size := fun p hp => Nat.ne_of_lt (Heap.lt_size (N p hp).1)
  obtain ⟨I, hI⟩ : ∃ I, I = s.heap.objs.size := ⟨_, rfl⟩
  have hI0 : h₀.get? I = none := by rw [hI]; exact next_is_new F
  have hst0 : (s.heap.push { cls := .type "list_iterator", data := .fields #[.ref l, .int 0 0] }).IsListIter I l 0 := by rw [hI]; exact ⟨_, Heap.get?_push_size _ rfl, rfl, rfl⟩
  rw [← hI] at hIl hIL hn0 ⊢
  have W : Walks prog w A I [I, l] [I] _ _ _ := Walks.list hh I l (Ne.symm hIl) vs.toArray
  have hvl := hi.length
  refine codeAny_forLoop_any (fun k s' => ∃ i h' tk m' nx, s' = { s with heap := h', toks := tk } ∧ i ≤ ns.length ∧ k = ns.length + 1 - i ∧ h'.IsListIter I l i ∧ Fr h₀ env.locals h' m' ∧ News h₀ env.locals h' nx ∧ (∀ p ∈ nx, p.1 ≠ I) ∧ J i m' nx) ?_ (ns.length + 1)
    ⟨0, _, _, m₀, news, rfl, Nat.zero_le _, rfl, hst0, F.push _, fun p hp => ⟨Heap.get?_push_of_some _ (N p hp).1, (N p hp).2⟩, hn0, hj⟩
  rintro k s' ⟨i, h', tk, m', nx, rfl, hin, rfl, hit, F', N', hnI, hJ⟩
  have next : ∀ h₁ : Heap, (∀ b o, b ∉ [I] → h'.get? b = some o → h₁.get? b = some o) → Fr h₀ env.locals h₁ m' ∧ News h₀ env.locals h₁ nx := fun h₁ hk₁ =>
    ⟨⟨F'.ns.at' fun o e => hk₁ _ o (by simpa using hIL) e, fun b o e => hk₁ b o (fun q => by rw [List.mem_singleton] at q; rw [q, hI0] at e; cases e) (F'.keep b o e), F'.above⟩,
      fun p hp => ⟨hk₁ _ _ (by simpa using hnI p hp) (N' p hp).1, (N' p hp).2⟩⟩
  have hlh : h'.IsList l vs.toArray := hl.at fun o e => F'.keep _ _ e
  by_cases hlt : i < ns.length
  · refine W.item i _ _ _ (by simpa [hvl] using hlt) ⟨hit, hlh⟩ fun v h₁ tk₁ hP hst₁ hk₁ => ?_
    obtain ⟨F₁, N₁⟩ := next h₁ hk₁
    obtain ⟨o, eo, ro⟩ := id hst₁.1
    obtain ⟨k, t, hk, rfl⟩ := ints_at hi (by simpa using hP)
    have N₂ : News h₀ env.locals h₁ (nx ++ [(I, o)]) := fun p hp => (List.mem_append.mp hp).elim (fun q => N₁ p q) fun q => by rw [List.mem_singleton.mp q]; exact ⟨eo, Ne.symm hIL, hI0⟩
    have hoff : OwnOff [(I, o)] (nx.map (·.1)) := by
      intro p hp b hb e
      obtain ⟨q, hq, rfl⟩ := List.mem_map.mp hb
      rw [List.mem_singleton.mp hp] at e
      exact hnI q hq e.symm
    refine wpAny_of_eq (ht _ _) ?_
    refine wpAny_mono (turn i k t m' nx h₁ tk₁ [(I, o)] hk hoff hJ F₁ N₂) (fun _ s₂ h₂ => wpAny_mono h₂ (fun f s₃ h₃ => ?_) hE) hE
    obtain ⟨rfl, h₃', tk₃, m₃, all, nx', rfl, F₃, N₃, hx, ho, hoff', hJ₃⟩ := h₃
    have hI3 := (N₃ _ (ho _ (List.mem_singleton.mpr rfl))).1
    refine ⟨ns.length + 1 - (i + 1), by omega, i + 1, h₃', tk₃, m₃, nx', rfl, hlt, rfl, ⟨o, hI3, ro⟩, F₃, fun p hp => N₃ p (hx p hp), fun p hp e => ?_, hJ₃⟩
    exact hoff' (I, o) (List.mem_singleton.mpr rfl) p.1 (List.mem_map.mpr ⟨p, hp, rfl⟩) e.symm
  · have hin2 : i = ns.length := by omega
    subst hin2
    refine W.done _ _ _ (by simpa [hvl] using (⟨hit, hlh⟩ : h'.IsListIter I l ns.length ∧ h'.IsList l vs.toArray)) fun h₁ tk₁ hk₁ => wpAny_execs_nil ?_
    obtain ⟨F₁, N₁⟩ := next h₁ hk₁
    exact done m' nx h₁ tk₁ hJ F₁ N₁
end
theorem turnG_intro {h₀ h' : Heap} {L : Addr} {J : (Str → Option Value) → List (Addr × Obj) → Prop} {own all : List (Addr × Obj)} {s₁ : Shared} {m' : Str → Option Value} {tk : Nat} (nx : List (Addr × Obj)) (F' : Fr h₀ L h' m') (N' : News h₀ L h' all)
    (hs : ∀ p ∈ nx, p ∈ all) (ho : ∀ p ∈ own, p ∈ all) (ha : OwnOff own (nx.map (·.1))) (hJ : J m' nx) : TurnG h₀ L J own s₁ .next { s₁ with heap := h', toks := tk } := ⟨rfl, h', tk, m', all, nx, rfl, F', N', hs, ho, ha, hJ⟩

end

section

-- nofill
def safeB (v : Str) : Bool := noHit codeN v.cps && noHit codeV v.cps && decide (v.length ≤ 100)
theorem safe_of {v : Str} (h : safeB v = true) : Safe v := by
  simp only [safeB, Bool.and_eq_true, decide_eq_true_eq] at h
  exact ⟨h.1.1, h.1.2, h.2⟩
theorem fin_int {P : Int → Prop} (h : ∀ k : Fin 21, P (k.val : Int)) {n : Int} (h1 : 0 ≤ n) (h2 : n ≤ 20) : P n := by
  have := h ⟨n.toNat, by omega⟩
  simpa [Int.toNat_of_nonneg h1] using this
theorem safe_word {n : Int} (h1 : 1 ≤ n) (h2 : n ≤ 20) : Safe (wordF [n]) :=
  safe_of ((fin_int (P := fun n => 1 ≤ n → safeB (wordF [n]) = true) (by decide +kernel) (by omega) h2) h1)
theorem low_word {n : Int} (h1 : 1 ≤ n) (h2 : n ≤ 20) : PySem.Txt.lower (wordF [n]) = wordF [n] :=
  (fin_int (P := fun n => 1 ≤ n → PySem.Txt.lower (wordF [n]) = wordF [n]) (by decide +kernel) (by omega) h2) h1
theorem safe_num {n : Int} (h1 : 0 ≤ n) (h2 : n ≤ 20) : Safe (Str.ofString (toString n)) :=
  safe_of (fin_int (P := fun n => safeB (Str.ofString (toString n)) = true) (by decide +kernel) h1 h2)

end

section

local macro_rules | `(tactic| walk_at "enterC") => `(tactic| (refine' enterC ?k1 ?k2 ?k3 ?k4 ?kA ?kF ?kK ?k6 ?k7 ?k8 ?k9 ?kB ?kD ?_ ?c2 ?c3 ?c4; (case kA => exact rfl); (case kF => exact rfl); (case kK => assumption); (case k1 => k_asm); (case k2 => k_asm); (case k3 => k_asm); (case k4 => k_asm); (case k6 => k_is); (case k7 => k_is); (case k8 => ktr_room); (case k9 => exact BindsTo.of_eq rfl); (case kB => exact rfl); (case kD => decide +kernel); (case c2 => exact rfl); (case c3 => exact rfl); (case c4 => exact rfl); k_whole; intro L' h' tk' cells' F' N' Y' B' X' T' hL'; k_cells Y'; (try simp only [List.cons_append, List.nil_append] at N'); (try dsimp only); (try k_fold)))
local macro_rules | `(tactic| walk_at "enterP") => `(tactic| (refine' enterP ?k1 ?k2 ?k3 ?k4 ?kA ?kF ?kK ?k6 ?k7 ?k8 ?k9 ?kB ?_ ?c2 ?c3 ?c4 ?c5; (case kA => exact rfl); (case kF => exact rfl); (case kK => assumption); (case k1 => k_asm); (case k2 => k_asm); (case k3 => k_asm); (case k4 => k_asm); (case k6 => k_is); (case k7 => k_is); (case k8 => ktr_room); (case k9 => exact BindsTo.of_eq rfl); (case c5 => decide); (case kB => exact locs rfl); (case c2 => exact rfl); (case c3 => exact rfl); (case c4 => exact rfl); k_whole; intro L' h' F' N' B' X' T' hL'; (try dsimp only); (try k_fold)))
local macro_rules | `(tactic| walk_at "m_toComp") => `(tactic| repeat ((fail_if_success (with_reducible show wpAny _ _ (eval (PySem.Expr.ListComp _ _ _ _) _) _ _ _)); first | (k_unfold; (try dsimp only)) | walk1 | (dsimp only; walk1)))
local macro_rules | `(tactic| walk_at "m_toCompCall") => `(tactic| repeat' ((fail_if_success (with_reducible show wpAny _ _ (eval (PySem.Expr.ListComp (PySem.Expr.BinOp (PySem.Expr.Call _ _ _ _) _ _ _) _ _ _) _) _ _ _)); first | (k_unfold; (try dsimp only)) | walk1 | (dsimp only; walk1)))
local macro_rules | `(tactic| walk_at "m_units") => `(tactic| ((try simp only [units_in1, units_deeper, Around.mark_units, units_caller]); (try dsimp only [ktrTop]); omega))
local macro_rules | `(tactic| walk_at "compareOp Eq ref ref") => `(tactic| (k_here; (with_reducible show wpAny _ _ (compareOp CmpOp.Eq (Value.ref _) (Value.ref _)) _ _ _); (with_unfolding_all refine' eq_intsK ?k1 ?k2 ?k3 ?k4 ?k5 ?_; (case k1 => is_list); (case k2 => l_ints); (case k3 => is_list); (case k4 => l_ints); (case k5 => walk_at "m_units"); k_whole)))
local macro_rules | `(tactic| walk_at "compareOp NotEq ref ref") => `(tactic| (k_here; (with_reducible show wpAny _ _ (compareOp CmpOp.NotEq (Value.ref _) (Value.ref _)) _ _ _); (with_unfolding_all refine' ne_intsK ?k1 ?k2 ?k3 ?k4 ?k5 ?_; (case k1 => is_list); (case k2 => l_ints); (case k3 => is_list); (case k4 => l_ints); (case k5 => walk_at "m_units"); k_whole)))
local macro_rules | `(tactic| walk_at "m_toWhile") => `(tactic| repeat' ((fail_if_success (with_reducible show wpAny _ _ (exec (PySem.Stmt.While _ _ _ _) _) _ _ _)); first | (k_unfold; (try dsimp only)) | walk1 | (dsimp only; walk1)))
local macro_rules | `(tactic| walk_at "m_toFor") => `(tactic| repeat' ((fail_if_success (with_reducible show wpAny _ _ (exec (PySem.Stmt.For _ _ _ _ _) _) _ _ _)); first | (k_unfold; (try dsimp only)) | walk1 | (dsimp only; walk1)))
local macro_rules | `(tactic| walk_at "enterD") => `(tactic| (refine' code_defG ?k1 ?k2 ?k3 ?k4 ?k5 ?kA ?kF ?kK ?k6 ?k7 ?k8 ?k9 ?kB ?_ ?c2 ?c3 ?c4 ?c5; (case kA => exact rfl); (case kF => exact rfl); (case kK => first | exact rfl | assumption); (case k1 => k_asm); (case k2 => k_asm); (case k3 => k_asm); (case k4 => k_asm); (case k5 => k_asm); (case k6 => k_is); (case k7 => k_is); (case k8 => ktr_room); (case k9 => first | exact BindsTo.of_eq rfl | exact binds_K (by k_in) rfl (by k_is) rfl rfl rfl); (case c5 => decide); (case kB => exact locs rfl); (case c2 => exact rfl); (case c3 => exact rfl); (case c4 => exact rfl); k_whole; intro g' L' h' FG' F' N' B' X' T' kG'; (try dsimp only); (try k_fold)))

local macro_rules | `(tactic| walk_at "m_post") => `(tactic| (intro t9 h9 tk9 st9; (have F9 := fr_stay (by assumption) st9); (have N9 := news_stay (by assumption) st9); (try have kE9 := elt_stay (by assumption) st9); (try dsimp only); k_sweep; (try k_fold)))
local macro_rules | `(tactic| walk_at "call ref") => `(tactic| (k_here; (with_reducible show wpAny _ _ (call (Value.ref _) [Value.int _ _, Value.int _ _]) _ _ _); k_dflt (first
  | (refine' opSub ?k1 ?k2 ?k3 ?k4 ?k5 ?k6 ?_; (case k1 => k_asm); (case k2 => k_asm); (case k3 => k_asm); (case k4 => k_asm); (case k5 => first | exact rfl | assumption); (case k6 => ktr_room))
  | (refine' opAdd ?k1 ?k2 ?k3 ?k4 ?k5 ?k6 ?_; (case k1 => k_asm); (case k2 => k_asm); (case k3 => k_asm); (case k4 => k_asm); (case k5 => first | exact rfl | assumption); (case k6 => ktr_room))
  | (refine' opMod ?k1 ?k2 ?k3 ?k4 ?k5 ?k6 ?k7 ?_; (case k1 => k_asm); (case k2 => k_asm); (case k3 => k_asm); (case k4 => k_asm); (case k5 => first | exact rfl | assumption); (case k6 => ktr_room); (case k7 => omega))
  | (refine' opMul ?k1 ?k2 ?k3 ?k4 ?k5 ?k6 ?k7 ?k8 ?_; (case k1 => k_asm); (case k2 => k_asm); (case k3 => k_asm); (case k4 => k_asm); (case k5 => first | exact rfl | assumption); (case k6 => ktr_room); (case k7 => omega); (case k8 => omega))); walk_at "m_post"))

local macro_rules | `(tactic| walk_at "m_mems") => `(tactic| (repeat' (first | exact List.forall_mem_nil _ | (refine List.forall_mem_cons.mpr ⟨by k_mem, ?_⟩))))
local macro_rules | `(tactic| walk_at "m_own") => `(tactic| (intro p9 hp9; (repeat' (first | exact hp9 | refine List.Mem.tail _ ?_))))

local macro_rules | `(tactic| walk_at "getMethod ref") => `(tactic| (k_here; (with_reducible show wpAny _ _ (getMethod (Value.ref _) (Str.ofString "search") _) _ _ _); k_dflt (refine' meth_search ?k1 ?k2 ?k3 ?k4 ?k5 ?_; (case k1 => k_asm); (case k2 => k_asm); (case k3 => k_is); (case k4 => rfl); (case k5 => rfl))))
local macro_rules | `(tactic| walk_at "call builtin:re.Pattern.search") => `(tactic| (k_here; k_dflt (refine' search_K ?k1 ?k2 ?k3 ?k4 ?k5 ?k6 ?k7 ?k8 ?k9 ?ka ?kb ?kc ?_; (case k1 => k_asm); (case k2 => k_asm); (case k3 => k_is); (case k4 => rfl); (case k5 => rfl); (case k6 => k_is); (case k7 => rfl); (case k8 => rfl); (case k9 => rfl); (case kb => assumption); (case ka => decide +kernel); (case kc => assumption))))

local macro_rules | `(tactic| walk_at "m_post0") => `(tactic| (intro h9 tk9 st9; (have F9 := fr_stay (by assumption) st9); (have N9 := news_stay (by assumption) st9); (try dsimp only); k_sweep; (try k_fold)))
local macro_rules | `(tactic| walk_at "call builtin:str.lower") => `(tactic| (k_here; (with_reducible show wpAny _ _ (call (Value.builtin "str.lower") [Value.str _ _]) _ _ _); (refine SC.lower (fit_lower (by omega)) ?_)))
local macro_rules | `(tactic| walk_at "call ref") => `(tactic| (k_here; k_dflt (refine wpAny_call ?_; (refine' conv ?k1 ?k2 ?k3 ?k4 ?k5 ?k6 ?k7 ?_; (case k1 => k_asm); (case k2 => k_asm); (case k3 => k_asm); (case k4 => k_asm); (case k5 => first | exact rfl | assumption); (case k6 => ktr_room); (case k7 => assumption)); walk_at "m_post0")))

local macro_rules | `(tactic| k_room) => `(tactic| ktr_room)
def strI (n : Int) : Str := Str.ofString (toString n)
def bookStep (size ahead : Int) (st : List (Str × Str) × List Bool) (behind : Int) : List (Str × Str) × List Bool :=
  if ahead = behind then st else
    match getF st.1 (PySem.Txt.lower (wordF [(behind - ahead).fmod size])) with
    | some v => (st.1, st.2 ++ [v == strI ahead])
    | none => (st.1 ++ [(wordF [(behind - ahead).fmod size], strI ahead)], st.2 ++ [strI ahead == strI ahead])
def bookOut (size : Int) (ns : List Int) (l : List Int) : List (Str × Str) × List Bool := l.foldl (fun st ahead => ns.foldl (bookStep size ahead) st) ([], [])

theorem fmod_off {size a b : Int} (hs : 1 ≤ size ∧ size ≤ 21) (ha : 0 ≤ a ∧ a < size) (hb : 0 ≤ b ∧ b < size) (h : a ≠ b) : 1 ≤ (b - a).fmod size ∧ (b - a).fmod size ≤ 20 := by
  rw [Int.fmod_eq_emod_of_nonneg _ (by omega)]
  have h1 := Int.emod_nonneg (b - a) (show size ≠ 0 by omega)
  have h2 := Int.emod_lt_of_pos (b - a) (show 0 < size by omega)
  have h3 : (b - a) % size ≠ 0 := fun q => by
    obtain ⟨k, hk⟩ := Int.dvd_of_emod_eq_zero q
    have : k = 0 := by
      rcases Int.lt_trichotomy k 0 with q | q | q
      · have : size * k ≤ size * (-1) := Int.mul_le_mul_of_nonneg_left (by omega) (by omega); omega
      · exact q
      · have : size * 1 ≤ size * k := Int.mul_le_mul_of_nonneg_left (by omega) (by omega); omega
    subst this
    omega
  omega
theorem word_one {n : Int} (h1 : 1 ≤ n) (h2 : n ≤ 20) : (wordF [n]).length = 1 := by
  have : ∀ k : Fin 21, (wordF [(k : Int)]).length = 1 := by decide +kernel
  have h := this ⟨n.toNat, by omega⟩
  have e : ((⟨n.toNat, by omega⟩ : Fin 21) : Int) = n := by simp; omega
  have e2 : ((n.toNat : Nat) : Int) = n := by omega
  simpa [e2] using h

theorem tups_snoc {tp : List (Addr × Obj)} {ts : List Addr} {hs : List (Str × Str)} {tn : Addr} {k v : Str} {u1 u2 : Tok} {n : Nat} (h : Tups tp ts hs) : Tups (tp ++ [(tn, tupObj [.str k u1, .str v u2] n)]) (ts ++ [tn]) (hs ++ [(k, v)]) := by
  refine ⟨by simp [h.1], fun i t kv a b => ?_⟩
  rcases Nat.lt_or_ge i ts.length with q | q
  · rw [List.getElem?_append_left q] at a
    rw [List.getElem?_append_left (h.1 ▸ q)] at b
    obtain ⟨n', x1, x2, hm⟩ := h.2 i t kv a b
    exact ⟨n', x1, x2, List.mem_append_left _ hm⟩
  · rw [List.getElem?_append_right q] at a
    rw [List.getElem?_append_right (h.1 ▸ q)] at b
    rw [h.1] at a
    cases hz : i - hs.length with
    | zero =>
      rw [hz] at a b
      cases a
      cases b
      exact ⟨n, u1, u2, List.mem_append_right _ (.head _)⟩
    | succ z => rw [hz] at a; cases a

inductive BookInv (w : World) (lo lh x dx : Addr) (tkk : Tok) (size : Int) (ns : List Int) (m0 : Str → Option Value) (i : Nat) (m₁ : Str → Option Value) (nw : List (Addr × Obj)) : Prop
  | mk (hs : List (Str × Str)) (bs : List Bool) (ts : List Addr) (tp : List (Addr × Obj)) (nl nlo : Nat)
    (h0 : nw = (lo, W.listOf (bs.map Value.bool).toArray nlo) :: (lh, W.listOf (ts.map Value.ref).toArray nl) :: (x, instObj 171 dx) :: (dx, hdDict w lh tkk) :: tp)
    (h1 : Tups tp ts hs)
    (h2 : (hs, bs) = bookOut size ns (ns.take i))
    (h3 : hs.length ≤ 5 * i)
    (h4 : bs.length ≤ 5 * i)
    (h5 : (∀ kv ∈ hs, kv.1.length ≤ 100))
    (h6 : (∀ p ∈ tp, lo < p.1))
    (h7 : ∀ z, z ≠ Str.ofString "ahead" → z ≠ Str.ofString "behind" → z ≠ Str.ofString "note" → m₁ z = m0 z)
    : BookInv w lo lh x dx tkk size ns m0 i m₁ nw

inductive BookInv2 (w : World) (lo lh x dx : Addr) (tkk : Tok) (size ahead : Int) (ns : List Int) (hs : List (Str × Str)) (bs : List Bool) (i : Nat) (own : List (Addr × Obj)) (m9 : Str → Option Value) (j : Nat) (m₂ : Str → Option Value) (nw : List (Addr × Obj)) : Prop
  | mk (hs2 : List (Str × Str)) (bs2 : List Bool) (ts2 : List Addr) (tp2 : List (Addr × Obj)) (nl2 nlo2 : Nat)
    (h0 : nw = (lo, W.listOf (bs2.map Value.bool).toArray nlo2) :: (lh, W.listOf (ts2.map Value.ref).toArray nl2) :: (x, instObj 171 dx) :: (dx, hdDict w lh tkk) :: (tp2 ++ own))
    (h1 : Tups tp2 ts2 hs2)
    (h2 : (hs2, bs2) = (ns.take j).foldl (bookStep size ahead) (hs, bs))
    (h3 : hs2.length ≤ 5 * i + j)
    (h4 : bs2.length ≤ 5 * i + j)
    (h5 : (∀ kv ∈ hs2, kv.1.length ≤ 100))
    (h6 : (∀ p ∈ tp2, lo < p.1))
    (h7 : OwnOff own (lo :: lh :: x :: dx :: tp2.map (·.1)))
    (h8 : ∀ z, z ≠ Str.ofString "behind" → z ≠ Str.ofString "note" → m₂ z = m9 z)
    : BookInv2 w lo lh x dx tkk size ahead ns hs bs i own m9 j m₂ nw

theorem book {prog : Program} {w : World} {p : Program} {loose : List Str} {mean : ExcName → Option Value} {mg mb : Str → Option Value}
  (dp un : Nat) (gd : Option (List Code)) (cn : Str) (cs : Scope) (a : Addr) (ccd : Value) (cl : List (Str × Addr)) (outer : List Env) (A₀ : Around) (base h₀ : Heap) (L : Addr) (m : Str → Option Value) (s : Shared) (l : Addr) (vs : List Value) (ns : List Int) (size : Int) (t1 : Tok)
  (Q E : Value → Shared → Prop)
  (B : Below A₀ base outer h₀) (F : Fr h₀ L s.heap m) (X : (Kf w.params).In h₀) (T : Top p loose mean mg mb h₀) (hk : cs.kind = .function)
  (hl : s.heap.IsList l vs.toArray) (hi : IntsAre vs ns) (hlen : ns.length ≤ 5) (hsz : 1 ≤ size ∧ size ≤ 21) (hb : ∀ n ∈ ns, 0 ≤ n ∧ n < size)
  (hdp : dp + 50 < recursionLimit) (hu : un + 300 < cLine)
  (hret : ∀ (D x dx lh lo : Addr) (tkk : Tok) (ts : List Addr) (hs : List (Str × Str)) (bs : List Bool) (tp : List (Addr × Obj)) (n nl nlo : Nat) (h' : Heap) (tk' : Nat), s.heap.StaysIn h' →
    (∀ q ∈ (D, tupObj [.ref x, .ref lo] n) :: (lo, W.listOf (bs.map Value.bool).toArray nlo) :: (lh, W.listOf (ts.map Value.ref).toArray nl) :: (x, instObj 171 dx) :: (dx, hdDict w lh tkk) :: tp, h'.get? q.1 = some q.2 ∧ s.heap.get? q.1 = none) → Tups tp ts hs → (hs, bs) = bookOut size ns ns →
    hs.length ≤ 25 → bs.length ≤ 25 → (∀ kv ∈ hs, kv.1.length ≤ 100) → dx < x → x < lh → lh < lo → (∀ q ∈ tp, lo < q.1) → Q (.ref D) { s with heap := h', toks := tk' }) :
  wpAny (model prog w) (ktrTop dp un gd cn cs L a ccd cl outer) (call (.ref 333) [.ref l, .int size t1]) Q E s := by
  refine wpAny_call ?_
  k_dflt walk_at "enterP"
  repeat ((fail_if_success (with_reducible show wpAny _ _ (call (Value.ref 171) _) _ _ _)); first | (k_unfold; (try dsimp only)) | walk1 | (dsimp only; walk1))
  k_dflt refine' headers _ _ _ _ _ _ _ _ _ _ _ _ _ _ _ _ _ ?k1 ?k2 ?k3 ?k4 ?k5 ?k6 ?k7 _ ?k8 ?_
  case k1 => k_asm
  case k2 => k_asm
  case k3 => k_asm
  case k4 => k_asm
  case k5 => rfl
  case k6 => ktr_room
  case k7 => walk_at "m_units"
  case k8 => k_asm
  intro x dx lh tkk h9 tk9 F9 N9 l1 hdx hxl
  have hdx' := hdx
  have hxl' := hxl
  (try k_lt l1)
  (try k_lt2 hdx)
  dsimp only
  k_sweep
  (try k_fold)
  walk_at "m_toFor"
  refine wpAny_For ?_ (by intro _; rfl)
  show wpAny (model prog w) _ _ _ _ _
  k_fold
  k_steps
  rename_i lo h4a hlo Dt h3a hDt h2a h1a h0a FC NC
  obtain ⟨m0, hm0, FD⟩ := frNamed FC
  refine listG (fun i m₁ nw => BookInv w lo lh x dx tkk size ns m0 i m₁ nw)
    rfl (by intro _ _; rfl) hl hi FD (fun q hq => NC q (.tail _ hq)) ⟨[], [], [], [], 0, 0, rfl, ⟨rfl, by intro i t kv h; simp at h⟩, rfl, Nat.zero_le _, Nat.zero_le _, by simp, by simp, fun _ _ _ _ => rfl⟩ (by passes_own) ?_ ?_
  · rintro i ahead ta m₁ nw h₁ tk₁ own hia hoff ⟨hs, bs, ts, tp, nl, nlo, rfl, hU, hst, hhl, hbl, hkl, hpl, hm⟩ F₁ N₁
    have hin : i < 5 := by
      rcases Nat.lt_or_ge i ns.length with q | q
      · omega
      · rw [List.getElem?_eq_none q] at hia; cases hia
    have hba := hb ahead (List.mem_of_getElem? hia)
    have hm' := map_but3 hm
    rw [map_but3 hm] at F₁
    subst hm0
    simp only [List.cons_append, List.nil_append] at N₁
    clear FC NC FD
    show wpAny (model prog w) _ _ _ _ _
    k_fold
    walk_at "m_toFor"
    refine wpAny_For ?_ (by intro _; rfl)
    show wpAny (model prog w) _ _ _ _ _
    k_fold
    k_steps
    (rename Fr _ _ _ _ => FC)
    (rename News _ _ _ _ => NC)
    obtain ⟨m9, hm9, FD⟩ := frNamed FC
    refine listG (fun j m₂ nw => BookInv2 w lo lh x dx tkk size ahead ns hs bs i own m9 j m₂ nw)
      rfl (by intro _ _; rfl) hl hi FD NC ⟨hs, bs, ts, tp, nl, nlo, rfl, hU, rfl, by omega, by omega, hkl, hpl, by simpa using hoff, fun _ _ _ => rfl⟩ (by passes_own) ?_ ?_
    · rintro j behind tb m₂ nw h₂ tk₂ own2 hjb hoff2 ⟨hs2, bs2, ts2, tp2, nl2, nlo2, rfl, hU2, hst2, hhl2, hbl2, hkl2, hpl2, hoffo, hm2⟩ F₂ N₂
      have hjn : j < 5 := by
        rcases Nat.lt_or_ge j ns.length with q | q
        · omega
        · rw [List.getElem?_eq_none q] at hjb; cases hjb
      have hbb := hb behind (List.mem_of_getElem? hjb)
      rw [map_but2 hm2] at F₂
      subst hm9
      simp only [List.cons_append, List.nil_append] at N₂
      clear FC NC FD N₁
      show wpAny (model prog w) _ _ _ _ _
      k_fold
      repeat' ((fail_if_success (with_reducible show wpAny _ _ (call (Value.ref 321) _) _ _ _)); first | (k_unfold; (try dsimp only)) | walk1 | (dsimp only; walk1))
      · (rename ahead ≠ behind => hne)
        (rename Fr _ _ _ _ => F3)
        (rename News _ _ _ _ => N3)
        have hfm := fmod_off hsz hba hbb hne
        have hwl : (wordF [(behind - ahead).fmod size]).length ≤ 100 := by rw [word_one hfm.1 hfm.2]; decide
        k_dflt refine' word _ _ _ _ _ _ _ _ _ _ _ _ _ _ _ _ _ [(behind - ahead).fmod size] _ _ ?w1 ?w2 ?w3 ?w4 ?w5 ⟨_, (N3 _ (.head _)).1, rfl, _, rfl⟩ ?w7 ?w8 ?w9 ?wa ?_
        case w1 => k_asm
        case w2 => k_asm
        case w3 => k_asm
        case w4 => k_asm
        case w5 => rfl
        case w7 => l_ints
        case w8 => simp
        case w9 => intro n hn; rw [List.mem_singleton.mp hn]; exact hfm
        case wa => ktr_room
        intro t9 h9 tk9 st9
        have F9 := fr_stay F3 st9
        have N9 := news_stay N3 st9
        dsimp only
        k_sweep
        (try k_fold)
        repeat ((fail_if_success (with_reducible show wpAny _ _ (call (Value.ref 161) _) _ _ _)); first | (k_unfold; (try dsimp only)) | walk1 | (dsimp only; walk1))
        (rename _ ∧ _ ∧ _ ∧ _ ∧ _ => l9)
        have NR : News s.heap _ h9 ((lh, W.listOf (ts2.map Value.ref).toArray nl2) :: (x, instObj 171 dx) :: (dx, hdDict w lh tkk) :: (lo, W.listOf (bs2.map Value.bool).toArray nlo2) :: (tp2 ++ own ++ own2)) := fun q hq => by
          rcases List.mem_cons.mp hq with h | hq
          · exact h ▸ N9 _ (.tail _ (.tail _ (.head _)))
          rcases List.mem_cons.mp hq with h | hq
          · exact h ▸ N9 _ (.tail _ (.tail _ (.tail _ (.head _))))
          rcases List.mem_cons.mp hq with h | hq
          · exact h ▸ N9 _ (.tail _ (.tail _ (.tail _ (.tail _ (.head _)))))
          rcases List.mem_cons.mp hq with h | hq
          · exact h ▸ N9 _ (.tail _ (.head _))
          exact N9 _ (.tail _ (.tail _ (.tail _ (.tail _ (.tail _ hq)))))
        have hTR : Tups ((lo, W.listOf (bs2.map Value.bool).toArray nlo2) :: (tp2 ++ own ++ own2)) ts2 hs2 := ⟨hU2.1, fun i t kv a b => let ⟨n, u1, u2, h⟩ := hU2.2 i t kv a b; ⟨n, u1, u2, .tail _ (List.mem_append_left _ (List.mem_append_left _ h))⟩⟩
        have hOR : OwnOff ((lo, W.listOf (bs2.map Value.bool).toArray nlo2) :: (tp2 ++ own ++ own2)) [lh, x, dx] := by
          intro q hq b hb9
          have hb8 : b < lo ∧ b ∈ [lh, x, dx] := ⟨by
            simp only [List.mem_cons, List.not_mem_nil, or_false] at hb9
            rcases hb9 with rfl | rfl | rfl
            · exact hlo.1
            · exact hlo.2.1
            · exact hlo.2.2, hb9⟩
          rcases List.mem_cons.mp hq with h | hq
          · rw [h]; exact Nat.ne_of_gt hb8.1
          rcases List.mem_append.mp hq with hq | hq
          · rcases List.mem_append.mp hq with hq | hq
            · exact Nat.ne_of_gt (Nat.lt_trans hb8.1 (hpl2 q hq))
            · exact hoffo q hq b (by simp only [List.mem_cons, List.not_mem_nil, or_false] at hb9 ⊢; rcases hb9 with h | h | h <;> simp [h])
          · exact hoff2 q hq b (by simp only [List.map_cons, List.mem_cons, List.not_mem_nil, or_false] at hb9 ⊢; rcases hb9 with h | h | h <;> simp [h])
        have hTo : ∀ q ∈ tp2 ++ own ++ own2, q.1 ≠ lo := fun q hq => by
          rcases List.mem_append.mp hq with hq | hq
          · rcases List.mem_append.mp hq with hq | hq
            · exact Nat.ne_of_gt (hpl2 q hq)
            · exact hoffo q hq lo (.head _)
          · exact hoff2 q hq lo (.head _)
        have hbz : (bs2.map Value.bool).toArray.size ≤ 100 := by simp; omega
        refine wpAny_call ?_
        k_dflt refine' hset ?s1 ?s2 ?s3 ?s4 ?s5 NR hTR ?s6 hdx' hxl' hOR ?s7 hwl ?s8 hkl2 ?s9 ?_ ?_
        case s1 => k_asm
        case s2 => k_asm
        case s3 => k_asm
        case s4 => k_asm
        case s5 => rfl
        case s6 => omega
        case s7 => ktr_room
        case s8 => rw [low_word hfm.1 hfm.2]; exact safe_word hfm.1 hfm.2
        case s9 => exact fun _ => ⟨safe_word hfm.1 hfm.2, safe_num hba.1 (by omega)⟩
        · intro v9 t8 h8 tk8 hg8 F8 N8
          dsimp only
          k_sweep
          (try k_fold)
          repeat ((fail_if_success (with_reducible show wpAny _ _ (call (Value.builtin "list.append") _ _) _ _ _)); first | (k_unfold; (try dsimp only)) | walk1 | (dsimp only; walk1))
          (rename Fr _ _ _ _ => F7)
          (rename News _ _ _ _ => N7)
          k_dflt refine' append_K F7 N7 (Upd.tail (Nat.ne_of_lt hlo.1) (Upd.tail (Nat.ne_of_lt hlo.2.1) (Upd.tail (Nat.ne_of_lt hlo.2.2) (Upd.head ?up)))) ?_ ?sz
          case up => exact hTo
          case sz => exact Nat.le_trans hbz (by rw [sizeLine_eq]; decide)
          k_whole
          intro h6 F6 N6
          (try k_sweep)
          (try dsimp only)
          (try k_fold)
          k_steps
          have e9 : (bs2.map Value.bool).toArray.push (Value.bool (v9 == Str.ofString (toString ahead))) = ((bs2 ++ [v9 == Str.ofString (toString ahead)]).map Value.bool).toArray := by simp
          rw [e9] at N6
          refine turnG_intro ((lo, W.listOf ((bs2 ++ [v9 == Str.ofString (toString ahead)]).map Value.bool).toArray (nlo2 + 1)) :: (lh, W.listOf (ts2.map Value.ref).toArray nl2) :: (x, instObj 171 dx) :: (dx, hdDict w lh tkk) :: (tp2 ++ own)) F6 N6 (fun q hq => ?_) (fun q hq => .tail _ (.tail _ (.tail _ (.tail _ (List.mem_append_right _ hq))))) hoff2
            ⟨hs2, bs2 ++ [v9 == Str.ofString (toString ahead)], ts2, tp2, nl2, nlo2 + 1, rfl, hU2, ?_, by omega, by simp; omega, hkl2, hpl2, hoffo, ?_⟩
          · rcases List.mem_cons.mp hq with h | hq
            · exact h ▸ .tail _ (.tail _ (.tail _ (.head _)))
            rcases List.mem_cons.mp hq with h | hq
            · exact h ▸ .head _
            rcases List.mem_cons.mp hq with h | hq
            · exact h ▸ .tail _ (.head _)
            rcases List.mem_cons.mp hq with h | hq
            · exact h ▸ .tail _ (.tail _ (.head _))
            exact .tail _ (.tail _ (.tail _ (.tail _ (List.mem_append_left _ hq))))
          · rw [List.take_add_one, hjb, List.foldl_append, ← hst2]
            simp [bookStep, hne, hg8, strI]
          · intro z hz1 hz2
            simp only [if_neg hz1, if_neg hz2]
        · intro tn n9 u1 u2 h8 tk8 hg8 F8 N8 hltn hatn
          dsimp only
          k_sweep
          (try k_fold)
          repeat ((fail_if_success (with_reducible show wpAny _ _ (call (Value.builtin "list.append") _ _) _ _ _)); first | (k_unfold; (try dsimp only)) | walk1 | (dsimp only; walk1))
          (rename Fr _ _ _ _ => F7)
          (rename News _ _ _ _ => N7)
          have hlotn : lo < tn := hatn _ (.head _)
          k_dflt refine' append_K F7 N7 (Upd.tail (Nat.ne_of_gt hlotn) (Upd.tail (Nat.ne_of_lt hlo.1) (Upd.tail (Nat.ne_of_lt hlo.2.1) (Upd.tail (Nat.ne_of_lt hlo.2.2) (Upd.head ?up))))) ?_ ?sz
          case up => exact hTo
          case sz => exact Nat.le_trans hbz (by rw [sizeLine_eq]; decide)
          k_whole
          intro h6 F6 N6
          (try k_sweep)
          (try dsimp only)
          (try k_fold)
          k_steps
          have e9 : (bs2.map Value.bool).toArray.push (Value.bool (Str.ofString (toString ahead) == Str.ofString (toString ahead))) = ((bs2 ++ [Str.ofString (toString ahead) == Str.ofString (toString ahead)]).map Value.bool).toArray := by simp
          rw [e9] at N6
          have hown : ∀ q ∈ own, q.1 < tn := fun q hq => hatn q (.tail _ (List.mem_append_left _ (List.mem_append_right _ hq)))
          have hown2 : ∀ q ∈ own2, q.1 < tn := fun q hq => hatn q (.tail _ (List.mem_append_right _ hq))
          refine turnG_intro ((lo, W.listOf ((bs2 ++ [Str.ofString (toString ahead) == Str.ofString (toString ahead)]).map Value.bool).toArray (nlo2 + 1)) :: (lh, W.listOf ((ts2 ++ [tn]).map Value.ref).toArray (nl2 + 1)) :: (x, instObj 171 dx) :: (dx, hdDict w lh tkk) :: ((tp2 ++ [(tn, tupObj [.str (wordF [(behind - ahead).fmod size]) u1, .str (Str.ofString (toString ahead)) u2] n9)]) ++ own)) F6 N6 (fun q hq => ?_) (fun q hq => .tail _ (.tail _ (.tail _ (.tail _ (.tail _ (List.mem_append_right _ hq)))))) ?_
            ⟨hs2 ++ [(wordF [(behind - ahead).fmod size], Str.ofString (toString ahead))], bs2 ++ [Str.ofString (toString ahead) == Str.ofString (toString ahead)], ts2 ++ [tn], tp2 ++ [(tn, tupObj [.str (wordF [(behind - ahead).fmod size]) u1, .str (Str.ofString (toString ahead)) u2] n9)], nl2 + 1, nlo2 + 1, rfl, tups_snoc hU2, ?_, by simp; omega, by simp; omega, ?_, ?_, ?_, ?_⟩
          · rcases List.mem_cons.mp hq with h | hq
            · exact h ▸ .tail _ (.tail _ (.tail _ (.tail _ (.head _))))
            rcases List.mem_cons.mp hq with h | hq
            · exact h ▸ .tail _ (.head _)
            rcases List.mem_cons.mp hq with h | hq
            · exact h ▸ .tail _ (.tail _ (.head _))
            rcases List.mem_cons.mp hq with h | hq
            · exact h ▸ .tail _ (.tail _ (.tail _ (.head _)))
            rcases List.mem_append.mp hq with hq | hq
            · rcases List.mem_append.mp hq with hq | hq
              · exact .tail _ (.tail _ (.tail _ (.tail _ (.tail _ (List.mem_append_left _ (List.mem_append_left _ hq))))))
              · rw [List.mem_singleton.mp hq]; exact .head _
            · exact .tail _ (.tail _ (.tail _ (.tail _ (.tail _ (List.mem_append_left _ (List.mem_append_right _ hq))))))
          · intro q hq b hb9
            by_cases hbt : b = tn
            · rw [hbt]; exact Nat.ne_of_lt (hown2 q hq)
            · refine hoff2 q hq b ?_
              simp only [List.map_cons, List.map_append, List.map_nil, List.mem_cons, List.mem_append, List.not_mem_nil, or_false] at hb9 ⊢
              rcases hb9 with h | h | h | h | (h | h) | h
              · exact .inl h
              · exact .inr (.inl h)
              · exact .inr (.inr (.inl h))
              · exact .inr (.inr (.inr (.inl h)))
              · exact .inr (.inr (.inr (.inr (.inl h))))
              · exact absurd h hbt
              · exact .inr (.inr (.inr (.inr (.inr h))))
          · rw [List.take_add_one, hjb, List.foldl_append, ← hst2]
            simp [bookStep, hne, hg8, strI]
          · intro kv hkv
            rcases List.mem_append.mp hkv with h | h
            · exact hkl2 kv h
            · rw [List.mem_singleton.mp h]; exact hwl
          · intro q hq
            rcases List.mem_append.mp hq with h | h
            · exact hpl2 q h
            · rw [List.mem_singleton.mp h]; exact hlotn
          · intro q hq b hb9
            by_cases hbt : b = tn
            · rw [hbt]; exact Nat.ne_of_lt (hown q hq)
            · refine hoffo q hq b ?_
              simp only [List.map_cons, List.map_append, List.map_nil, List.mem_cons, List.mem_append, List.not_mem_nil, or_false] at hb9 ⊢
              rcases hb9 with h | h | h | h | (h | h)
              · exact .inl h
              · exact .inr (.inl h)
              · exact .inr (.inr (.inl h))
              · exact .inr (.inr (.inr (.inl h)))
              · exact .inr (.inr (.inr (.inr h)))
              · exact absurd h hbt
          · intro z hz1 hz2
            simp only [if_neg hz1, if_neg hz2]
      · (rename ahead = behind => heq)
        (rename Fr _ _ _ _ => F9)
        (rename News _ _ _ _ => N9)
        refine turnG_intro ((lo, W.listOf (bs2.map Value.bool).toArray nlo2) :: (lh, W.listOf (ts2.map Value.ref).toArray nl2) :: (x, instObj 171 dx) :: (dx, hdDict w lh tkk) :: (tp2 ++ own)) F9 N9 (fun q hq => List.mem_append_left own2 hq) (fun q hq => .tail _ (.tail _ (.tail _ (.tail _ (List.mem_append_right _ hq))))) hoff2
          ⟨hs2, bs2, ts2, tp2, nl2, nlo2, rfl, hU2, ?_, by omega, by omega, hkl2, hpl2, hoffo, ?_⟩
        · rw [List.take_add_one, hjb, List.foldl_append, ← hst2]
          simp [bookStep, heq]
        · intro z hz1 hz2
          simp only [if_neg hz1, if_neg hz2]
    · rintro m₂ nw h tk ⟨hs2, bs2, ts2, tp2, nl2, nlo2, rfl, hU2, hst2, hhl2, hbl2, hkl2, hpl2, hoffo, hm2⟩ F₂ N₂
      dsimp only at hm2 ⊢
      subst hm9
      rw [map_but2 hm2] at F₂
      clear FC NC FD N₁
      show wpAny (model prog w) _ _ _ _ _
      (try k_fold)
      k_steps
      (rename Fr _ _ _ _ => F9)
      (rename News _ _ _ _ => N9)
      refine turnG_intro ((lo, W.listOf (bs2.map Value.bool).toArray nlo2) :: (lh, W.listOf (ts2.map Value.ref).toArray nl2) :: (x, instObj 171 dx) :: (dx, hdDict w lh tkk) :: tp2) F9 N9 (fun q hq => List.mem_append_left own hq) (fun q hq => .tail _ (.tail _ (.tail _ (.tail _ (List.mem_append_right _ hq))))) (by simpa using hoffo)
        ⟨hs2, bs2, ts2, tp2, nl2, nlo2, rfl, hU2, ?_, by omega, by omega, hkl2, hpl2, ?_⟩
      · rw [List.take_length] at hst2
        rw [hst2, List.take_add_one, hia]
        unfold bookOut at hst ⊢
        rw [List.foldl_append, ← hst]
        rfl
      · intro z hz1 hz2 hz3
        simp only [if_neg hz1, if_neg hz2, if_neg hz3]
  · rintro m₁ nw h tk ⟨hs, bs, ts, tp, nl, nlo, rfl, hU, hst, hhl, hbl, hkl, hpl, hm⟩ F₁ N₁
    dsimp only at hm ⊢
    subst hm0
    rw [map_but3 hm] at F₁
    clear FC NC FD
    show wpAny (model prog w) _ _ _ _ _
    (try k_fold)
    k_steps
    dsimp only
    (try k_unfold)
    (rename Fr _ _ _ _ => F9)
    (rename News _ _ _ _ => N9)
    rw [List.take_length] at hst
    exact hret _ _ _ _ _ _ _ _ _ _ _ _ _ _ _ F9.keep (fun q hq => ⟨(N9 q hq).1, (N9 q hq).2.2⟩) hU hst (by omega) (by omega) hkl hdx' hxl' hlo.1 hpl

end

section

local macro_rules | `(tactic| walk_at "enterC") => `(tactic| (refine' enterC ?k1 ?k2 ?k3 ?k4 ?kA ?kF ?kK ?k6 ?k7 ?k8 ?k9 ?kB ?kD ?_ ?c2 ?c3 ?c4; (case kA => exact rfl); (case kF => exact rfl); (case kK => assumption); (case k1 => k_asm); (case k2 => k_asm); (case k3 => k_asm); (case k4 => k_asm); (case k6 => k_is); (case k7 => k_is); (case k8 => ktr_room); (case k9 => exact BindsTo.of_eq rfl); (case kB => exact rfl); (case kD => decide +kernel); (case c2 => exact rfl); (case c3 => exact rfl); (case c4 => exact rfl); k_whole; intro L' h' tk' cells' F' N' Y' B' X' T' hL'; k_cells Y'; (try simp only [List.cons_append, List.nil_append] at N'); (try dsimp only); (try k_fold)))
local macro_rules | `(tactic| walk_at "enterP") => `(tactic| (refine' enterP ?k1 ?k2 ?k3 ?k4 ?kA ?kF ?kK ?k6 ?k7 ?k8 ?k9 ?kB ?_ ?c2 ?c3 ?c4 ?c5; (case kA => exact rfl); (case kF => exact rfl); (case kK => assumption); (case k1 => k_asm); (case k2 => k_asm); (case k3 => k_asm); (case k4 => k_asm); (case k6 => k_is); (case k7 => k_is); (case k8 => ktr_room); (case k9 => exact BindsTo.of_eq rfl); (case c5 => decide); (case kB => exact locs rfl); (case c2 => exact rfl); (case c3 => exact rfl); (case c4 => exact rfl); k_whole; intro L' h' F' N' B' X' T' hL'; (try dsimp only); (try k_fold)))
local macro_rules | `(tactic| walk_at "m_toComp") => `(tactic| repeat ((fail_if_success (with_reducible show wpAny _ _ (eval (PySem.Expr.ListComp _ _ _ _) _) _ _ _)); first | (k_unfold; (try dsimp only)) | walk1 | (dsimp only; walk1)))
local macro_rules | `(tactic| walk_at "m_toCompCall") => `(tactic| repeat' ((fail_if_success (with_reducible show wpAny _ _ (eval (PySem.Expr.ListComp (PySem.Expr.BinOp (PySem.Expr.Call _ _ _ _) _ _ _) _ _ _) _) _ _ _)); first | (k_unfold; (try dsimp only)) | walk1 | (dsimp only; walk1)))
local macro_rules | `(tactic| walk_at "m_units") => `(tactic| ((try simp only [units_in1, units_deeper, Around.mark_units, units_caller]); (try dsimp only [ktrTop]); omega))
local macro_rules | `(tactic| walk_at "compareOp Eq ref ref") => `(tactic| (k_here; (with_reducible show wpAny _ _ (compareOp CmpOp.Eq (Value.ref _) (Value.ref _)) _ _ _); (with_unfolding_all refine' eq_intsK ?k1 ?k2 ?k3 ?k4 ?k5 ?_; (case k1 => is_list); (case k2 => l_ints); (case k3 => is_list); (case k4 => l_ints); (case k5 => walk_at "m_units"); k_whole)))
local macro_rules | `(tactic| walk_at "compareOp NotEq ref ref") => `(tactic| (k_here; (with_reducible show wpAny _ _ (compareOp CmpOp.NotEq (Value.ref _) (Value.ref _)) _ _ _); (with_unfolding_all refine' ne_intsK ?k1 ?k2 ?k3 ?k4 ?k5 ?_; (case k1 => is_list); (case k2 => l_ints); (case k3 => is_list); (case k4 => l_ints); (case k5 => walk_at "m_units"); k_whole)))
local macro_rules | `(tactic| walk_at "m_toWhile") => `(tactic| repeat' ((fail_if_success (with_reducible show wpAny _ _ (exec (PySem.Stmt.While _ _ _ _) _) _ _ _)); first | (k_unfold; (try dsimp only)) | walk1 | (dsimp only; walk1)))
local macro_rules | `(tactic| walk_at "m_toFor") => `(tactic| repeat' ((fail_if_success (with_reducible show wpAny _ _ (exec (PySem.Stmt.For _ _ _ _ _) _) _ _ _)); first | (k_unfold; (try dsimp only)) | walk1 | (dsimp only; walk1)))
local macro_rules | `(tactic| walk_at "enterD") => `(tactic| (refine' code_defG ?k1 ?k2 ?k3 ?k4 ?k5 ?kA ?kF ?kK ?k6 ?k7 ?k8 ?k9 ?kB ?_ ?c2 ?c3 ?c4 ?c5; (case kA => exact rfl); (case kF => exact rfl); (case kK => first | exact rfl | assumption); (case k1 => k_asm); (case k2 => k_asm); (case k3 => k_asm); (case k4 => k_asm); (case k5 => k_asm); (case k6 => k_is); (case k7 => k_is); (case k8 => ktr_room); (case k9 => first | exact BindsTo.of_eq rfl | exact binds_K (by k_in) rfl (by k_is) rfl rfl rfl); (case c5 => decide); (case kB => exact locs rfl); (case c2 => exact rfl); (case c3 => exact rfl); (case c4 => exact rfl); k_whole; intro g' L' h' FG' F' N' B' X' T' kG'; (try dsimp only); (try k_fold)))

local macro_rules | `(tactic| walk_at "m_post") => `(tactic| (intro t9 h9 tk9 st9; (have F9 := fr_stay (by assumption) st9); (have N9 := news_stay (by assumption) st9); (try have kE9 := elt_stay (by assumption) st9); (try dsimp only); k_sweep; (try k_fold)))
local macro_rules | `(tactic| walk_at "call ref") => `(tactic| (k_here; (with_reducible show wpAny _ _ (call (Value.ref _) [Value.int _ _, Value.int _ _]) _ _ _); k_dflt (first
  | (refine' opSub ?k1 ?k2 ?k3 ?k4 ?k5 ?k6 ?_; (case k1 => k_asm); (case k2 => k_asm); (case k3 => k_asm); (case k4 => k_asm); (case k5 => first | exact rfl | assumption); (case k6 => ktr_room))
  | (refine' opAdd ?k1 ?k2 ?k3 ?k4 ?k5 ?k6 ?_; (case k1 => k_asm); (case k2 => k_asm); (case k3 => k_asm); (case k4 => k_asm); (case k5 => first | exact rfl | assumption); (case k6 => ktr_room))
  | (refine' opMod ?k1 ?k2 ?k3 ?k4 ?k5 ?k6 ?k7 ?_; (case k1 => k_asm); (case k2 => k_asm); (case k3 => k_asm); (case k4 => k_asm); (case k5 => first | exact rfl | assumption); (case k6 => ktr_room); (case k7 => omega))
  | (refine' opMul ?k1 ?k2 ?k3 ?k4 ?k5 ?k6 ?k7 ?k8 ?_; (case k1 => k_asm); (case k2 => k_asm); (case k3 => k_asm); (case k4 => k_asm); (case k5 => first | exact rfl | assumption); (case k6 => ktr_room); (case k7 => omega); (case k8 => omega))); walk_at "m_post"))

def containsF (x y : Str) : Bool := !(Builtin.Str.occurrences x y 0 x.length 1).isEmpty
section
variable {prog : Program} {w : World} {p : Program} {loose : List Str} {mean : ExcName → Option Value} {mg mb : Str → Option Value} {dp un : Nat} {gd : Option (List Code)} {cn : Str} {cs : Scope} {a : Addr} {ccd : Value} {cl : List (Str × Addr)} {outer : List Env} {A₀ : Around} {base h₀ : Heap} {L : Addr} {m : Str → Option Value} {s : Shared} {x y : Str} {t1 t2 : Tok} {Q E : Value → Shared → Prop}
theorem opContains (B : Below A₀ base outer h₀) (F : Fr h₀ L s.heap m) (X : (Kf w.params).In h₀) (T : Top p loose mean mg mb h₀) (hk : cs.kind = .function) (hdp : dp + 1 < recursionLimit) (hx : x.length ≤ 100) (hy : y.length ≤ 100) (hret : ∀ h' tk', s.heap.StaysIn h' → Q (.bool (containsF x y)) { s with heap := h', toks := tk' }) :
  wpAny (model prog w) (ktrTop dp un gd cn cs L a ccd cl outer) (call (.ref 217) [.str x t1, .str y t2]) Q E s := by
  refine wpAny_call ?_
  k_dflt walk_at "enterP"
  k_steps
  dsimp only
  (try k_unfold)
  (rename Fr _ _ _ _ => F9)
  exact hret _ _ F9.keep
end

end

section

local macro_rules | `(tactic| walk_at "enterC") => `(tactic| (refine' enterC ?k1 ?k2 ?k3 ?k4 ?kA ?kF ?kK ?k6 ?k7 ?k8 ?k9 ?kB ?kD ?_ ?c2 ?c3 ?c4; (case kA => exact rfl); (case kF => exact rfl); (case kK => assumption); (case k1 => k_asm); (case k2 => k_asm); (case k3 => k_asm); (case k4 => k_asm); (case k6 => k_is); (case k7 => k_is); (case k8 => ktr_room); (case k9 => exact BindsTo.of_eq rfl); (case kB => exact rfl); (case kD => decide +kernel); (case c2 => exact rfl); (case c3 => exact rfl); (case c4 => exact rfl); k_whole; intro L' h' tk' cells' F' N' Y' B' X' T' hL'; k_cells Y'; (try simp only [List.cons_append, List.nil_append] at N'); (try dsimp only); (try k_fold)))
local macro_rules | `(tactic| walk_at "enterP") => `(tactic| (refine' enterP ?k1 ?k2 ?k3 ?k4 ?kA ?kF ?kK ?k6 ?k7 ?k8 ?k9 ?kB ?_ ?c2 ?c3 ?c4 ?c5; (case kA => exact rfl); (case kF => exact rfl); (case kK => assumption); (case k1 => k_asm); (case k2 => k_asm); (case k3 => k_asm); (case k4 => k_asm); (case k6 => k_is); (case k7 => k_is); (case k8 => ktr_room); (case k9 => exact BindsTo.of_eq rfl); (case c5 => decide); (case kB => exact locs rfl); (case c2 => exact rfl); (case c3 => exact rfl); (case c4 => exact rfl); k_whole; intro L' h' F' N' B' X' T' hL'; (try dsimp only); (try k_fold)))
local macro_rules | `(tactic| walk_at "m_toComp") => `(tactic| repeat ((fail_if_success (with_reducible show wpAny _ _ (eval (PySem.Expr.ListComp _ _ _ _) _) _ _ _)); first | (k_unfold; (try dsimp only)) | walk1 | (dsimp only; walk1)))
local macro_rules | `(tactic| walk_at "m_toCompCall") => `(tactic| repeat' ((fail_if_success (with_reducible show wpAny _ _ (eval (PySem.Expr.ListComp (PySem.Expr.BinOp (PySem.Expr.Call _ _ _ _) _ _ _) _ _ _) _) _ _ _)); first | (k_unfold; (try dsimp only)) | walk1 | (dsimp only; walk1)))
local macro_rules | `(tactic| walk_at "m_units") => `(tactic| ((try simp only [units_in1, units_deeper, Around.mark_units, units_caller]); (try dsimp only [ktrTop]); omega))
local macro_rules | `(tactic| walk_at "compareOp Eq ref ref") => `(tactic| (k_here; (with_reducible show wpAny _ _ (compareOp CmpOp.Eq (Value.ref _) (Value.ref _)) _ _ _); (with_unfolding_all refine' eq_intsK ?k1 ?k2 ?k3 ?k4 ?k5 ?_; (case k1 => is_list); (case k2 => l_ints); (case k3 => is_list); (case k4 => l_ints); (case k5 => walk_at "m_units"); k_whole)))
local macro_rules | `(tactic| walk_at "compareOp NotEq ref ref") => `(tactic| (k_here; (with_reducible show wpAny _ _ (compareOp CmpOp.NotEq (Value.ref _) (Value.ref _)) _ _ _); (with_unfolding_all refine' ne_intsK ?k1 ?k2 ?k3 ?k4 ?k5 ?_; (case k1 => is_list); (case k2 => l_ints); (case k3 => is_list); (case k4 => l_ints); (case k5 => walk_at "m_units"); k_whole)))
local macro_rules | `(tactic| walk_at "m_toWhile") => `(tactic| repeat' ((fail_if_success (with_reducible show wpAny _ _ (exec (PySem.Stmt.While _ _ _ _) _) _ _ _)); first | (k_unfold; (try dsimp only)) | walk1 | (dsimp only; walk1)))
local macro_rules | `(tactic| walk_at "m_toFor") => `(tactic| repeat' ((fail_if_success (with_reducible show wpAny _ _ (exec (PySem.Stmt.For _ _ _ _ _) _) _ _ _)); first | (k_unfold; (try dsimp only)) | walk1 | (dsimp only; walk1)))
local macro_rules | `(tactic| walk_at "enterD") => `(tactic| (refine' code_defG ?k1 ?k2 ?k3 ?k4 ?k5 ?kA ?kF ?kK ?k6 ?k7 ?k8 ?k9 ?kB ?_ ?c2 ?c3 ?c4 ?c5; (case kA => exact rfl); (case kF => exact rfl); (case kK => first | exact rfl | assumption); (case k1 => k_asm); (case k2 => k_asm); (case k3 => k_asm); (case k4 => k_asm); (case k5 => k_asm); (case k6 => k_is); (case k7 => k_is); (case k8 => ktr_room); (case k9 => first | exact BindsTo.of_eq rfl | exact binds_K (by k_in) rfl (by k_is) rfl rfl rfl); (case c5 => decide); (case kB => exact locs rfl); (case c2 => exact rfl); (case c3 => exact rfl); (case c4 => exact rfl); k_whole; intro g' L' h' FG' F' N' B' X' T' kG'; (try dsimp only); (try k_fold)))

local macro_rules | `(tactic| walk_at "m_post") => `(tactic| (intro t9 h9 tk9 st9; (have F9 := fr_stay (by assumption) st9); (have N9 := news_stay (by assumption) st9); (try have kE9 := elt_stay (by assumption) st9); (try dsimp only); k_sweep; (try k_fold)))
local macro_rules | `(tactic| walk_at "call ref") => `(tactic| (k_here; (with_reducible show wpAny _ _ (call (Value.ref _) [Value.int _ _, Value.int _ _]) _ _ _); k_dflt (first
  | (refine' opSub ?k1 ?k2 ?k3 ?k4 ?k5 ?k6 ?_; (case k1 => k_asm); (case k2 => k_asm); (case k3 => k_asm); (case k4 => k_asm); (case k5 => first | exact rfl | assumption); (case k6 => ktr_room))
  | (refine' opAdd ?k1 ?k2 ?k3 ?k4 ?k5 ?k6 ?_; (case k1 => k_asm); (case k2 => k_asm); (case k3 => k_asm); (case k4 => k_asm); (case k5 => first | exact rfl | assumption); (case k6 => ktr_room))
  | (refine' opMod ?k1 ?k2 ?k3 ?k4 ?k5 ?k6 ?k7 ?_; (case k1 => k_asm); (case k2 => k_asm); (case k3 => k_asm); (case k4 => k_asm); (case k5 => first | exact rfl | assumption); (case k6 => ktr_room); (case k7 => omega))
  | (refine' opMul ?k1 ?k2 ?k3 ?k4 ?k5 ?k6 ?k7 ?k8 ?_; (case k1 => k_asm); (case k2 => k_asm); (case k3 => k_asm); (case k4 => k_asm); (case k5 => first | exact rfl | assumption); (case k6 => ktr_room); (case k7 => omega); (case k8 => omega))); walk_at "m_post"))

local macro_rules | `(tactic| walk_at "m_mems") => `(tactic| (repeat' (first | exact List.forall_mem_nil _ | (refine List.forall_mem_cons.mpr ⟨by k_mem, ?_⟩))))
local macro_rules | `(tactic| walk_at "m_own") => `(tactic| (intro p9 hp9; (repeat' (first | exact hp9 | refine List.Mem.tail _ ?_))))

local macro_rules | `(tactic| k_room) => `(tactic| ktr_room)
theorem hkeys {prog : Program} {w : World} {p : Program} {loose : List Str} {mean : ExcName → Option Value} {mg mb : Str → Option Value}
  {dp un : Nat} {gd : Option (List Code)} {cn : Str} {cs : Scope} {a : Addr} {ccd : Value} {cl : List (Str × Addr)} {outer : List Env} {A₀ : Around} {base h₀ : Heap} {L : Addr} {m : Str → Option Value} {s : Shared}
  {x dx lh : Addr} {tkk : Tok} {ts : List Addr} {nl : Nat} {hs : List (Str × Str)} {news : List (Addr × Obj)}
  {R : Result → Shared → Prop}
  (B : Below A₀ base outer h₀) (F : Fr h₀ L s.heap m) (X : (Kf w.params).In h₀) (T : Top p loose mean mg mb h₀) (hk : cs.kind = .function)
  (N : News h₀ L s.heap ((lh, W.listOf (ts.map Value.ref).toArray nl) :: (x, instObj 171 dx) :: (dx, hdDict w lh tkk) :: news)) (U : Tups news ts hs) (hlen : hs.length ≤ 100)
  (hdp : dp + 20 < recursionLimit)
  (hret : ∀ D ys n h' tk', List.length ys = hs.length → Fr h₀ L h' m → News h₀ L h' ((D, W.listOf ys.toArray n) :: (lh, W.listOf (ts.map Value.ref).toArray nl) :: (x, instObj 171 dx) :: (dx, hdDict w lh tkk) :: news) → R (.ok (.ret (.ref D))) { s with heap := h', toks := tk' }) :
  codeAny (model prog w) (ktrTop dp un gd cn cs L a ccd cl outer) (.call (.ref 123) ⟨[.ref x], []⟩) R s := by
  k_dflt walk_at "enterD"
  walk_at "m_toComp"
  refine compPairs (by with_unfolding_all rfl) (by decide) (by rfl) (by decide) (by rfl) (by rfl) (by decide) ?_
  k_fold
  k_steps
  show wpAny (model prog w) _ (pyIter _) _ _ _
  (rename Fr _ _ _ _ => zF)
  (rename News _ _ _ _ => zN)
  have hll : _root_.PySem.Heap.IsList _ lh (ts.map Value.ref).toArray := ⟨_, (zN _ (.head _)).1, rfl, _, rfl⟩
  have hsk : ∀ j : Nat, ∃ v : Array Value, (j < ts.length → ∃ n k u1 v' u2, (ts.getD j 0, ({ cls := .type "tuple", data := .seq v n } : Obj)) ∈ news ∧ v = #[Value.str k u1, Value.str v' u2]) ∧ ∃ y z, v = #[y, z] := fun j => by
    rcases Nat.lt_or_ge j ts.length with q | q
    · obtain ⟨n, u1, u2, hm⟩ := U.2 j ts[j] (hs[j]'(U.1 ▸ q)) (List.getElem?_eq_getElem q) (List.getElem?_eq_getElem (U.1 ▸ q))
      exact ⟨#[Value.str (hs[j]'(U.1 ▸ q)).1 u1, Value.str (hs[j]'(U.1 ▸ q)).2 u2], fun _ => ⟨n, _, u1, _, u2, by rw [List.getD_eq_getElem?_getD, List.getElem?_eq_getElem q]; exact hm, rfl⟩, _, _, rfl⟩
    · exact ⟨#[.none, .none], fun h => absurd h (Nat.not_lt.mpr q), _, _, rfl⟩
  obtain ⟨vals, hvals0⟩ := Classical.skolem.mp hsk
  have hvals := fun j => (hvals0 j).1
  refine wpAny_pyIter_list hll ?_
  (rename Heap => h5)
  have hTn : ∀ j, j < ts.length → ∃ o, h5.get? (ts.getD j 0) = some o := fun j hj => by
    obtain ⟨n, _, _, _, _, hm, _⟩ := hvals j hj
    exact ⟨_, (zN _ (.tail _ (.tail _ (.tail _ hm)))).1⟩
  have up : ∀ b o, h5.get? b = some o → (h5.push { cls := .type "list_iterator", data := .fields #[.ref lh, .int 0 0] }).get? b = some o := fun b o e => Heap.get?_push_of_some _ e
  have hsz5 : (h5.push { cls := .type "list_iterator", data := .fields #[.ref lh, .int 0 0] }).objs.size = h5.objs.size + 1 := Heap.size_push ..
  have hgz : _ ≤ h5.objs.size := Nat.le_trans zF.above (Nat.le_of_lt zF.ns.lt)
  refine ⟨h5.objs.size, _, [h5.objs.size], (ts.map Value.ref).toArray.size, _, _, _, (fun _ _ => True), rfl, rfl, WalksU.listOfTuples rfl h5.objs.size lh (Nat.ne_of_lt (Heap.lt_size (zN _ (.head _)).1)) _ (fun j => ts.getD j 0) vals ?hit ?hTI, ⟨⟨_, Heap.get?_push_size _ rfl, rfl, rfl⟩, hll.push _, ?tup⟩, ?fpz, ?szz, ?two, ?elt, ?fin⟩
  case hit =>
    intro j hj
    have hj' : j < ts.length := by simpa using hj
    simp [hj']
  case hTI =>
    intro j hj
    obtain ⟨o, e⟩ := hTn j (by simpa using hj)
    exact Nat.ne_of_lt (Heap.lt_size e)
  case tup =>
    intro j hj
    obtain ⟨n, _, _, _, _, hm, _⟩ := hvals j (by simpa using hj)
    exact ⟨_, up _ _ (zN _ (.tail _ (.tail _ (.tail _ hm)))).1, rfl, n, rfl⟩
  case fpz =>
    intro b hb
    show b < (h5.push _).objs.size
    rw [hsz5]
    rcases List.mem_cons.mp hb with h | hb
    · rw [h]; exact Nat.lt_succ_self _
    rcases List.mem_cons.mp hb with h | hb
    · rw [h]; exact Nat.lt_succ_of_lt (Heap.lt_size (zN _ (.head _)).1)
    obtain ⟨j, hj, rfl⟩ := List.mem_map.mp hb
    obtain ⟨o, e⟩ := hTn j (by simpa using List.mem_range.mp hj)
    exact Nat.lt_succ_of_lt (Heap.lt_size e)
  case szz => simp [U.1]; rw [sizeLine_eq]; omega
  case two =>
    intro i v hv
    obtain ⟨y, z, e⟩ := (hvals0 i).2
    exact ⟨y, z, hv.trans e⟩
  case elt =>
    intro i va vb C m₂ h tk2 E' hi2 hP hkeep hC hns hma hmb
    rw [eval_Name _ _ _ (by decide)]
    refine wpAny_bind (wpAny_standAt (wpAny_loadName_local (by rfl) (by rfl) hns hma ?_))
    exact ⟨trivial, _, _, rfl, fun _ _ e => e⟩
  case fin =>
    intro D ys h tk2 hln hG hkeep hD hDs
    have st : h5.StaysIn h := fun b o e => hkeep b o (by rw [List.mem_singleton]; exact Nat.ne_of_lt (Heap.lt_size e)) (up b o e)
    have hDs2 : h5.objs.size ≤ D := Nat.le_of_lt (by have : (h5.push _).objs.size ≤ D := hDs; rw [hsz5] at this; exact this)
    have F9 := fr_stay zF st
    have N9 := news_more zF zN st hD (get_new hDs2)
    refine leaveK_ F9 N9 fun Fq Nq => hret D ys _ _ _ ?_ Fq Nq
    rw [hln]; simp [U.1]

end

section

-- nofill
section
variable {prog : Program} {w : World} {A : Around} {E : Value → Shared → Prop} {s : Shared} {env : Env} {h₀ : Heap} {target : Expr} {body : List Stmt} {Q : Flow → Shared → Prop}
/-- a for over a text (ascii), its ledger may grow -/
theorem strG {x : Str} {tx : Tok} {m₀ : Str → Option Value} {news : List (Addr × Obj)} (J : Nat → (Str → Option Value) → List (Addr × Obj) → Prop)
    (hh : A.handled = none) (ht : ∀ it v, letOwnedTupleGo target it v = pure ()) (ha : x.cps.all (· < 128) = true) (F : Fr h₀ env.locals s.heap m₀) (N : News h₀ env.locals s.heap news) (hj : J 0 m₀ news) (hE : PassesOwn (model prog w) A env E)
    (turn : ∀ i c t m₁ news₁ h₁ tk₁ own, x.cps[i]? = some c → OwnOff own (news₁.map (·.1)) → J i m₁ news₁ → Fr h₀ env.locals h₁ m₁ → News h₀ env.locals h₁ (news₁ ++ own) →
      wpAny (model prog w) A (assign target env (.str ⟨#[c]⟩ t)) (fun _ s₃ => wpAny (model prog w) A (execs body env) (TurnG h₀ env.locals (J (i + 1)) own { s with heap := h₁, toks := tk₁ }) E s₃) E { s with heap := h₁, toks := tk₁ })
    (done : ∀ m₁ news₁ h tk, J x.cps.size m₁ news₁ → Fr h₀ env.locals h m₁ → News h₀ env.locals h news₁ → Q .next { s with heap := h, toks := tk }) :
    wpAny (model prog w) A (pyIter (.str x tx)) (fun it s₂ => codeAny (model prog w) A (.forLoop target it body [] env) (fun r s' => match r with | .ok f => Q f s' | .error e => cameBackBy (model prog w) A env E e s') s₂) E s := by
  refine wpAny_pyIter_ascii ha ?_
  have hIL : env.locals ≠ s.heap.objs.size := Nat.ne_of_lt F.ns.lt
  have hn0 : ∀ p ∈ news, p.1 ≠ s.heap.objs.size := fun p hp => Nat.ne_of_lt (Heap.lt_size (N p hp).1)
  obtain ⟨I, hI⟩ : ∃ I, I = s.heap.objs.size := ⟨_, rfl⟩
  have hI0 : h₀.get? I = none := by rw [hI]; exact next_is_new F
  have hst0 := fun o e0 e1 e2 => (show (s.heap.push o).IsStrIter I "str_ascii_iterator" x tx 0 from by rw [hI]; exact ⟨_, Heap.get?_push_size _ e0, e1, e2⟩)
  rw [← hI] at hIL hn0 ⊢
  have W := Walks.strAscii (prog := prog) (w := w) hh I x tx
  refine codeAny_forLoop_any (fun k s' => ∃ i h' tk m' nx, s' = { s with heap := h', toks := tk } ∧ i ≤ x.cps.size ∧ k = x.cps.size + 1 - i ∧ h'.IsStrIter I "str_ascii_iterator" x tx i ∧ Fr h₀ env.locals h' m' ∧ News h₀ env.locals h' nx ∧ (∀ p ∈ nx, p.1 ≠ I) ∧ J i m' nx) ?_ (x.cps.size + 1)
    ⟨0, _, _, m₀, news, rfl, Nat.zero_le _, rfl, hst0 _ rfl rfl rfl, F.push _, fun p hp => ⟨Heap.get?_push_of_some _ (N p hp).1, (N p hp).2⟩, hn0, hj⟩
  rintro k s' ⟨i, h', tk, m', nx, rfl, hin, rfl, hit, F', N', hnI, hJ⟩
  have next : ∀ h₁ : Heap, (∀ b o, b ∉ [I] → h'.get? b = some o → h₁.get? b = some o) → Fr h₀ env.locals h₁ m' ∧ News h₀ env.locals h₁ nx := fun h₁ hk₁ =>
    ⟨⟨F'.ns.at' fun o e => hk₁ _ o (by simpa using hIL) e, fun b o e => hk₁ b o (fun q => by rw [List.mem_singleton] at q; rw [q, hI0] at e; cases e) (F'.keep b o e), F'.above⟩,
      fun p hp => ⟨hk₁ _ _ (by simpa using hnI p hp) (N' p hp).1, (N' p hp).2⟩⟩
  by_cases hlt : i < x.cps.size
  · refine W.item i _ _ _ hlt hit fun v h₁ tk₁ hP hst₁ hk₁ => ?_
    obtain ⟨F₁, N₁⟩ := next h₁ hk₁
    obtain ⟨o, eo, ro⟩ := id hst₁
    obtain ⟨c, t, hk, rfl⟩ := hP
    have N₂ : News h₀ env.locals h₁ (nx ++ [(I, o)]) := fun p hp => (List.mem_append.mp hp).elim (fun q => N₁ p q) fun q => by rw [List.mem_singleton.mp q]; exact ⟨eo, Ne.symm hIL, hI0⟩
    have hoff : OwnOff [(I, o)] (nx.map (·.1)) := by
      intro p hp b hb e
      obtain ⟨q, hq, rfl⟩ := List.mem_map.mp hb
      rw [List.mem_singleton.mp hp] at e
      exact hnI q hq e.symm
    refine wpAny_of_eq (ht _ _) ?_
    refine wpAny_mono (turn i c t m' nx h₁ tk₁ [(I, o)] hk hoff hJ F₁ N₂) (fun _ s₂ h₂ => wpAny_mono h₂ (fun f s₃ h₃ => ?_) hE) hE
    obtain ⟨rfl, h₃', tk₃, m₃, all, nx', rfl, F₃, N₃, hx, ho, hoff', hJ₃⟩ := h₃
    have hI3 := (N₃ _ (ho _ (List.mem_singleton.mpr rfl))).1
    refine ⟨x.cps.size + 1 - (i + 1), by omega, i + 1, h₃', tk₃, m₃, nx', rfl, hlt, rfl, ⟨o, hI3, ro⟩, F₃, fun p hp => N₃ p (hx p hp), fun p hp e => ?_, hJ₃⟩
    exact hoff' (I, o) (List.mem_singleton.mpr rfl) p.1 (List.mem_map.mpr ⟨p, hp, rfl⟩) e.symm
  · have hin2 : i = x.cps.size := by omega
    subst hin2
    refine W.done _ _ _ hit fun h₁ tk₁ hk₁ => wpAny_execs_nil ?_
    obtain ⟨F₁, N₁⟩ := next h₁ hk₁
    exact done m' nx h₁ tk₁ hJ F₁ N₁
end

end

section

local macro_rules | `(tactic| walk_at "enterC") => `(tactic| (refine' enterC ?k1 ?k2 ?k3 ?k4 ?kA ?kF ?kK ?k6 ?k7 ?k8 ?k9 ?kB ?kD ?_ ?c2 ?c3 ?c4; (case kA => exact rfl); (case kF => exact rfl); (case kK => assumption); (case k1 => k_asm); (case k2 => k_asm); (case k3 => k_asm); (case k4 => k_asm); (case k6 => k_is); (case k7 => k_is); (case k8 => ktr_room); (case k9 => exact BindsTo.of_eq rfl); (case kB => exact rfl); (case kD => decide +kernel); (case c2 => exact rfl); (case c3 => exact rfl); (case c4 => exact rfl); k_whole; intro L' h' tk' cells' F' N' Y' B' X' T' hL'; k_cells Y'; (try simp only [List.cons_append, List.nil_append] at N'); (try dsimp only); (try k_fold)))
local macro_rules | `(tactic| walk_at "enterP") => `(tactic| (refine' enterP ?k1 ?k2 ?k3 ?k4 ?kA ?kF ?kK ?k6 ?k7 ?k8 ?k9 ?kB ?_ ?c2 ?c3 ?c4 ?c5; (case kA => exact rfl); (case kF => exact rfl); (case kK => assumption); (case k1 => k_asm); (case k2 => k_asm); (case k3 => k_asm); (case k4 => k_asm); (case k6 => k_is); (case k7 => k_is); (case k8 => ktr_room); (case k9 => exact BindsTo.of_eq rfl); (case c5 => decide); (case kB => exact locs rfl); (case c2 => exact rfl); (case c3 => exact rfl); (case c4 => exact rfl); k_whole; intro L' h' F' N' B' X' T' hL'; (try dsimp only); (try k_fold)))
local macro_rules | `(tactic| walk_at "m_toComp") => `(tactic| repeat ((fail_if_success (with_reducible show wpAny _ _ (eval (PySem.Expr.ListComp _ _ _ _) _) _ _ _)); first | (k_unfold; (try dsimp only)) | walk1 | (dsimp only; walk1)))
local macro_rules | `(tactic| walk_at "m_toCompCall") => `(tactic| repeat' ((fail_if_success (with_reducible show wpAny _ _ (eval (PySem.Expr.ListComp (PySem.Expr.BinOp (PySem.Expr.Call _ _ _ _) _ _ _) _ _ _) _) _ _ _)); first | (k_unfold; (try dsimp only)) | walk1 | (dsimp only; walk1)))
local macro_rules | `(tactic| walk_at "m_units") => `(tactic| ((try simp only [units_in1, units_deeper, Around.mark_units, units_caller]); (try dsimp only [ktrTop]); omega))
local macro_rules | `(tactic| walk_at "compareOp Eq ref ref") => `(tactic| (k_here; (with_reducible show wpAny _ _ (compareOp CmpOp.Eq (Value.ref _) (Value.ref _)) _ _ _); (with_unfolding_all refine' eq_intsK ?k1 ?k2 ?k3 ?k4 ?k5 ?_; (case k1 => is_list); (case k2 => l_ints); (case k3 => is_list); (case k4 => l_ints); (case k5 => walk_at "m_units"); k_whole)))
local macro_rules | `(tactic| walk_at "compareOp NotEq ref ref") => `(tactic| (k_here; (with_reducible show wpAny _ _ (compareOp CmpOp.NotEq (Value.ref _) (Value.ref _)) _ _ _); (with_unfolding_all refine' ne_intsK ?k1 ?k2 ?k3 ?k4 ?k5 ?_; (case k1 => is_list); (case k2 => l_ints); (case k3 => is_list); (case k4 => l_ints); (case k5 => walk_at "m_units"); k_whole)))
local macro_rules | `(tactic| walk_at "m_toWhile") => `(tactic| repeat' ((fail_if_success (with_reducible show wpAny _ _ (exec (PySem.Stmt.While _ _ _ _) _) _ _ _)); first | (k_unfold; (try dsimp only)) | walk1 | (dsimp only; walk1)))
local macro_rules | `(tactic| walk_at "m_toFor") => `(tactic| repeat' ((fail_if_success (with_reducible show wpAny _ _ (exec (PySem.Stmt.For _ _ _ _ _) _) _ _ _)); first | (k_unfold; (try dsimp only)) | walk1 | (dsimp only; walk1)))
local macro_rules | `(tactic| walk_at "enterD") => `(tactic| (refine' code_defG ?k1 ?k2 ?k3 ?k4 ?k5 ?kA ?kF ?kK ?k6 ?k7 ?k8 ?k9 ?kB ?_ ?c2 ?c3 ?c4 ?c5; (case kA => exact rfl); (case kF => exact rfl); (case kK => first | exact rfl | assumption); (case k1 => k_asm); (case k2 => k_asm); (case k3 => k_asm); (case k4 => k_asm); (case k5 => k_asm); (case k6 => k_is); (case k7 => k_is); (case k8 => ktr_room); (case k9 => first | exact BindsTo.of_eq rfl | exact binds_K (by k_in) rfl (by k_is) rfl rfl rfl); (case c5 => decide); (case kB => exact locs rfl); (case c2 => exact rfl); (case c3 => exact rfl); (case c4 => exact rfl); k_whole; intro g' L' h' FG' F' N' B' X' T' kG'; (try dsimp only); (try k_fold)))

local macro_rules | `(tactic| walk_at "m_post") => `(tactic| (intro t9 h9 tk9 st9; (have F9 := fr_stay (by assumption) st9); (have N9 := news_stay (by assumption) st9); (try have kE9 := elt_stay (by assumption) st9); (try dsimp only); k_sweep; (try k_fold)))
local macro_rules | `(tactic| walk_at "call ref") => `(tactic| (k_here; (with_reducible show wpAny _ _ (call (Value.ref _) [Value.int _ _, Value.int _ _]) _ _ _); k_dflt (first
  | (refine' opSub ?k1 ?k2 ?k3 ?k4 ?k5 ?k6 ?_; (case k1 => k_asm); (case k2 => k_asm); (case k3 => k_asm); (case k4 => k_asm); (case k5 => first | exact rfl | assumption); (case k6 => ktr_room))
  | (refine' opAdd ?k1 ?k2 ?k3 ?k4 ?k5 ?k6 ?_; (case k1 => k_asm); (case k2 => k_asm); (case k3 => k_asm); (case k4 => k_asm); (case k5 => first | exact rfl | assumption); (case k6 => ktr_room))
  | (refine' opMod ?k1 ?k2 ?k3 ?k4 ?k5 ?k6 ?k7 ?_; (case k1 => k_asm); (case k2 => k_asm); (case k3 => k_asm); (case k4 => k_asm); (case k5 => first | exact rfl | assumption); (case k6 => ktr_room); (case k7 => omega))
  | (refine' opMul ?k1 ?k2 ?k3 ?k4 ?k5 ?k6 ?k7 ?k8 ?_; (case k1 => k_asm); (case k2 => k_asm); (case k3 => k_asm); (case k4 => k_asm); (case k5 => first | exact rfl | assumption); (case k6 => ktr_room); (case k7 => omega); (case k8 => omega))); walk_at "m_post"))

local macro_rules | `(tactic| walk_at "m_mems") => `(tactic| (repeat' (first | exact List.forall_mem_nil _ | (refine List.forall_mem_cons.mpr ⟨by k_mem, ?_⟩))))
local macro_rules | `(tactic| walk_at "m_own") => `(tactic| (intro p9 hp9; (repeat' (first | exact hp9 | refine List.Mem.tail _ ?_))))

local macro_rules | `(tactic| k_room) => `(tactic| ktr_room)
/-- one sign of a lead: the counts so far, the blanks at hand -/
def wsStep (st : List Int × Nat) (c : Nat) : List Int × Nat :=
  if c = 32 then (st.1, st.2 + 1)
  else
    let l := if st.1.length ≤ st.2 then st.1 ++ List.replicate (st.2 - st.1.length + 1) 0 else st.1
    (l.set st.2 (l.getD st.2 0 + 1), 0)
def wsF (x : Str) : List Int × Nat := x.cps.toList.foldl wsStep ([], 0)

abbrev wsDict (w : World) (x : Str) (tx : Tok) (nn nt : Int) (tn : Addr) (sm : Bool) (k1 k2 k3 k4 k5 t2 t3 : Tok) : Obj := dictOf
  [{ hash := PyData.keyHash w.params (Str.ofString "raw"), key := Value.str (Str.ofString "raw") k1, val := Value.str x tx },
   { hash := PyData.keyHash w.params (Str.ofString "n"), key := Value.str (Str.ofString "n") k2, val := Value.int nn t2 },
   { hash := PyData.keyHash w.params (Str.ofString "nt"), key := Value.str (Str.ofString "nt") k3, val := Value.int nt t3 },
   { hash := PyData.keyHash w.params (Str.ofString "norm"), key := Value.str (Str.ofString "norm") k4, val := Value.ref tn },
   { hash := PyData.keyHash w.params (Str.ofString "is_simple"), key := Value.str (Str.ofString "is_simple") k5, val := Value.bool sm }] 5

theorem map_but5 {x y v a b : Str} {m₁ m₀ : Str → Option Value} (hm : ∀ z, z ≠ x → z ≠ y → z ≠ v → z ≠ a → z ≠ b → m₁ z = m₀ z) : m₁ = fun z => if z = x then m₁ x else if z = y then m₁ y else if z = v then m₁ v else if z = a then m₁ a else if z = b then m₁ b else m₀ z := by
  funext z
  by_cases h1 : z = x
  · rw [if_pos h1, h1]
  rw [if_neg h1]
  by_cases h2 : z = y
  · rw [if_pos h2, h2]
  rw [if_neg h2]
  by_cases h3 : z = v
  · rw [if_pos h3, h3]
  rw [if_neg h3]
  by_cases h4 : z = a
  · rw [if_pos h4, h4]
  rw [if_neg h4]
  by_cases h5 : z = b
  · rw [if_pos h5, h5]
  rw [if_neg h5]
  exact hm z h1 h2 h3 h4 h5

theorem take_step {x : Str} {i c : Nat} (h : x.cps[i]? = some c) : x.cps.toList.take (i + 1) = x.cps.toList.take i ++ [c] := by
  rw [List.take_add_one]
  have : x.cps.toList[i]? = some c := by simpa using h
  rw [this]; rfl
theorem allLt_of {d : Nat} : ∀ {l : List (Addr × Obj)}, (∀ p ∈ l, p.1 < d) → AllLt d l
  | [], _ => trivial
  | q :: _, h => ⟨h q (.head _), allLt_of fun p hp => h p (.tail _ hp)⟩

theorem ne_objs {h : Heap} {a b : Addr} {o q : Obj} (e : h.get? a = some o) (f : h.get? b = some q) (n : o ≠ q) : a ≠ b := fun x => n (Option.some.inj ((x ▸ e).symm.trans f))

/-- what holds between two signs -/
inductive WsInv (x : Str) (D' y dy : Addr) (od : Obj) (news : List (Addr × Obj)) (m0 : Str → Option Value) (i : Nat) (m₁ : Str → Option Value) (nw : List (Addr × Obj)) : Prop
  | mk (vs : List Value) (n : Nat) (c : Addr) (cs : List Int) (b : Nat) (nn nt : Int) (t1 t2 t3 : Tok)
    (h0 : nw = (c, W.listOf vs.toArray n) :: (D', tupObj [Value.str (Str.ofString " ") 578, Value.str (Str.ofString "\t") 579] 0) :: (y, instObj 279 dy) :: (dy, od) :: news)
    (h1 : IntsAre vs cs)
    (h2 : (cs, b) = (x.cps.toList.take i).foldl wsStep ([], 0))
    (h3 : b ≤ i)
    (h4 : cs.length ≤ i)
    (h5 : m₁ (Str.ofString "count") = some (.ref c))
    (h6 : m₁ (Str.ofString "b") = some (.int b t1))
    (h7 : m₁ (Str.ofString "n") = some (.int nn t2))
    (h8 : m₁ (Str.ofString "nt") = some (.int nt t3))
    (h9 : (D' < c ∧ y < c ∧ dy < c ∧ AllLt c news))
    (h10 : ∀ z, z ≠ Str.ofString "ch" → z ≠ Str.ofString "count" → z ≠ Str.ofString "b" → z ≠ Str.ofString "n" → z ≠ Str.ofString "nt" → m₁ z = m0 z)
    : WsInv x D' y dy od news m0 i m₁ nw

theorem ws {prog : Program} {w : World} {p : Program} {loose : List Str} {mean : ExcName → Option Value} {mg mb : Str → Option Value}
  (dp un : Nat) (gd : Option (List Code)) (cn : Str) (cs : Scope) (a : Addr) (ccd : Value) (cl : List (Str × Addr)) (outer : List Env) (A₀ : Around) (base h₀ : Heap) (L : Addr) (m : Str → Option Value) (s : Shared) (x : Str) (tx : Tok)
  (Q E : Value → Shared → Prop)
  (B : Below A₀ base outer h₀) (F : Fr h₀ L s.heap m) (X : (Kf w.params).In h₀) (T : Top p loose mean mg mb h₀) (hk : cs.kind = .function)
  (hdp : dp + 10 < recursionLimit) (hu : un + 100 < cLine) (hx : ∀ c ∈ x.cps.toList, c = 32 ∨ c = 9) (hxl : x.cps.size ≤ 600)
  (news : List (Addr × Obj)) (N0 : News h₀ L s.heap news)
  (hret : ∀ (y dy tn tc : Addr) (vs : List Value) (nn nt : Int) (sm : Bool) (k1 k2 k3 k4 k5 t1 t2 t3 : Tok) (h' : Heap) (tk' : Nat), Fr h₀ L h' m → News h₀ L h' ((tn, tupObj [.ref tc, .int ((wsF x).2 : Nat) t1] 0) :: (tc, tupObj vs 0) :: (y, instObj 279 dy) :: (dy, wsDict w x tx nn nt tn sm k1 k2 k3 k4 k5 t2 t3) :: news) →
    IntsAre vs (wsF x).1 → (wsF x).1.length ≤ 600 → (∀ p ∈ news, p.1 < dy) → dy < y → tc < tn → y < tn → Q (.ref y) { s with heap := h', toks := tk' }) :
  wpAny (model prog w) (ktrTop dp un gd cn cs L a ccd cl outer) (call (.ref 279) [.str x tx]) Q E s := by
  have ha : x.cps.all (· < 128) = true := by
    rw [Array.all_eq_true_iff_forall_mem]
    intro c hc
    rcases hx c (by simpa using hc) with rfl | rfl <;> rfl
  k_dflt refine' call_cls ?k1 ?k2 ?k3 ?k4 ?k5 ?k6 ?_
  case k1 => k_asm
  case k2 => k_asm
  case k3 => k_asm
  case k4 => k_is
  case k5 => k_is
  case k6 => k_is
  k_whole
  intro y dy h1 F1 N1 l1 l2
  have l1' := l1
  have l2' := l2
  (try k_lt l1)
  (try k_lt2 l2)
  k_dflt walk_at "enterD"
  walk_at "m_toFor"
  refine wpAny_For ?_ (by intro _; rfl)
  show wpAny (model prog w) _ _ _ _ _
  k_fold
  k_steps
  (rename Fr _ _ _ _ => FC)
  (rename News _ _ _ _ => NC)
  obtain ⟨m0, hm0, FD⟩ := frNamed FC
  (rename _ ∧ _ ∧ _ ∧ AllLt _ _ => lc)
  rename_i D' _ _ _ _ _ _ c0 _ _ _ _ _
  refine strG (fun i m₁ nw => WsInv x D' y dy _ news m0 i m₁ nw)
    rfl (by intro _ _; rfl) ha FD NC ⟨[], 0, c0, [], 0, 0, 0, _, _, _, rfl, .nil, rfl, Nat.zero_le _, Nat.zero_le _, by rw [hm0]; rfl, by rw [hm0]; rfl, by rw [hm0]; rfl, by rw [hm0]; rfl, lc, fun _ _ _ _ _ _ => rfl⟩ (by passes_own) ?_ ?_
  · rintro i ch tc m₁ nw h₁ tk₁ own hic hoff ⟨vs, n, c, cts, b, nn, nt, t1, t2, t3, rfl, hI, hst, hbl, hcl, e1, e2, e3, e4, lc2, hm⟩ F₁ N₁
    have hch := hx ch (by have := Array.mem_of_getElem? hic; simpa using this)
    have hi : i < 600 := by
      rcases Nat.lt_or_ge i x.cps.size with q | q
      · omega
      · rw [Array.getElem?_eq_none q] at hic; cases hic
    rw [map_but5 hm, e1, e2, e3, e4] at F₁
    subst hm0
    simp only [List.cons_append, List.nil_append] at N₁
    clear FC NC FD
    obtain ⟨lq1, lq2, lq3, lq4⟩ := lc2
    show wpAny (model prog w) _ _ _ _ _
    k_fold
    k_steps
    · (rename (_ == _) = true => hc9)
      have hc : ch = 32 := by rcases hch with q | q <;> subst q <;> first | rfl | exact absurd hc9 (by decide)
      (rename Fr _ _ _ _ => F9)
      (rename News _ _ _ _ => N9)
      refine turnG_intro ((c, W.listOf vs.toArray n) :: (D', tupObj [Value.str (Str.ofString " ") 578, Value.str (Str.ofString "\t") 579] 0) :: (y, instObj 279 dy) :: (dy, _) :: news) F9 N9 (fun q hq => List.mem_append_left own hq) (fun q hq => .tail _ (.tail _ (.tail _ (.tail _ (List.mem_append_right _ hq))))) hoff
        ⟨vs, n, c, cts, b + 1, nn + 1, nt, _, _, _, rfl, hI, ?_, by omega, by omega, rfl, rfl, rfl, rfl, ⟨lq1, lq2, lq3, lq4⟩, ?_⟩
      · rw [take_step hic, List.foldl_append, ← hst]
        simp [wsStep, hc]
      · intro z hz1 hz2 hz3 hz4 hz5
        simp only [if_neg hz1, if_neg hz2, if_neg hz3, if_neg hz4, if_neg hz5]
    · (rename (_ == _) = false => hc9)
      (rename (_ == _) = true => hc8)
      (rename (_ : Int) ≤ _ => hle)
      have hc : ch = 9 := by rcases hch with q | q <;> subst q <;> first | rfl | exact absurd hc9 (by decide)
      (rename _ ∧ _ ∧ _ ∧ _ ∧ _ ∧ _ ∧ AllLt _ _ => l9)
      (rename Fr _ _ _ _ => F9)
      (rename News _ _ _ _ => N9)
      (rename IntsAre (List.set _ _ _) _ => I9)
      (rename List.length (List.set _ _ _) = _ => hl9)
      have hcl9 : cts ++ (List.replicate ((b : Int) - cts.length + 1).toNat [(0 : Int)]).flatten = cts ++ List.replicate (b - cts.length + 1) 0 := by
        have e : ((b : Int) - cts.length + 1).toNat = b - cts.length + 1 := by omega
        rw [e, List.flatten_replicate_singleton]
      rw [hcl9] at I9 hl9 N9
      rw [show ((b : Int)).toNat = b from Int.toNat_natCast b] at I9 hl9 N9
      refine turnG_intro ((_, W.listOf _ 0) :: (D', tupObj [Value.str (Str.ofString " ") 578, Value.str (Str.ofString "\t") 579] 0) :: (y, instObj 279 dy) :: (dy, _) :: news) F9 N9 (fun q hq => ?_) (fun q hq => .tail _ (.tail _ (.tail _ (.tail _ (.tail _ (.tail _ (.tail _ (List.mem_append_right _ hq)))))))) ?_
        ⟨_, 0, _, _, 0, nn + 1, nt + 1, _, _, _, rfl, I9, ?_, by omega, ?_, rfl, rfl, rfl, rfl, ⟨l9.2.2.2.1, l9.2.2.2.2.1, l9.2.2.2.2.2.1, ?_⟩, ?_⟩
      · rcases List.mem_cons.mp hq with h | hq
        · exact h ▸ .head _
        rcases List.mem_cons.mp hq with h | hq
        · exact h ▸ .tail _ (.tail _ (.tail _ (.tail _ (.head _))))
        rcases List.mem_cons.mp hq with h | hq
        · exact h ▸ .tail _ (.tail _ (.tail _ (.tail _ (.tail _ (.head _)))))
        rcases List.mem_cons.mp hq with h | hq
        · exact h ▸ .tail _ (.tail _ (.tail _ (.tail _ (.tail _ (.tail _ (.head _))))))
        exact .tail _ (.tail _ (.tail _ (.tail _ (.tail _ (.tail _ (.tail _ (List.mem_append_left _ hq)))))))
      · intro q hq b9 hb9
        rcases List.mem_cons.mp hb9 with h | hb9
        · rw [h]
          exact Nat.ne_of_lt (ofAllLt l9.2.2.2.2.2.2 q (List.mem_append_right _ hq))
        · exact hoff q hq b9 (.tail _ hb9)
      · rw [take_step hic, List.foldl_append, ← hst]
        simp [wsStep, hc, show cts.length ≤ b by omega]
      · rw [hl9]; simp; omega
      · exact allLt_of fun q hq => ofAllLt l9.2.2.2.2.2.2 q (List.mem_append_left _ hq)
      · intro z hz1 hz2 hz3 hz4 hz5
        simp only [if_neg hz1, if_neg hz2, if_neg hz3, if_neg hz4, if_neg hz5]
    · (rename (_ == _) = false => hc9)
      (rename (_ == _) = true => hc8)
      have hc : ch = 9 := by rcases hch with q | q <;> subst q <;> first | rfl | exact absurd hc9 (by decide)
      (rename Fr _ _ _ _ => F8)
      (rename News _ _ _ _ => N8)
      (rename ¬ _ => hgt)
      have hgt2 : b < cts.length := by omega
      have hcn : ∀ q ∈ news ++ own, q.1 ≠ c := fun q hq => by
        rcases List.mem_append.mp hq with hq | hq
        · exact Nat.ne_of_lt (ofAllLt lq4 q hq)
        · exact hoff q hq c (.head _)
      k_dflt refine' ksa_set F8 N8 (Upd.head (List.forall_mem_cons.mpr ⟨Nat.ne_of_lt lq1, List.forall_mem_cons.mpr ⟨Nat.ne_of_lt lq2, List.forall_mem_cons.mpr ⟨Nat.ne_of_lt lq3, hcn⟩⟩⟩)) hI ?k5 ?k6 ?k7 ?_
      case k5 => omega
      case k6 => omega
      case k7 => omega
      k_whole
      intro h7 F7 N7 hI7 hl7 hs7
      (try k_sweep)
      (try dsimp only)
      (try k_fold)
      k_steps
      (rename Fr _ _ _ _ => F9)
      (rename News _ _ _ _ => N9)
      refine turnG_intro ((c, W.listOf (vs.set (b : Int).toNat _).toArray n) :: (D', tupObj [Value.str (Str.ofString " ") 578, Value.str (Str.ofString "\t") 579] 0) :: (y, instObj 279 dy) :: (dy, _) :: news) F9 N9 (fun q hq => List.mem_append_left own hq) (fun q hq => .tail _ (.tail _ (.tail _ (.tail _ (List.mem_append_right _ hq))))) hoff
        ⟨_, n, c, _, 0, nn + 1, nt + 1, _, _, _, rfl, hI7, ?_, by omega, by omega, rfl, rfl, rfl, rfl, ⟨lq1, lq2, lq3, lq4⟩, ?_⟩
      · rw [take_step hic, List.foldl_append, ← hst]
        simp [wsStep, hc, Nat.not_le.mpr hgt2]
      · intro z hz1 hz2 hz3 hz4 hz5
        simp only [if_neg hz1, if_neg hz2, if_neg hz3, if_neg hz4, if_neg hz5]
    · exfalso
      (rename (_ == Str.ofString "\t") = false => hc9)
      (rename (_ == Str.ofString " ") = false => hc8)
      rcases hch with q | q <;> subst q
      · exact absurd hc8 (by decide)
      · exact absurd hc9 (by decide)
  · rintro m₁ nw h tk ⟨vs, n, c, cts, b, nn, nt, t1, t2, t3, rfl, hI, hst, hbl, hcl, e1, e2, e3, e4, lc2, hm⟩ F₁ N₁
    dsimp only at hm ⊢
    rw [map_but5 hm, e1, e2, e3, e4] at F₁
    subst hm0
    clear FC NC FD
    obtain ⟨lq1, lq2, lq3, lq4⟩ := lc2
    (try k_lt2 lq1)
    (try k_lt2 lq2)
    (try k_lt2 lq3)
    have hz9 : vs.toArray.size ≤ 700 := by rw [List.size_toArray, hI.length]; omega
    show wpAny (model prog w) _ _ _ _ _
    (try k_fold)
    k_steps
    (rename News _ _ _ _ => N7)
    have hne9 := neN (ne_objs (N7 _ (.tail _ (.head _))).1 (N7 _ (.tail _ (.tail _ (.tail _ (.tail _ (.tail _ (.head _))))))).1 (fun h => by have h2 : Value.type "tuple" = Value.type "dict" := congrArg Obj.cls h; injection h2 with h2; exact absurd h2 (by decide)))
    k_steps
    (rename News h₀ _ _ _ => N8)
    (rename Fr h₀ _ _ _ => F8)
    (rename _ ∧ _ ∧ _ ∧ _ ∧ _ ∧ AllLt _ _ => l9)
    have hwf : (cts, b) = wsF x := by rw [hst, List.take_of_length_le (by simp)]; rfl
    have hw1 : cts = (wsF x).1 := congrArg Prod.fst hwf
    have hw2 : b = (wsF x).2 := congrArg Prod.snd hwf
    subst hw1
    subst hw2
    exact hret _ _ _ _ _ _ _ _ _ _ _ _ _ _ _ _ _ _ F8 (fun q hq => N8 q (by
      rcases List.mem_cons.mp hq with h | hq
      · exact h ▸ .head _
      rcases List.mem_cons.mp hq with h | hq
      · exact h ▸ .tail _ (.head _)
      rcases List.mem_cons.mp hq with h | hq
      · exact h ▸ .tail _ (.tail _ (.tail _ (.tail _ (.head _))))
      rcases List.mem_cons.mp hq with h | hq
      · exact h ▸ .tail _ (.tail _ (.tail _ (.tail _ (.tail _ (.head _)))))
      exact .tail _ (.tail _ (.tail _ (.tail _ (.tail _ (.tail _ hq))))))) hI (by omega) l1' l2' l9.1 l9.2.2.2.1

end

section

local macro_rules | `(tactic| walk_at "enterC") => `(tactic| (refine' enterC ?k1 ?k2 ?k3 ?k4 ?kA ?kF ?kK ?k6 ?k7 ?k8 ?k9 ?kB ?kD ?_ ?c2 ?c3 ?c4; (case kA => exact rfl); (case kF => exact rfl); (case kK => assumption); (case k1 => k_asm); (case k2 => k_asm); (case k3 => k_asm); (case k4 => k_asm); (case k6 => k_is); (case k7 => k_is); (case k8 => ktr_room); (case k9 => exact BindsTo.of_eq rfl); (case kB => exact rfl); (case kD => decide +kernel); (case c2 => exact rfl); (case c3 => exact rfl); (case c4 => exact rfl); k_whole; intro L' h' tk' cells' F' N' Y' B' X' T' hL'; k_cells Y'; (try simp only [List.cons_append, List.nil_append] at N'); (try dsimp only); (try k_fold)))
local macro_rules | `(tactic| walk_at "enterP") => `(tactic| (refine' enterP ?k1 ?k2 ?k3 ?k4 ?kA ?kF ?kK ?k6 ?k7 ?k8 ?k9 ?kB ?_ ?c2 ?c3 ?c4 ?c5; (case kA => exact rfl); (case kF => exact rfl); (case kK => assumption); (case k1 => k_asm); (case k2 => k_asm); (case k3 => k_asm); (case k4 => k_asm); (case k6 => k_is); (case k7 => k_is); (case k8 => ktr_room); (case k9 => exact BindsTo.of_eq rfl); (case c5 => decide); (case kB => exact locs rfl); (case c2 => exact rfl); (case c3 => exact rfl); (case c4 => exact rfl); k_whole; intro L' h' F' N' B' X' T' hL'; (try dsimp only); (try k_fold)))
local macro_rules | `(tactic| walk_at "m_toComp") => `(tactic| repeat ((fail_if_success (with_reducible show wpAny _ _ (eval (PySem.Expr.ListComp _ _ _ _) _) _ _ _)); first | (k_unfold; (try dsimp only)) | walk1 | (dsimp only; walk1)))
local macro_rules | `(tactic| walk_at "m_toCompCall") => `(tactic| repeat' ((fail_if_success (with_reducible show wpAny _ _ (eval (PySem.Expr.ListComp (PySem.Expr.BinOp (PySem.Expr.Call _ _ _ _) _ _ _) _ _ _) _) _ _ _)); first | (k_unfold; (try dsimp only)) | walk1 | (dsimp only; walk1)))
local macro_rules | `(tactic| walk_at "m_units") => `(tactic| ((try simp only [units_in1, units_deeper, Around.mark_units, units_caller]); (try dsimp only [ktrTop]); omega))
local macro_rules | `(tactic| walk_at "compareOp Eq ref ref") => `(tactic| (k_here; (with_reducible show wpAny _ _ (compareOp CmpOp.Eq (Value.ref _) (Value.ref _)) _ _ _); (with_unfolding_all refine' eq_intsK ?k1 ?k2 ?k3 ?k4 ?k5 ?_; (case k1 => is_list); (case k2 => l_ints); (case k3 => is_list); (case k4 => l_ints); (case k5 => walk_at "m_units"); k_whole)))
local macro_rules | `(tactic| walk_at "compareOp NotEq ref ref") => `(tactic| (k_here; (with_reducible show wpAny _ _ (compareOp CmpOp.NotEq (Value.ref _) (Value.ref _)) _ _ _); (with_unfolding_all refine' ne_intsK ?k1 ?k2 ?k3 ?k4 ?k5 ?_; (case k1 => is_list); (case k2 => l_ints); (case k3 => is_list); (case k4 => l_ints); (case k5 => walk_at "m_units"); k_whole)))
local macro_rules | `(tactic| walk_at "m_toWhile") => `(tactic| repeat' ((fail_if_success (with_reducible show wpAny _ _ (exec (PySem.Stmt.While _ _ _ _) _) _ _ _)); first | (k_unfold; (try dsimp only)) | walk1 | (dsimp only; walk1)))
local macro_rules | `(tactic| walk_at "m_toFor") => `(tactic| repeat' ((fail_if_success (with_reducible show wpAny _ _ (exec (PySem.Stmt.For _ _ _ _ _) _) _ _ _)); first | (k_unfold; (try dsimp only)) | walk1 | (dsimp only; walk1)))
local macro_rules | `(tactic| walk_at "enterD") => `(tactic| (refine' code_defG ?k1 ?k2 ?k3 ?k4 ?k5 ?kA ?kF ?kK ?k6 ?k7 ?k8 ?k9 ?kB ?_ ?c2 ?c3 ?c4 ?c5; (case kA => exact rfl); (case kF => exact rfl); (case kK => first | exact rfl | assumption); (case k1 => k_asm); (case k2 => k_asm); (case k3 => k_asm); (case k4 => k_asm); (case k5 => k_asm); (case k6 => k_is); (case k7 => k_is); (case k8 => ktr_room); (case k9 => first | exact BindsTo.of_eq rfl | exact binds_K (by k_in) rfl (by k_is) rfl rfl rfl); (case c5 => decide); (case kB => exact locs rfl); (case c2 => exact rfl); (case c3 => exact rfl); (case c4 => exact rfl); k_whole; intro g' L' h' FG' F' N' B' X' T' kG'; (try dsimp only); (try k_fold)))

local macro_rules | `(tactic| walk_at "m_post") => `(tactic| (intro t9 h9 tk9 st9; (have F9 := fr_stay (by assumption) st9); (have N9 := news_stay (by assumption) st9); (try have kE9 := elt_stay (by assumption) st9); (try dsimp only); k_sweep; (try k_fold)))
local macro_rules | `(tactic| walk_at "call ref") => `(tactic| (k_here; (with_reducible show wpAny _ _ (call (Value.ref _) [Value.int _ _, Value.int _ _]) _ _ _); k_dflt (first
  | (refine' opSub ?k1 ?k2 ?k3 ?k4 ?k5 ?k6 ?_; (case k1 => k_asm); (case k2 => k_asm); (case k3 => k_asm); (case k4 => k_asm); (case k5 => first | exact rfl | assumption); (case k6 => ktr_room))
  | (refine' opAdd ?k1 ?k2 ?k3 ?k4 ?k5 ?k6 ?_; (case k1 => k_asm); (case k2 => k_asm); (case k3 => k_asm); (case k4 => k_asm); (case k5 => first | exact rfl | assumption); (case k6 => ktr_room))
  | (refine' opMod ?k1 ?k2 ?k3 ?k4 ?k5 ?k6 ?k7 ?_; (case k1 => k_asm); (case k2 => k_asm); (case k3 => k_asm); (case k4 => k_asm); (case k5 => first | exact rfl | assumption); (case k6 => ktr_room); (case k7 => omega))
  | (refine' opMul ?k1 ?k2 ?k3 ?k4 ?k5 ?k6 ?k7 ?k8 ?_; (case k1 => k_asm); (case k2 => k_asm); (case k3 => k_asm); (case k4 => k_asm); (case k5 => first | exact rfl | assumption); (case k6 => ktr_room); (case k7 => omega); (case k8 => omega))); walk_at "m_post"))

local macro_rules | `(tactic| walk_at "m_mems") => `(tactic| (repeat' (first | exact List.forall_mem_nil _ | (refine List.forall_mem_cons.mpr ⟨by k_mem, ?_⟩))))
local macro_rules | `(tactic| walk_at "m_own") => `(tactic| (intro p9 hp9; (repeat' (first | exact hp9 | refine List.Mem.tail _ ?_))))

local macro_rules | `(tactic| k_room) => `(tactic| ktr_room)
abbrev normD (c : List Int × Nat) : PyData := .tuple [.tuple (c.1.map PyData.int), .int (c.2 : Nat)]
theorem reads_norm {h : Heap} {tn tc : Addr} {vs : List Value} {c : List Int × Nat} {t : Tok} (e : h.get? tn = some (tupObj [.ref tc, .int (c.2 : Nat) t] 0)) (f : h.get? tc = some (tupObj vs 0)) (hi : IntsAre vs c.1) : PySem.Reads h (.ref tn) (normD c) [] := by
  have h1 : PySem.Reads h (.ref tc) (.tuple (c.1.map PyData.int)) [] := .tuple f rfl rfl (by simpa using readsAll_of_ints hi)
  exact .tuple e rfl rfl (.cons h1 (.cons (.int _ _) .nil))
theorem shaped_norm (c : List Int × Nat) : PySem.SeqAt.shaped (normD c) = true := by
  have h1 := PySem.W.depthAll_ints c.1
  have h2 : PyData.depth (normD c) ≤ 64 := by simp only [PyData.depth, PyData.depthAll]; omega
  show (PyData.canLay0 (normD c) && decide (PyData.depth (normD c) ≤ 64)) = true
  rw [Bool.and_eq_true]
  exact ⟨by simp only [PyData.canLay0, PyData.canLayAll0, canLayAll0_ints]; rfl, decide_eq_true h2⟩
theorem noMix_norm (c e : List Int × Nat) : PySem.SeqAt.noMix (normD c) (normD e) = true := by
  simp only [PySem.SeqAt.noMix, PySem.SeqAt.noMixAll, noMix_ints]; rfl
theorem same_norm (c e : List Int × Nat) : PySem.Spec.same (normD c) (normD e) = decide (c = e) := by
  obtain ⟨c1, c2⟩ := c
  obtain ⟨e1, e2⟩ := e
  simp only [normD, PySem.Spec.same, PySem.Spec.sameAll, same_ints]
  by_cases h1 : c1 = e1 <;> by_cases h2 : c2 = e2 <;> simp [h1, h2] <;> omega

theorem wseq {prog : Program} {w : World} {p : Program} {loose : List Str} {mean : ExcName → Option Value} {mg mb : Str → Option Value}
  {dp un : Nat} {gd : Option (List Code)} {cn : Str} {cs : Scope} {a : Addr} {ccd : Value} {cl : List (Str × Addr)} {outer : List Env} {A₀ : Around} {base h₀ : Heap} {L : Addr} {m : Str → Option Value} {s : Shared}
  {y y' dy dy' tn tn' tc tc' : Addr} {vs vs' : List Value} {x x' : Str} {tx tx' : Tok} {nn nt nn' nt' : Int} {sm sm' : Bool} {k1 k2 k3 k4 k5 t1 t2 t3 l1 l2 l3 l4 l5 u1 u2 u3 : Tok} {c c' : List Int × Nat} {news : List (Addr × Obj)}
  {R : Result → Shared → Prop}
  (B : Below A₀ base outer h₀) (F : Fr h₀ L s.heap m) (X : (Kf w.params).In h₀) (T : Top p loose mean mg mb h₀) (hk : cs.kind = .function)
  (N : News h₀ L s.heap ((tn', tupObj [.ref tc', .int (c'.2 : Nat) u1] 0) :: (tc', tupObj vs' 0) :: (y', instObj 279 dy') :: (dy', wsDict w x' tx' nn' nt' tn' sm' l1 l2 l3 l4 l5 u2 u3) ::
     (tn, tupObj [.ref tc, .int (c.2 : Nat) t1] 0) :: (tc, tupObj vs 0) :: (y, instObj 279 dy) :: (dy, wsDict w x tx nn nt tn sm k1 k2 k3 k4 k5 t2 t3) :: news)) (hi : IntsAre vs c.1) (hi' : IntsAre vs' c'.1)
  (hdp : dp + 10 < recursionLimit) (hu : un + 100 < cLine)
  (hret : ∀ h' tk', Fr h₀ L h' m → R (.ok (.ret (.bool (decide (c = c'))))) { s with heap := h', toks := tk' }) :
  codeAny (model prog w) (ktrTop dp un gd cn cs L a ccd cl outer) (.call (.ref 255) ⟨[.ref y, .ref y'], []⟩) R s := by
  k_dflt walk_at "enterD"
  repeat' ((fail_if_success (with_reducible show wpAny _ _ (compareOp _ _ _) _ _ _)); first | (k_unfold; (try dsimp only)) | walk1 | (dsimp only; walk1))
  (rename News _ _ _ _ => N7)
  refine PyProof.Rows.eq_dataH_same (reads_norm (N7 _ (.tail _ (.tail _ (.tail _ (.tail _ (.head _)))))).1 (N7 _ (.tail _ (.tail _ (.tail _ (.tail _ (.tail _ (.head _))))))).1 hi) (reads_norm (N7 _ (.head _)).1 (N7 _ (.tail _ (.head _))).1 hi') (shaped_norm c) (shaped_norm c') (by walk_at "m_units") (noMix_norm c c') ?_
  rw [same_norm]
  (try dsimp only)
  (try k_fold)
  k_steps
  (rename Fr h₀ _ _ _ => F9)
  exact hret _ _ F9

end

section

-- nofill
section
variable {prog : Program} {w : World} {A : Around} {E : Value → Shared → Prop} {s : Shared} {env : Env}
theorem range_small (a₀ n : Nat) (hn2 : n < 900) (ha2 : a₀ < 50) : Builtin.Range.small (a₀ : Int) ((a₀ + n : Nat) : Int) 1 = true ∧ Builtin.Range.rangeSize (a₀ : Int) ((a₀ + n : Nat) : Int) 1 = (n : Int) := by
  refine ⟨?_, by unfold Builtin.Range.rangeSize; simp; omega⟩
  have fits : ∀ x : Int, 0 ≤ x → x < 2000 → Builtin.Range.rangeFitsLong x = true := fun x h1 h2 => by unfold Builtin.Range.rangeFitsLong; simp; omega
  unfold Builtin.Range.small Builtin.Range.rangeSize
  simp [fits 0 (by omega) (by omega), fits 1 (by omega) (by omega), fits a₀ (by omega) (by omega), fits ((a₀ : Int) + n) (by omega) (by omega)]
  split <;> first | exact fits _ (by omega) (by omega) | omega
/-- a comprehension over range(a, b) -/
theorem oneRange (a₀ : Nat) {elt : Expr} {xa : Str} {scope : Scope} {cl : List (Str × Addr)} {Q : Value → Shared → Prop} {r : Addr} {b₀ : Int} {t₀ u₀ v₀ : Tok} {n : Nat} (G : Nat → Value → Prop)
    (hh : A.handled = none) (hr : IsRange s.heap r (a₀ : Int) b₀ 1 t₀ u₀ v₀) (hn : b₀ = ((a₀ + n : Nat) : Int)) (hn2 : n < 900) (ha2 : a₀ < 50)
    (helt : ∀ i t C m₂ h tk E', i < n → s.heap.StaysIn h → s.heap.objs.size < C → h.Ns C m₂ → m₂ xa = some (.int ((a₀ + i : Nat) : Int) t) →
      wpAny (model prog w) A (eval elt (compEnvC scope cl C env)) (EltEnd s h (G i)) E' { s with heap := h, toks := tk })
    (hfin : ∀ D ys h tk, ys.length = n → (∀ i y, ys[i]? = some y → G i y) → s.heap.StaysIn h → h.get? D = some (LCg.lst ys) → s.heap.objs.size < D → Q (.ref D) { s with heap := h, toks := tk }) :
    wpAny (model prog w) A (pyIter (.ref r)) (OneSrc prog w A env elt xa scope cl Q) E s := by
  subst hn
  obtain ⟨hs, hrs⟩ := range_small a₀ n hn2 ha2
  refine wpAny_pyIter_range hr hs ?_
  have W : Walks prog w A s.heap.objs.size [s.heap.objs.size] [s.heap.objs.size] n (fun i v => i < n ∧ ∃ t, v = .int ((a₀ : Int) + i * 1) t)
      (fun i h => IsRangeIter h s.heap.objs.size ((a₀ : Int) + (i : Nat) * 1) ((n : Int) - (i : Nat)) 1) := (Walks.range hh _ a₀ 1 n).bound
  rw [hrs]
  have hz : ∀ o, (s.heap.push o).objs.size = s.heap.objs.size + 1 := fun o => Heap.size_push ..
  have up : ∀ x b o, s.heap.get? b = some o → (s.heap.push x).get? b = some o := fun x b o e => Heap.get?_push_of_some _ e
  have stays : ∀ x (h : Heap), (∀ b o, b ∉ [s.heap.objs.size] → (s.heap.push x).get? b = some o → h.get? b = some o) → s.heap.StaysIn h :=
    fun x h k b o e => k b o (by simpa using Nat.ne_of_lt (Heap.lt_size e)) (up x b o e)
  refine ⟨s.heap.objs.size, [s.heap.objs.size], [s.heap.objs.size], n, _, _, G, rfl, W, by show IsRangeIter _ _ _ _ _; simpa using Heap.get?_push_size _ rfl, ?_, by rw [sizeLine_eq]; omega, ?_, ?_⟩
  · intro b hb
    rw [List.mem_singleton.mp hb]
    show _ < (s.heap.push _).objs.size
    rw [hz]
    exact Nat.lt_succ_self _
  · rintro i va C m₂ h tk E' hi ⟨_, t, rfl⟩ hkeep hC hns hm
    refine helt i t C m₂ h tk E' hi (stays _ h hkeep) (by have : (s.heap.push _).objs.size ≤ C := hC; rw [hz] at this; exact this) hns ?_
    have e : ((a₀ : Int) + (i : Int) * 1) = ((a₀ + i : Nat) : Int) := by omega
    rw [← e]
    exact hm
  · intro D ys h tk hln hG hkeep hD hDs
    exact hfin D ys h tk hln hG (stays _ h hkeep) hD (by have : (s.heap.push _).objs.size ≤ D := hDs; rw [hz] at this; exact this)

/-- a turn's end: it goes on, the ledger is the same -/
def TurnP (h₀ : Heap) (L : Addr) (J : (Str → Option Value) → Prop) (all : List (Addr × Obj)) (s : Shared) (f : Flow) (s₂ : Shared) : Prop :=
  f = .next ∧ ∃ h' tk m', s₂ = { s with heap := h', toks := tk } ∧ Fr h₀ L h' m' ∧ News h₀ L h' all ∧ J m'
/-- a for over pairs laid by an iterator (enumerate): nothing of the ledger changes -/
theorem forPairs {I : Addr} {fp wr : List Addr} {n : Nat} {Pt : Nat → Array Value → Prop} {St : Nat → Heap → Prop} {Mid : Nat → Addr → Heap → Prop} {xa xb : Str} {pa pb ps : Pos} {cx : Nat} {h₀ : Heap} {body : List Stmt} {Q : Flow → Shared → Prop} {m₀ : Str → Option Value} {news : List (Addr × Obj)} (J : Nat → (Str → Option Value) → Prop)
    (W : WalksT prog w A I fp wr n Pt St Mid) (hh : A.handled = none) (hst : St 0 s.heap) (hfp : ∀ b ∈ fp, b ∈ wr ∨ ∃ o, h₀.get? b = some o) (hwr : ∀ b ∈ wr, h₀.get? b = none ∧ b ≠ env.locals) (hnw : ∀ p ∈ news, p.1 ∉ wr)
    (hk : env.scope.kind = .function) (hxa : env.kindOf xa = some .local) (hxb : env.kindOf xb = some .local) (hpt : ∀ i vals, Pt i vals → ∃ va vb, vals = #[va, vb])
    (F : Fr h₀ env.locals s.heap m₀) (N : News h₀ env.locals s.heap news) (hj : J 0 m₀) (hE : PassesOwn (model prog w) A env E)
    (turn : ∀ i va vb m₁ h₁ tk₁ own, i < n → Pt i #[va, vb] → J i m₁ → Fr h₀ env.locals h₁ (fun z => if z = xb then some vb else if z = xa then some va else m₁ z) → News h₀ env.locals h₁ (news ++ own) →
      wpAny (model prog w) A (execs body env) (TurnP h₀ env.locals (J (i + 1)) (news ++ own) s) E { s with heap := h₁, toks := tk₁ })
    (done : ∀ m₁ h tk, J n m₁ → Fr h₀ env.locals h m₁ → News h₀ env.locals h news → Q .next { s with heap := h, toks := tk }) :
    codeAny (model prog w) A (.forLoop (.Tuple [.Name xa pa, .Name xb pb] cx ps) (.ref I) body [] env) (fun r s' => match r with | .ok f => Q f s' | .error e => cameBackBy (model prog w) A env E e s') s := by
  refine codeAny_forLoop_any (fun k s' => ∃ i h' tk m', s' = { s with heap := h', toks := tk } ∧ i ≤ n ∧ k = n + 1 - i ∧ St i h' ∧ Fr h₀ env.locals h' m' ∧ News h₀ env.locals h' news ∧ J i m') ?_ (n + 1)
    ⟨0, s.heap, s.toks, m₀, rfl, Nat.zero_le _, rfl, hst, F, N, hj⟩
  rintro k s' ⟨i, h', tk, m', rfl, hin, rfl, hsti, F', N', hJ⟩
  have next : ∀ h h₁ : Heap, Fr h₀ env.locals h m' → News h₀ env.locals h news → (∀ b o, b ∉ wr → h.get? b = some o → h₁.get? b = some o) → Fr h₀ env.locals h₁ m' ∧ News h₀ env.locals h₁ news := fun h h₁ F' N' hk₁ =>
    ⟨⟨F'.ns.at' fun o e => hk₁ _ o (fun q => (hwr _ q).2 rfl) e, fun b o e => hk₁ b o (fun q => by rw [(hwr _ q).1] at e; cases e) (F'.keep b o e), F'.above⟩,
      fun p hp => ⟨hk₁ _ _ (hnw p hp) (N' p hp).1, (N' p hp).2⟩⟩
  by_cases hlt : i < n
  · refine W.item i _ _ _ hlt hsti fun T vals h₂ tk₂ hP _ hT hmid hk₂ => ?_
    obtain ⟨va, vb, rfl⟩ := hpt i vals hP
    obtain ⟨F₂, N₂⟩ := next _ _ F' N' hk₂
    refine W.go _ _ _ i T _ _ _ hmid fun h₃ hst₃ hk₃ => ?_
    obtain ⟨F₃, N₃⟩ := next _ _ F₂ N₂ hk₃
    have hT₃ : h₃.IsTuple T #[va, vb] := let ⟨o, e, r⟩ := hT; ⟨o, hk₃ T o (W.apart i T _ hmid) e, r⟩
    refine wpAny_assign_Tuple hh hT₃ rfl rfl fun h₄ he₄ => ?_
    have st₄ : h₃.StaysIn h₄ := fun b o e => he₄ b o (Nat.ne_of_lt (Heap.lt_size e)) e
    have F₄ := fr_stay F₃ st₄
    have N₄ := news_stay N₃ st₄
    have hcl : (env.scope.kind == .class || (env.scope.kind == .module && env.locals != env.globals)) = false := by rw [hk]; rfl
    refine assignInOrder_cons (wpAny_assign_Name (wpAny_storeName_local hxa F₄.ns (fun h₅ hn₅ hs₅ => ?_) hcl))
    have F₅ := F₄.set hn₅ hs₅
    have N₅ := News.set N₄ hs₅
    refine assignInOrder_cons (wpAny_assign_Name (wpAny_storeName_local hxb F₅.ns (fun h₆ hn₆ hs₆ => ?_) hcl))
    have F₆ := F₅.set hn₆ hs₆
    have N₆ := News.set N₅ hs₆
    refine assignInOrder_nil ?_
    have hst₆ : St (i + 1) h₆ := W.frame _ _ _ hst₃ fun b hb o e => by
      have hbL : b ≠ env.locals := by
        rcases hfp b hb with q | ⟨o', e'⟩
        · exact (hwr b q).2
        · exact Nat.ne_of_lt (Nat.lt_of_lt_of_le (Heap.lt_size e') F₃.above)
      exact (hs₆.2 b hbL).trans ((hs₅.2 b hbL).trans (st₄ b o e))
    obtain ⟨own, hown, hnl⟩ : ∃ own : List (Addr × Obj), (∀ b ∈ wr, ∀ o, h₆.get? b = some o → (b, o) ∈ own) ∧ ∀ p ∈ own, p.1 ∈ wr ∧ h₆.get? p.1 = some p.2 := by
      refine ⟨wr.filterMap fun b => (h₆.get? b).map fun o => (b, o), fun b hb o e => List.mem_filterMap.mpr ⟨b, hb, by rw [e]; rfl⟩, fun p hp => ?_⟩
      obtain ⟨b, hb, e⟩ := List.mem_filterMap.mp hp
      obtain ⟨o, e1, rfl⟩ := Option.map_eq_some_iff.mp e
      exact ⟨hb, e1⟩
    have N₇ : News h₀ env.locals h₆ (news ++ own) := fun p hp => (List.mem_append.mp hp).elim (fun q => N₆ p q) fun q => ⟨(hnl p q).2, (hwr _ (hnl p q).1).2, (hwr _ (hnl p q).1).1⟩
    refine wpAny_mono (turn i va vb m' h₆ _ own hlt hP hJ (by simpa using F₆) N₇) (fun f s₃ h₃ => ?_) hE
    obtain ⟨rfl, h₈, tk₈, m₈, rfl, F₈, N₈, hJ₈⟩ := h₃
    refine ⟨n + 1 - (i + 1), by omega, i + 1, h₈, tk₈, m₈, rfl, hlt, rfl, ?_, F₈, fun p hp => N₈ p (List.mem_append_left _ hp), hJ₈⟩
    refine W.frame _ _ _ hst₆ fun b hb o e => ?_
    rcases hfp b hb with q | ⟨o', e'⟩
    · exact (N₈ _ (List.mem_append_right _ (hown b q o e))).1
    · have := F₆.keep _ _ e'
      rw [e] at this
      cases this
      exact F₈.keep _ _ e'
  · have hin2 : i = n := by omega
    subst hin2
    refine W.done _ _ _ hsti fun h₁ tk₁ hk₁ => wpAny_execs_nil ?_
    obtain ⟨F₁, N₁⟩ := next _ _ F' N' hk₁
    exact done m' h₁ tk₁ hJ F₁ N₁
/-- a for over a list of ints laid by the caller itself (not in the ground) -/
theorem listT {l : Addr} {vs : List Value} {ns : List Int} {target : Expr} {h₀ : Heap} {body : List Stmt} {Q : Flow → Shared → Prop} {m₀ : Str → Option Value} {news : List (Addr × Obj)} (J : Nat → (Str → Option Value) → List (Addr × Obj) → Prop)
    (hh : A.handled = none) (ht : ∀ it v, letOwnedTupleGo target it v = pure ()) (hl : s.heap.IsList l vs.toArray) (hi : IntsAre vs ns) (hlL : l ≠ env.locals) (F : Fr h₀ env.locals s.heap m₀) (N : News h₀ env.locals s.heap news) (hnl : ∀ p ∈ news, p.1 ≠ l) (hj : J 0 m₀ news)
    (turn : ∀ (i : Nat) k t m₁ news₁ (s₁ : Shared) own, ns[i]? = some k → news₁.map (·.1) = news.map (·.1) → OwnOff own (news.map (·.1)) → J i m₁ news₁ → Fr h₀ env.locals s₁.heap m₁ → News h₀ env.locals s₁.heap (news₁ ++ own) →
      wpAny (model prog w) A (assign target env (.int k t)) (fun _ s₃ => wpAny (model prog w) A (execs body env) (TurnEnd h₀ env.locals (J (i + 1)) own (news.map (·.1)) s₁) E s₃) E s₁)
    (done : ∀ m₁ news₁ h tk, J ns.length m₁ news₁ → Fr h₀ env.locals h m₁ → News h₀ env.locals h news₁ → news₁.map (·.1) = news.map (·.1) → Q .next { s with heap := h, toks := tk }) :
    wpAny (model prog w) A (pyIter (.ref l)) (fun it s₂ => LoopAtT prog w A h₀ env target body Q E it s₂) E s := by
  have hlt : l < s.heap.objs.size := by obtain ⟨_, e, _⟩ := hl; exact Heap.lt_size e
  refine wpAny_pyIter_list hl ?_
  have hvl := hi.length
  have W := Walks.list (prog := prog) (w := w) hh s.heap.objs.size l (Nat.ne_of_lt hlt) vs.toArray
  refine loopT J W (fun i s' v Q' _ h => wpAny_of_eq (ht _ v) h) ?_ ?_ ?_ ?_ ⟨⟨_, Heap.get?_push_size _ rfl, rfl, rfl⟩, hl.push _⟩ (F.push _) (fun p hp => ⟨Heap.get?_push_of_some _ (N p hp).1, (N p hp).2⟩) hj ?_ ?_
  · intro hm
    rcases List.mem_cons.mp hm with h | hm
    · exact absurd F.ns.lt (h ▸ Nat.lt_irrefl _)
    · exact hlL (List.mem_singleton.mp hm).symm
  · intro b hb
    rw [List.mem_singleton.mp hb]
    exact next_is_new F
  · intro p hp hI
    exact absurd (Heap.lt_size (N p hp).1) ((List.mem_singleton.mp hI) ▸ Nat.lt_irrefl _)
  · intro p hp hm
    rcases List.mem_cons.mp hm with h | hm
    · exact absurd (Heap.lt_size (N p hp).1) (h ▸ Nat.lt_irrefl _)
    · exact hnl p hp (List.mem_singleton.mp hm)
  · rintro i v m₁ news₁ s₁ own hin hP ha ho hJ F₁ N₁
    obtain ⟨k, t, hk, rfl⟩ := ints_at hi (by simpa using hP)
    exact turn i k t m₁ news₁ s₁ own hk ha ho hJ F₁ N₁
  · intro m₁ news₁ h tk hJ F₁ N₁ ha
    exact done m₁ news₁ h tk (by rw [← hvl]; simpa using hJ) F₁ N₁ ha
end

end

section

local macro_rules | `(tactic| walk_at "enterC") => `(tactic| (refine' enterC ?k1 ?k2 ?k3 ?k4 ?kA ?kF ?kK ?k6 ?k7 ?k8 ?k9 ?kB ?kD ?_ ?c2 ?c3 ?c4; (case kA => exact rfl); (case kF => exact rfl); (case kK => assumption); (case k1 => k_asm); (case k2 => k_asm); (case k3 => k_asm); (case k4 => k_asm); (case k6 => k_is); (case k7 => k_is); (case k8 => ktr_room); (case k9 => exact BindsTo.of_eq rfl); (case kB => exact rfl); (case kD => decide +kernel); (case c2 => exact rfl); (case c3 => exact rfl); (case c4 => exact rfl); k_whole; intro L' h' tk' cells' F' N' Y' B' X' T' hL'; k_cells Y'; (try simp only [List.cons_append, List.nil_append] at N'); (try dsimp only); (try k_fold)))
local macro_rules | `(tactic| walk_at "enterP") => `(tactic| (refine' enterP ?k1 ?k2 ?k3 ?k4 ?kA ?kF ?kK ?k6 ?k7 ?k8 ?k9 ?kB ?_ ?c2 ?c3 ?c4 ?c5; (case kA => exact rfl); (case kF => exact rfl); (case kK => assumption); (case k1 => k_asm); (case k2 => k_asm); (case k3 => k_asm); (case k4 => k_asm); (case k6 => k_is); (case k7 => k_is); (case k8 => ktr_room); (case k9 => exact BindsTo.of_eq rfl); (case c5 => decide); (case kB => exact locs rfl); (case c2 => exact rfl); (case c3 => exact rfl); (case c4 => exact rfl); k_whole; intro L' h' F' N' B' X' T' hL'; (try dsimp only); (try k_fold)))
local macro_rules | `(tactic| walk_at "m_toComp") => `(tactic| repeat ((fail_if_success (with_reducible show wpAny _ _ (eval (PySem.Expr.ListComp _ _ _ _) _) _ _ _)); first | (k_unfold; (try dsimp only)) | walk1 | (dsimp only; walk1)))
local macro_rules | `(tactic| walk_at "m_toCompCall") => `(tactic| repeat' ((fail_if_success (with_reducible show wpAny _ _ (eval (PySem.Expr.ListComp (PySem.Expr.BinOp (PySem.Expr.Call _ _ _ _) _ _ _) _ _ _) _) _ _ _)); first | (k_unfold; (try dsimp only)) | walk1 | (dsimp only; walk1)))
local macro_rules | `(tactic| walk_at "m_units") => `(tactic| ((try simp only [units_in1, units_deeper, Around.mark_units, units_caller]); (try dsimp only [ktrTop]); omega))
local macro_rules | `(tactic| walk_at "compareOp Eq ref ref") => `(tactic| (k_here; (with_reducible show wpAny _ _ (compareOp CmpOp.Eq (Value.ref _) (Value.ref _)) _ _ _); (with_unfolding_all refine' eq_intsK ?k1 ?k2 ?k3 ?k4 ?k5 ?_; (case k1 => is_list); (case k2 => l_ints); (case k3 => is_list); (case k4 => l_ints); (case k5 => walk_at "m_units"); k_whole)))
local macro_rules | `(tactic| walk_at "compareOp NotEq ref ref") => `(tactic| (k_here; (with_reducible show wpAny _ _ (compareOp CmpOp.NotEq (Value.ref _) (Value.ref _)) _ _ _); (with_unfolding_all refine' ne_intsK ?k1 ?k2 ?k3 ?k4 ?k5 ?_; (case k1 => is_list); (case k2 => l_ints); (case k3 => is_list); (case k4 => l_ints); (case k5 => walk_at "m_units"); k_whole)))
local macro_rules | `(tactic| walk_at "m_toWhile") => `(tactic| repeat' ((fail_if_success (with_reducible show wpAny _ _ (exec (PySem.Stmt.While _ _ _ _) _) _ _ _)); first | (k_unfold; (try dsimp only)) | walk1 | (dsimp only; walk1)))
local macro_rules | `(tactic| walk_at "m_toFor") => `(tactic| repeat' ((fail_if_success (with_reducible show wpAny _ _ (exec (PySem.Stmt.For _ _ _ _ _) _) _ _ _)); first | (k_unfold; (try dsimp only)) | walk1 | (dsimp only; walk1)))
local macro_rules | `(tactic| walk_at "enterD") => `(tactic| (refine' code_defG ?k1 ?k2 ?k3 ?k4 ?k5 ?kA ?kF ?kK ?k6 ?k7 ?k8 ?k9 ?kB ?_ ?c2 ?c3 ?c4 ?c5; (case kA => exact rfl); (case kF => exact rfl); (case kK => first | exact rfl | assumption); (case k1 => k_asm); (case k2 => k_asm); (case k3 => k_asm); (case k4 => k_asm); (case k5 => k_asm); (case k6 => k_is); (case k7 => k_is); (case k8 => ktr_room); (case k9 => first | exact BindsTo.of_eq rfl | exact binds_K (by k_in) rfl (by k_is) rfl rfl rfl); (case c5 => decide); (case kB => exact locs rfl); (case c2 => exact rfl); (case c3 => exact rfl); (case c4 => exact rfl); k_whole; intro g' L' h' FG' F' N' B' X' T' kG'; (try dsimp only); (try k_fold)))

local macro_rules | `(tactic| walk_at "m_post") => `(tactic| (intro t9 h9 tk9 st9; (have F9 := fr_stay (by assumption) st9); (have N9 := news_stay (by assumption) st9); (try have kE9 := elt_stay (by assumption) st9); (try dsimp only); k_sweep; (try k_fold)))
local macro_rules | `(tactic| walk_at "call ref") => `(tactic| (k_here; (with_reducible show wpAny _ _ (call (Value.ref _) [Value.int _ _, Value.int _ _]) _ _ _); k_dflt (first
  | (refine' opSub ?k1 ?k2 ?k3 ?k4 ?k5 ?k6 ?_; (case k1 => k_asm); (case k2 => k_asm); (case k3 => k_asm); (case k4 => k_asm); (case k5 => first | exact rfl | assumption); (case k6 => ktr_room))
  | (refine' opAdd ?k1 ?k2 ?k3 ?k4 ?k5 ?k6 ?_; (case k1 => k_asm); (case k2 => k_asm); (case k3 => k_asm); (case k4 => k_asm); (case k5 => first | exact rfl | assumption); (case k6 => ktr_room))
  | (refine' opMod ?k1 ?k2 ?k3 ?k4 ?k5 ?k6 ?k7 ?_; (case k1 => k_asm); (case k2 => k_asm); (case k3 => k_asm); (case k4 => k_asm); (case k5 => first | exact rfl | assumption); (case k6 => ktr_room); (case k7 => omega))
  | (refine' opMul ?k1 ?k2 ?k3 ?k4 ?k5 ?k6 ?k7 ?k8 ?_; (case k1 => k_asm); (case k2 => k_asm); (case k3 => k_asm); (case k4 => k_asm); (case k5 => first | exact rfl | assumption); (case k6 => ktr_room); (case k7 => omega); (case k8 => omega))); walk_at "m_post"))

local macro_rules | `(tactic| walk_at "m_mems") => `(tactic| (repeat' (first | exact List.forall_mem_nil _ | (refine List.forall_mem_cons.mpr ⟨by k_mem, ?_⟩))))
local macro_rules | `(tactic| walk_at "m_own") => `(tactic| (intro p9 hp9; (repeat' (first | exact hp9 | refine List.Mem.tail _ ?_))))

local macro_rules | `(tactic| k_room) => `(tactic| ktr_room)
def blank (way : Nat) : List Nat := List.replicate way 32 ++ [9]
def strOf (l : List Nat) : Str := ⟨l.toArray⟩
def stairsT (n : Nat) : List Nat := ((List.range n).map fun i => blank (1 + i)).flatten
def wayF (size ahead behind : Int) : Nat := (min ((behind - ahead).fmod size) ((ahead - behind).fmod size)).toNat
def rowT (size behind : Int) (ns : List Int) : List Nat := (ns.map fun ahead => blank (wayF size ahead behind)).flatten
def leadT (size : Int) (ns : List Int) (i : Nat) : List Nat := ((List.range i).map fun k => rowT size (ns.getD k 0) (ns.take k)).flatten
def stairsF (ns : List Int) (size : Int) : Bool := decide (wsF (strOf (leadT size ns ns.length)) = wsF (strOf (stairsT (size.fdiv 2).toNat)))

theorem blank_txt {n : Int} (h0 : 0 ≤ n) (h1 : n ≤ 40) : Txt.mul (Str.ofString " ") n ++ Str.ofString "\t" = strOf (blank n.toNat) := by
  have : ∀ k : Fin 41, Txt.mul (Str.ofString " ") (k : Int) ++ Str.ofString "\t" = strOf (blank k) := by decide +kernel
  have h := this ⟨n.toNat, by omega⟩
  have e : (((⟨n.toNat, by omega⟩ : Fin 41) : Nat) : Int) = n := by simp; omega
  simpa [e] using h
theorem strOf_app (a b : List Nat) : strOf a ++ strOf b = strOf (a ++ b) := by
  show Str.append _ _ = _
  simp [Str.append, strOf]
theorem strOf_nil : Str.ofString "" = strOf [] := by decide
theorem strOf_len (a : List Nat) : (strOf a).length = a.length := by simp [Str.length, strOf]
theorem join_strOf : ∀ ls : List (List Nat), Str.join (Str.ofString "") (ls.map strOf) = strOf ls.flatten
  | [] => rfl
  | [x] => by simp [Str.join]
  | x :: y :: r => by
    show strOf x ++ Str.ofString "" ++ Str.join (Str.ofString "") ((y :: r).map strOf) = _
    rw [join_strOf (y :: r), strOf_nil, strOf_app, strOf_app]
    simp
theorem strs_at {g : Nat → Str} : ∀ {ys : List Value} {n : Nat} (a : Nat), ys.length = n → (∀ (i : Nat) (y : Value), ys[i]? = some y → ∃ t, y = Value.str (g (a + i)) t) → StrsAre ys ((List.range' a n).map g)
  | [], 0, _, _, _ => .nil
  | [], _ + 1, _, h, _ => by simp at h
  | _ :: _, 0, _, h, _ => by simp at h
  | y :: ys, n + 1, a, h, f => by
    obtain ⟨t, rfl⟩ := f 0 y rfl
    rw [List.range'_succ]
    exact .cons _ _ (strs_at (a + 1) (by simpa using h) fun i y' hy => by
      obtain ⟨t', h2⟩ := f (i + 1) y' (by simpa using hy)
      exact ⟨t', by rw [h2]; congr 2; omega⟩)
theorem blank_len (n : Nat) : (blank n).length = n + 1 := by simp [blank]

theorem leadT_succ (size : Int) (ns : List Int) (i : Nat) : leadT size ns (i + 1) = leadT size ns i ++ rowT size (ns.getD i 0) (ns.take i) := by
  simp [leadT, List.range_succ]
theorem rowT_snoc (size behind : Int) (l : List Int) (a : Int) : rowT size behind (l ++ [a]) = rowT size behind l ++ blank (wayF size a behind) := by simp [rowT]
theorem way_le {size a b : Int} (h : 1 ≤ size ∧ size ≤ 21) : 0 ≤ min ((b - a).fmod size) ((a - b).fmod size) ∧ min ((b - a).fmod size) ((a - b).fmod size) ≤ 20 := by
  have h1 := Int.fmod_nonneg_of_pos (b - a) (show 0 < size by omega)
  have h2 := Int.fmod_lt_of_pos (b - a) (show 0 < size by omega)
  have h3 := Int.fmod_nonneg_of_pos (a - b) (show 0 < size by omega)
  omega
theorem rowT_len {size : Int} (h : 1 ≤ size ∧ size ≤ 21) (behind : Int) : ∀ l : List Int, (rowT size behind l).length ≤ 21 * l.length
  | [] => by simp [rowT]
  | a :: r => by
    have h1 := rowT_len h behind r
    have h2 := way_le (a := a) (b := behind) h
    have e : rowT size behind (a :: r) = blank (wayF size a behind) ++ rowT size behind r := by simp [rowT]
    rw [e, List.length_append, blank_len, List.length_cons]
    unfold wayF
    omega
theorem leadT_len {size : Int} (h : 1 ≤ size ∧ size ≤ 21) {ns : List Int} (hn : ns.length ≤ 5) : ∀ i, (leadT size ns i).length ≤ 105 * i
  | 0 => by simp [leadT]
  | i + 1 => by
    have h1 := leadT_len h hn i
    have h2 := rowT_len h (ns.getD i 0) (ns.take i)
    have h3 : (ns.take i).length ≤ 5 := by rw [List.length_take]; omega
    rw [leadT_succ, List.length_append]
    omega

theorem blank_signs {w : Nat} : ∀ c ∈ blank w, c = 32 ∨ c = 9 := by
  intro c hc
  rcases List.mem_append.mp hc with h | h
  · exact .inl (List.mem_replicate.mp h).2
  · exact .inr (List.mem_singleton.mp h)
theorem lead_signs {size : Int} {ns : List Int} {i : Nat} : ∀ c ∈ (strOf (leadT size ns i)).cps.toList, c = 32 ∨ c = 9 := by
  intro c hc
  have h : c ∈ leadT size ns i := hc
  obtain ⟨l, hl, hcl⟩ := List.mem_flatten.mp h
  obtain ⟨k, _, rfl⟩ := List.mem_map.mp hl
  obtain ⟨l2, hl2, hcl2⟩ := List.mem_flatten.mp hcl
  obtain ⟨a, _, rfl⟩ := List.mem_map.mp hl2
  exact blank_signs c hcl2
theorem stairs_signs {n : Nat} : ∀ c ∈ (strOf (stairsT n)).cps.toList, c = 32 ∨ c = 9 := by
  intro c hc
  have h : c ∈ stairsT n := hc
  obtain ⟨l, hl, hcl⟩ := List.mem_flatten.mp h
  obtain ⟨k, _, rfl⟩ := List.mem_map.mp hl
  exact blank_signs c hcl
theorem map_but4 {x y v a : Str} {m₁ m₀ : Str → Option Value} (hm : ∀ z, z ≠ x → z ≠ y → z ≠ v → z ≠ a → m₁ z = m₀ z) : m₁ = fun z => if z = x then m₁ x else if z = y then m₁ y else if z = v then m₁ v else if z = a then m₁ a else m₀ z := by
  funext z
  by_cases h1 : z = x
  · rw [if_pos h1, h1]
  rw [if_neg h1]
  by_cases h2 : z = y
  · rw [if_pos h2, h2]
  rw [if_neg h2]
  by_cases h3 : z = v
  · rw [if_pos h3, h3]
  rw [if_neg h3]
  by_cases h4 : z = a
  · rw [if_pos h4, h4]
  rw [if_neg h4]
  exact hm z h1 h2 h3 h4

theorem stairs {prog : Program} {w : World} {p : Program} {loose : List Str} {mean : ExcName → Option Value} {mg mb : Str → Option Value}
  (dp un : Nat) (gd : Option (List Code)) (cn : Str) (cs : Scope) (a : Addr) (ccd : Value) (cl : List (Str × Addr)) (outer : List Env) (A₀ : Around) (base h₀ : Heap) (L : Addr) (m : Str → Option Value) (s : Shared) (l : Addr) (vs : List Value) (ns : List Int) (size : Int) (t1 : Tok)
  (Q E : Value → Shared → Prop)
  (B : Below A₀ base outer h₀) (F : Fr h₀ L s.heap m) (X : (Kf w.params).In h₀) (T : Top p loose mean mg mb h₀) (hk : cs.kind = .function)
  {nl : Nat} (hl : s.heap.get? l = some (W.listOf vs.toArray nl)) (hi : IntsAre vs ns) (hlen : ns.length ≤ 5) (hsz : 1 ≤ size ∧ size ≤ 21)
  (hdp : dp + 50 < recursionLimit) (hu : un + 300 < cLine)
  (hret : ∀ h' tk', s.heap.StaysIn h' → Q (.bool (stairsF ns size)) { s with heap := h', toks := tk' }) :
  wpAny (model prog w) (ktrTop dp un gd cn cs L a ccd cl outer) (call (.ref 326) [.ref l, .int size t1]) Q E s := by
  have hll' : s.heap.IsList l vs.toArray := ⟨_, hl, rfl, _, rfl⟩
  refine wpAny_call ?_
  k_dflt walk_at "enterP"
  walk_at "m_toComp"
  refine compOne (by with_unfolding_all rfl) (by decide) (by rfl) (by decide) (by rfl) ?_
  k_fold
  k_steps
  show wpAny (model prog w) _ (pyIter _) _ _ _
  (rename IsRange _ _ _ _ _ _ _ _ => zR)
  (rename Fr _ _ _ _ => zF)
  (rename News _ _ _ _ => zN)
  have hsd : 0 ≤ size.fdiv 2 ∧ size.fdiv 2 ≤ 10 := by rw [Int.fdiv_eq_ediv_of_nonneg _ (by omega)]; omega
  refine oneRange 1 (n := (size.fdiv 2).toNat) (fun i y => ∃ t, y = Value.str (strOf (blank (1 + i))) t) rfl zR (by omega) (by omega) (by omega) ?_ ?_
  · intro i t3 C m₂ h tk2 E' hi3 hst hC hns hm
    obtain ⟨oC, heC, hoC⟩ := LCg.ns_obj hns
    have hi4 : i < 10 := by omega
    have F2 := fr_stay zF hst
    have N3 := more_news (news_stay zN hst) heC (Nat.ne_of_gt (Nat.lt_trans zF.ns.lt hC)) (get_new (Nat.le_trans zF.above (Nat.le_of_lt (Nat.lt_trans zF.ns.lt hC))))
    clear zN zF
    have kE := InElt.start h
    show wpAny (model prog w) _ (eval _ _) _ _ _
    k_fold
    k_steps
    refine ⟨⟨_, congrArg (fun z => Value.str z _) ?_⟩, _, _, rfl, by assumption⟩
    exact (blank_txt (by omega) (by omega)).trans (by rw [Int.toNat_natCast])
  · intro D ys h tk2 hln hG hst hD hDs
    have hys : StrsAre ys (((List.range (size.fdiv 2).toNat).map fun i => blank (1 + i)).map strOf) := by
      have := strs_at (g := fun i => strOf (blank (1 + i))) 0 hln (fun i y hy => by simpa using hG i y hy)
      rw [List.map_map, List.range_eq_range']
      exact this
    have hz3 : (stairsT (size.fdiv 2).toNat).length ≤ 200 := by
      have : ∀ k : Fin 11, (stairsT k).length ≤ 200 := by decide +kernel
      exact this ⟨(size.fdiv 2).toNat, by omega⟩
    have F2 := fr_stay zF hst
    have N3 := news_more zF zN hst hD (get_new (Nat.le_of_lt hDs))
    clear zN zF
    k_steps
    refine join_list ⟨_, hD, rfl, _, rfl⟩ hys ?_ ?_
    · have e : (((List.range (size.fdiv 2).toNat).map fun i => blank (1 + i)).map strOf).map (·.length) = ((List.range (size.fdiv 2).toNat).map fun i => blank (1 + i)).map List.length := by
        rw [List.map_map]; congr 1
      rw [e, ← List.length_flatten]
      have : (Str.ofString "").length = 0 := by decide
      rw [this]
      unfold stairsT at hz3
      omega
    · intro t' k
      have e : Txt.join (Str.ofString "") (((List.range (size.fdiv 2).toNat).map fun i => blank (1 + i)).map strOf) = strOf (stairsT (size.fdiv 2).toNat) := (StrLaws.glued_eq_join _ _).trans (join_strOf _)
      rw [e]
      (try dsimp only)
      (try k_fold)
      walk_at "m_toFor"
      refine wpAny_For ?_ (by intro _; rfl)
      show wpAny (model prog w) _ _ _ _ _
      k_fold
      repeat' ((fail_if_success (with_reducible show wpAny _ _ (call (Value.type "enumerate") _ _) _ _ _)); first | (k_unfold; (try dsimp only)) | walk1 | (dsimp only; walk1))
      (rename Fr _ _ _ _ => F5)
      (rename News _ _ _ _ => N5)
      obtain ⟨m0, hm0, FD⟩ := frNamed F5
      rename_i h5
      have hlh : h5.get? l = some (W.listOf vs.toArray nl) := F5.keep _ _ hl
      refine call_enumerate_1 hlh fun h8 he8 hi8 hz8 st8 => ?_
      have F8 := FD.keeps st8
      have N8 := news_stay N5 st8
      have FK := FD
      have hNz := fun p hp => Heap.lt_size (N5 p hp).1
      clear FD N5 F5
      have hlz : l < h5.objs.size := Heap.lt_size hlh
      have hL8 := F8.ns.lt
      obtain ⟨Lz, hLz⟩ : ∃ Lz, Lz = h5.objs.size := ⟨_, rfl⟩
      (try dsimp only at he8 hi8 hz8 ⊢)
      show wpAny (model prog w) _ (pyIter _) _ _ _
      refine wpAny_pyIter_enum he8 ?_
      have fresh : ∀ b, h5.objs.size ≤ b → s.heap.get? b = none := fun b hb => by
        cases e : s.heap.get? b with
        | none => rfl
        | some o => exact absurd (Heap.lt_size (FK.keep _ _ e)) (Nat.not_lt.mpr hb)
      have hvn := hi.length
      refine forPairs (fun i m₁ => (∃ t, m₁ (Str.ofString "lead") = some (.str (strOf (leadT size ns i)) t)) ∧ ∀ z, z ≠ Str.ofString "k" → z ≠ Str.ofString "behind" → z ≠ Str.ofString "ahead" → z ≠ Str.ofString "lead" → m₁ z = m0 z)
        (WalksT.enumerate rfl (h5.objs.size + 1) h5.objs.size l (Nat.ne_of_gt (Nat.lt_succ_self _)) (Nat.ne_of_lt (Nat.lt_succ_of_lt hlz)) (Nat.ne_of_lt hlz) vs.toArray) rfl ⟨⟨_, he8⟩, hi8, ⟨_, st8 _ _ hlh, rfl, _, rfl⟩⟩
        ?fpz ?wrz ?nwz rfl rfl rfl ?two F8 N8 ⟨⟨_, by rw [hm0]; rfl⟩, fun _ _ _ _ _ => rfl⟩ (by passes_own) ?_ ?_
      case fpz =>
        intro b hb
        simp only [List.mem_cons, List.not_mem_nil, or_false] at hb ⊢
        rcases hb with h | h | h
        · exact .inl (.inl h)
        · exact .inl (.inr h)
        · exact .inr ⟨_, h ▸ hl⟩
      case wrz =>
        intro b hb
        simp only [List.mem_cons, List.not_mem_nil, or_false] at hb
        have hLk := FK.ns.lt
        rcases hb with h | h
        · exact ⟨fresh _ (by rw [h]; exact Nat.le_succ _), by rw [h]; exact Nat.ne_of_gt (Nat.lt_succ_of_lt hLk)⟩
        · exact ⟨fresh _ (by rw [h]; exact Nat.le_refl _), by rw [h]; exact Nat.ne_of_gt hLk⟩
      case nwz =>
        intro q hq hm
        have := hNz q hq
        simp only [List.mem_cons, List.not_mem_nil, or_false] at hm
        rcases hm with h | h
        · exact absurd (h ▸ this) (Nat.not_lt.mpr (Nat.le_succ _))
        · exact absurd (h ▸ this) (Nat.lt_irrefl _)
      case two =>
        rintro i vals ⟨t, x, _, rfl⟩
        exact ⟨_, _, rfl⟩
      · rintro i va vb m₁ h₁ tk₁ own hin ⟨tq, xq, hxq, hvv⟩ ⟨⟨tl, el⟩, hm⟩ F₁ N₁
        have hvv2 : va = .int i tq ∧ vb = xq := by simpa using hvv
        obtain ⟨rfl, rfl⟩ := hvv2
        obtain ⟨behind, tb, hkb, rfl⟩ := ints_at hi (by simpa using hxq)
        have hi5 : i < ns.length := by simpa [hvn] using hin
        have hll := leadT_len hsz hlen i
        rw [map_but4 hm, el] at F₁
        subst hm0
        simp only [List.cons_append, List.nil_append] at N₁
        clear N8 F8 FK
        show wpAny (model prog w) _ _ _ _ _
        k_fold
        walk_at "m_toFor"
        refine For_invT s.heap ?_ (by intro _; rfl)
        show wpAny (model prog w) _ _ _ _ _
        k_fold
        k_steps
        show wpAny (model prog w) _ (pyIter _) _ _ _
        (rename Fr _ _ _ _ => FC)
        (rename News _ _ _ _ => NC)
        (rename IntsAre _ (List.take _ ns) => hIt)
        (rename _ ∧ _ ∧ AllLt _ _ => lz9)
        rw [Int.toNat_natCast] at hIt
        obtain ⟨m9, hm9, FD9⟩ := frNamed FC
        obtain ⟨nwq, hnwq, Nq⟩ := newsNamed (show News s.heap _ _ _ from fun q hq => NC q (.tail _ hq))
        refine listT (fun j m₂ nw => nw = nwq ∧ (∃ t, m₂ (Str.ofString "lead") = some (.str (strOf (leadT size ns i ++ rowT size behind ((ns.take i).take j))) t)) ∧ ∀ z, z ≠ Str.ofString "ahead" → z ≠ Str.ofString "lead" → m₂ z = m9 z)
          rfl (by intro _ _; rfl) ⟨_, (NC _ (.head _)).1, rfl, _, rfl⟩ hIt (NC _ (.head _)).2.1 FD9 Nq ?nl9 ⟨rfl, ⟨tl, by rw [hm9]; show _ = some (Value.str (strOf (leadT size ns i ++ [])) tl); rw [List.append_nil]; rfl⟩, fun _ _ _ => rfl⟩ ?_ ?_
        case nl9 =>
          rw [hnwq]
          refine List.forall_mem_cons.mpr ⟨Nat.ne_of_lt lz9.1, List.forall_mem_cons.mpr ⟨Nat.ne_of_lt lz9.2.1, fun q hq => Nat.ne_of_lt (ofAllLt lz9.2.2 q hq)⟩⟩
        · rintro j ahead ta m₂ nw s₁ own2 hja hadr hoff ⟨rfl, ⟨tl2, el2⟩, hm2⟩ F₂ N₂
          have hj5 : j < 5 := by
            rcases Nat.lt_or_ge j (ns.take i).length with q | q
            · rw [List.length_take] at q; omega
            · rw [List.getElem?_eq_none q] at hja; cases hja
          have hrl := rowT_len hsz behind ((ns.take i).take j)
          have hrl2 : ((ns.take i).take j).length ≤ j := by rw [List.length_take]; omega
          have hsl : (strOf (leadT size ns i ++ rowT size behind ((ns.take i).take j))).length ≤ 700 := by rw [strOf_len, List.length_append]; omega
          rw [map_but2 hm2, el2] at F₂
          subst hm9
          clear FC NC FD9 Nq
          show wpAny (model prog w) _ _ _ _ _
          k_fold
          k_steps
          obtain ⟨wy, hwy⟩ : ∃ wy : Int, wy = (if (ahead - behind).fmod size < (behind - ahead).fmod size then (ahead - behind).fmod size else (behind - ahead).fmod size) := ⟨_, rfl⟩
          rw [← hwy]
          have hwm : wy = min ((behind - ahead).fmod size) ((ahead - behind).fmod size) := by rw [hwy]; split <;> omega
          have hwb := way_le (a := ahead) (b := behind) hsz
          rw [← hwm] at hwb
          have hwf : wayF size ahead behind = wy.toNat := by unfold wayF; rw [← hwm]
          obtain ⟨hw0, hw1⟩ := hwb
          clear hwy
          k_steps
          (rename Fr _ _ _ _ => F9)
          (rename News _ _ _ _ => N9)
          have hnew : strOf (leadT size ns i ++ rowT size behind ((ns.take i).take j)) ++ (Txt.mul (Str.ofString " ") wy ++ Str.ofString "\t") = strOf (leadT size ns i ++ rowT size behind ((ns.take i).take (j + 1))) := by
            rw [blank_txt hw0 (by omega), strOf_app, List.append_assoc, ← hwf, List.take_add_one, hja, Option.toList_some, rowT_snoc]
          refine turn_intro nw F9 N9 (fun q hq => List.mem_append_left _ hq) (fun q hq => List.mem_append_right _ hq) rfl ⟨rfl, ⟨_, congrArg (fun z => some (Value.str z _)) hnew⟩, ?_⟩
          · intro z hz1 hz2
            simp only [if_neg hz1, if_neg hz2]
        · rintro m₂ nw h₂ tk₂ ⟨rfl, ⟨tl2, el2⟩, hm2⟩ F₂ N₂ _
          dsimp only at hm2 el2 ⊢
          rw [map_but2 hm2, el2] at F₂
          subst hm9
          subst hnwq
          clear FC NC FD9 Nq
          show wpAny (model prog w) _ _ _ _ _
          (try k_fold)
          k_steps
          (rename Fr _ _ _ _ => F9)
          (rename News _ _ _ _ => N9)
          have hnew : strOf (leadT size ns i ++ rowT size behind ((ns.take i).take (ns.take i).length)) = strOf (leadT size ns (i + 1)) := by
            rw [leadT_succ, List.take_of_length_le (Nat.le_refl _), List.getD_eq_getElem?_getD, hkb]
            rfl
          refine ⟨rfl, _, _, _, rfl, F9, N9, ⟨_, congrArg (fun z => some (Value.str z _)) hnew⟩, ?_⟩
          · intro z hz1 hz2 hz3 hz4
            simp only [if_neg hz1, if_neg hz2, if_neg hz3, if_neg hz4]
      · rintro m₁ h₁ tk₁ ⟨⟨tl, el⟩, hm⟩ F₁ N₁
        dsimp only at hm el ⊢
        rw [map_but4 hm, el] at F₁
        subst hm0
        clear N8 F8 FK
        show wpAny (model prog w) _ _ _ _ _
        (try k_fold)
        repeat ((fail_if_success (with_reducible show wpAny _ _ (call (Value.ref 279) _ _) _ _ _)); first | (k_unfold; (try dsimp only)) | walk1 | (dsimp only; walk1))
        have hlb : (leadT size ns ns.length).length ≤ 525 := by
          have := leadT_len hsz hlen ns.length
          omega
        rw [show vs.toArray.size = ns.length from by simpa using hvn]
        k_dflt refine' ws _ _ _ _ _ _ _ _ _ _ _ _ _ _ _ _ _ _ _ ?w1 ?w2 ?w3 ?w4 rfl ?w6 ?w7 ?w8 ?w9 _ ?wa ?_
        case w1 => k_asm
        case w2 => k_asm
        case w3 => k_asm
        case w4 => k_asm
        case w6 => ktr_room
        case w7 => walk_at "m_units"
        case w8 => exact lead_signs
        case w9 => show (leadT size ns ns.length).toArray.size ≤ 600; rw [List.size_toArray]; omega
        case wa => k_asm
        intro y dy tn tc wvs nn nt sm k1 k2 k3 k4 k5 u1 u2 u3 h9 tk9 F9 N9 hI9 hI9l ly1 ly2 ly3 ly4
        have ly1' := ly1
        have ly2' := ly2
        dsimp only
        k_sweep
        (try k_fold)
        repeat ((fail_if_success (with_reducible show wpAny _ _ (call (Value.ref 279) _ _) _ _ _)); first | (k_unfold; (try dsimp only)) | walk1 | (dsimp only; walk1))
        k_dflt refine' ws _ _ _ _ _ _ _ _ _ _ _ _ _ _ _ _ _ _ _ ?w1 ?w2 ?w3 ?w4 rfl ?w6 ?w7 ?w8 ?w9 _ ?wa ?_
        case w1 => k_asm
        case w2 => k_asm
        case w3 => k_asm
        case w4 => k_asm
        case w6 => ktr_room
        case w7 => walk_at "m_units"
        case w8 => exact stairs_signs
        case w9 => show (stairsT (size.fdiv 2).toNat).toArray.size ≤ 600; rw [List.size_toArray]; omega
        case wa => k_asm
        intro y' dy' tn' tc' wvs' nn' nt' sm' k1' k2' k3' k4' k5' u1' u2' u3' h8' tk8 F7 N7 hI8 hI8l lx1 lx2 lx3 lx4
        dsimp only
        k_sweep
        (try k_fold)
        repeat ((fail_if_success (with_reducible show wpAny _ _ (call (Value.ref 255) _ _) _ _ _)); first | (k_unfold; (try dsimp only)) | walk1 | (dsimp only; walk1))
        refine wpAny_call ?_
        k_dflt refine' wseq ?e1 ?e2 ?e3 ?e4 ?e5 (show News s.heap _ _ _ from N7) hI9 hI8 ?e6 ?e7 ?_
        case e1 => k_asm
        case e2 => k_asm
        case e3 => k_asm
        case e4 => k_asm
        case e5 => rfl
        case e6 => ktr_room
        case e7 => walk_at "m_units"
        intro h6 tk6 F6
        dsimp only
        k_sweep
        (try k_fold)
        k_steps
        exact hret _ _ F6.keep

end

section

-- nofill
theorem ints_lit3 {h₀ h : Heap} {L a : Addr} {t u v : Tok} {n : Nat} {rest : List (Addr × Obj)} (_N : News h₀ L h ((a, W.listOf #[.int 4 t, .int 6 u, .int 2 v] n) :: rest)) : IntsAre [.int 4 t, .int 6 u, .int 2 v] [4, 6, 2] := by
  repeat' constructor
theorem nums_are (ss : List Int) : ∃ a b c : Int, (ss.take 3).map (fun k => k.fmod (10 ^ 6)) ++ ([4, 6, 2] : List Int).drop (((ss.take 3).map (fun k => k.fmod (10 ^ 6))).length) = [a, b, c] ∧ (0 ≤ a ∧ a < 1000000) ∧ (0 ≤ b ∧ b < 1000000) ∧ (0 ≤ c ∧ c < 1000000) := by
  have hb : ∀ x : Int, 0 ≤ x.fmod 1000000 ∧ x.fmod 1000000 < 1000000 := fun x => ⟨Int.fmod_nonneg_of_pos x (by decide), Int.fmod_lt_of_pos x (by decide)⟩
  match ss with
  | [] => exact ⟨4, 6, 2, rfl, by decide, by decide, by decide⟩
  | [x] => exact ⟨_, 6, 2, rfl, hb x, by decide, by decide⟩
  | [x, y] => exact ⟨_, _, 2, rfl, hb x, hb y, by decide⟩
  | x :: y :: z :: r => exact ⟨_, _, _, rfl, hb x, hb y, hb z⟩
section
variable {prog : Program} {w : World} {A : Around} {E : Value → Shared → Prop} {s : Shared} {h₀ : Heap} {L : Addr} {m : Str → Option Value} {news : List (Addr × Obj)}
theorem subTail_temp {value slice : Expr} {o i : Value} {T id : String} {ops : List Value} {Q : Value → Shared → Prop} (hT : s.TypeIs o T)
    (hl : typeLookup (.type T) "__getitem__" = pure (some (.builtin id))) (h : wpAny (model prog w) A (getItem o i) Q E s)
    (hs : subscripted slice false o i = operate ops (getItem o i)) :
    wpAny (model prog w) A (subscriptTail value slice o i) Q E s := by
  unfold subscriptTail
  refine wpAny_bind ?_
  rw [getitemInPython_of_ne hT.not_modules]
  refine wpAny_bind (wpAny_specialOf hT hl ?_)
  have fin : wpAny (model prog w) A (subscripted slice false o i) (fun r s₃ => wpAny (model prog w) A (letTemporaryGo value o r >>= fun _ => pure r) Q E s₃) E s := by
    rw [hs]
    exact wpAny_operating (wpAny_mono h (fun r s₃ h₃ => wpAny_bind (wpAny_letTemporaryGo (wpAny_pure h₃))) fun _ _ x => x)
  first
    | exact wpAny_pure (wpAny_bind fin)
    | exact wpAny_bind (wpAny_pure (wpAny_bind fin))
    | exact wpAny_bind fin
/-- a slice from k on, of a list that goes then -/
theorem slice_fromT {value slice : Expr} {l : Addr} {vs : List Value} {ns : List Int} {x : Int} {u : Tok} {Q : Value → Shared → Prop}
    (F : Fr h₀ L s.heap m) (N : News h₀ L s.heap news) (hl : s.heap.IsList l vs.toArray) (hi : IntsAre vs ns) (h0 : 0 ≤ x)
    (h : ∀ D ws h', Fr h₀ L h' m → News h₀ L h' ((D, W.listOf (List.toArray ws) 0) :: news) → (∀ p ∈ news, p.1 < D) → IntsAre ws (ns.drop x.toNat) → Q (.ref D) { s with heap := h' })
    (hs : subscripted slice false (.ref l) (.ref s.heap.objs.size) = operate [.ref s.heap.objs.size, .ref l] (getItem (.ref l) (.ref s.heap.objs.size)))
    (hsz : vs.toArray.size ≤ sizeLine) :
    wpAny (model prog w) A (subscriptTail value slice (.ref l) (.ref s.heap.objs.size)) Q E { s with heap := s.heap.push { cls := .type "slice", data := .fields #[.int x u, .none, .none] } } := by
  refine subTail_temp (Heap.IsList.typeIs (s := { s with heap := s.heap.push { cls := .type "slice", data := .fields #[.int x u, .none, .none] } }) (hl.push _)) list_getitem_lookup
    (wpAny_getItem_list_slice (hl.push _) (Heap.IsSliceOf.new ..) (IsPart.int _ _) IsPart.none .none (by simp) ?_ hsz) hs
  have N1 := News.push (F.push { cls := .type "slice", data := .fields #[.int x u, .none, .none] }) (N.grown fun _ _ e => Heap.get?_push_of_some _ e) { cls := .type "list", data := .seq (slicePick vs.toArray (some x) none none) }
  rw [Heap.size_push] at N1
  show Q (.ref (s.heap.push _).objs.size) _
  rw [Heap.size_push]
  refine h _ (slicePick vs.toArray (some x) none none).toList _ ((F.push _).push _) ?_ (fun p hp => Nat.lt_succ_of_lt (Heap.lt_size (N p hp).1)) (kmk_from hi h0)
  rw [Array.toArray_toList]
  exact N1
end
theorem ints_eq {vs : List Value} {a b : List Int} (h : IntsAre vs a) (e : a = b) : IntsAre vs b := e ▸ h
theorem ne_of_old {h₀ h : Heap} {L D : Addr} {m : Str → Option Value} (F : Fr h₀ L h m) (f : h.get? D = none) : D ≠ L := fun e => by
  obtain ⟨o, ho, _⟩ := LCg.ns_obj F.ns
  rw [← e] at ho
  rw [ho] at f
  cases f
theorem fresh_of {h₀ h : Heap} {L D : Addr} {m : Str → Option Value} (F : Fr h₀ L h m) (f : h.get? D = none) : h₀.get? D = none := by
  cases e : h₀.get? D with
  | none => rfl
  | some o => rw [F.keep _ _ e] at f; cases f
/-- two addresses differ: said so that omega does not see it -/
def NeF (a b : Nat) : Prop := a ≠ b
theorem neF {a b : Nat} (h : NeF a b) : @Ne Nat a b := h
theorem neF' {a b : Nat} (h : NeF a b) : @Ne Nat b a := fun e => h e.symm
def AllNe (d : Nat) : List (Addr × Obj) → Prop
  | [] => True
  | p :: r => NeF p.1 d ∧ AllNe d r
theorem allNe_of {d : Addr} : ∀ {l : List (Addr × Obj)}, (∀ p ∈ l, p.1 ≠ d) → AllNe d l
  | [], _ => trivial
  | p :: _, h => ⟨h p (.head _), allNe_of fun q hq => h q (.tail _ hq)⟩
theorem allNe_fresh {h₀ h : Heap} {L D : Addr} {news : List (Addr × Obj)} (N : News h₀ L h news) (f : h.get? D = none) : AllNe D news :=
  allNe_of fun p hp e => by
    have := (N p hp).1
    rw [e, f] at this
    cases this
theorem news_d4 {h₀ h : Heap} {L : Addr} {a b c d1 d2 d3 d4 : Addr × Obj} {r : List (Addr × Obj)} (N : News h₀ L h (a :: b :: c :: d1 :: d2 :: d3 :: d4 :: r)) : News h₀ L h (a :: b :: c :: r) := fun p hp => N p (by
  rcases List.mem_cons.mp hp with h | hp
  · exact h ▸ .head _
  rcases List.mem_cons.mp hp with h | hp
  · exact h ▸ .tail _ (.head _)
  rcases List.mem_cons.mp hp with h | hp
  · exact h ▸ .tail _ (.tail _ (.head _))
  exact .tail _ (.tail _ (.tail _ (.tail _ (.tail _ (.tail _ (.tail _ hp)))))))
theorem ne_fresh {h₀ h : Heap} {L D : Addr} {news : List (Addr × Obj)} (N : News h₀ L h news) (f : h.get? D = none) : ∀ p ∈ news, p.1 ≠ D := fun p hp e => by
  have := (N p hp).1
  rw [e, f] at this
  cases this

end

section

-- nofill
theorem units_len {sz : Nat} (h : Ring sz) : 6 ≤ (unitsF sz (sz - 1)).length ∧ (unitsF sz (sz - 1)).length ≤ 12 ∧ ∀ u ∈ unitsF sz (sz - 1), 1 ≤ u ∧ u ≤ 20 := by
  rcases h with rfl | rfl | rfl <;> decide +kernel
theorem getD_mem {l : List Int} {k : Int} (h0 : 0 ≤ k) (h1 : k < l.length) : l.getD k.toNat 0 ∈ l := by
  rw [List.getD_eq_getElem?_getD, List.getElem?_eq_getElem (by omega)]
  exact List.getElem_mem _
/-- of the ledger the first, third and sixth, and what is behind -/
theorem news_p1 {h₀ h : Heap} {L : Addr} {a d b d2 d3 c : Addr × Obj} {r : List (Addr × Obj)} (N : News h₀ L h (a :: d :: b :: d2 :: d3 :: c :: r)) : News h₀ L h (a :: b :: c :: r) := fun p hp => N p (by
  rcases List.mem_cons.mp hp with h | hp
  · exact h ▸ .head _
  rcases List.mem_cons.mp hp with h | hp
  · exact h ▸ .tail _ (.tail _ (.head _))
  rcases List.mem_cons.mp hp with h | hp
  · exact h ▸ .tail _ (.tail _ (.tail _ (.tail _ (.tail _ (.head _)))))
  exact .tail _ (.tail _ (.tail _ (.tail _ (.tail _ (.tail _ hp))))))
theorem news_d2 {h₀ h : Heap} {L : Addr} {d1 d2 : Addr × Obj} {r : List (Addr × Obj)} (N : News h₀ L h (d1 :: d2 :: r)) : News h₀ L h r := fun p hp => N p (.tail _ (.tail _ hp))
theorem news_d1 {h₀ h : Heap} {L : Addr} {d1 : Addr × Obj} {r : List (Addr × Obj)} (N : News h₀ L h (d1 :: r)) : News h₀ L h r := fun p hp => N p (.tail _ hp)
theorem news_many {h₀ h h' : Heap} {L : Addr} {m : Str → Option Value} {news l : List (Addr × Obj)} (F : Fr h₀ L h m) (N : News h₀ L h news) (st : h.StaysIn h') (hq : ∀ q ∈ l, h'.get? q.1 = some q.2 ∧ h.get? q.1 = none) : News h₀ L h' (l ++ news) := fun q h => by
  rcases List.mem_append.mp h with g | g
  · exact ⟨(hq q g).1, ne_of_old F (hq q g).2, fresh_of F (hq q g).2⟩
  · exact news_stay N st q g
theorem news_swap {h₀ h : Heap} {L : Addr} {a b c d e : Addr × Obj} {tp old : List (Addr × Obj)} (N : News h₀ L h (a :: b :: c :: d :: e :: (tp ++ old))) : News h₀ L h (b :: c :: d :: e :: (old ++ tp)) := fun p hp => N p (by
  rcases List.mem_cons.mp hp with h | hp
  · exact h ▸ .tail _ (.head _)
  rcases List.mem_cons.mp hp with h | hp
  · exact h ▸ .tail _ (.tail _ (.head _))
  rcases List.mem_cons.mp hp with h | hp
  · exact h ▸ .tail _ (.tail _ (.tail _ (.head _)))
  rcases List.mem_cons.mp hp with h | hp
  · exact h ▸ .tail _ (.tail _ (.tail _ (.tail _ (.head _))))
  refine .tail _ (.tail _ (.tail _ (.tail _ (.tail _ ?_))))
  rcases List.mem_append.mp hp with h | h
  · exact List.mem_append_right _ h
  · exact List.mem_append_left _ h)
theorem readsAll_bools {h : Heap} : ∀ bs : List Bool, PySem.ReadsAll h (bs.map Value.bool) (bs.map PyData.bool) []
  | [] => .nil
  | b :: r => by
    have := PySem.ReadsAll.cons (PySem.Reads.bool (h := h) b) (readsAll_bools (h := h) r)
    simpa using this
theorem reads_bools {h : Heap} {a : Addr} {bs : List Bool} (hl : h.IsList a (bs.map Value.bool).toArray) : PySem.Reads h (.ref a) (.list (bs.map PyData.bool)) [a] := by
  obtain ⟨o, ho, hc, n, hd⟩ := hl
  exact PySem.Reads.list ho hc hd (by simpa using readsAll_bools bs)
theorem canLay_bools : ∀ bs : List Bool, PyData.canLayAll0 (bs.map PyData.bool) = true
  | [] => by simp [PyData.canLayAll0]
  | n :: r => by simp [PyData.canLayAll0, PyData.canLay0, canLay_bools r]
theorem depth_bools : ∀ bs : List Bool, PyData.depthAll (bs.map PyData.bool) ≤ 1
  | [] => by simp [PyData.depthAll]
  | n :: r => by
    have := depth_bools r
    simp only [List.map_cons, PyData.depthAll, PyData.depth]
    omega
theorem shaped_bools (bs : List Bool) : PySem.SeqAt.shaped (.list (bs.map PyData.bool)) = true := by
  have h1 := depth_bools bs
  have h2 : PyData.depth (.list (bs.map PyData.bool)) ≤ 64 := by simp only [PyData.depth]; omega
  show (PyData.canLay0 (.list (bs.map PyData.bool)) && decide (PyData.depth (.list (bs.map PyData.bool)) ≤ 64)) = true
  rw [Bool.and_eq_true]
  exact ⟨by simp only [PyData.canLay0]; exact canLay_bools bs, decide_eq_true h2⟩
theorem noMix_bools : ∀ bs cs : List Bool, PySem.SeqAt.noMixAll (bs.map PyData.bool) (cs.map PyData.bool) = true
  | [], [] => by simp [PySem.SeqAt.noMixAll]
  | [], _ :: _ => by simp [PySem.SeqAt.noMixAll]
  | _ :: _, [] => by simp [PySem.SeqAt.noMixAll]
  | _ :: r, _ :: q => by simp [PySem.SeqAt.noMixAll, PySem.SeqAt.noMix, noMix_bools r q]
theorem same_bools : ∀ bs cs : List Bool, PySem.Spec.sameAll (bs.map PyData.bool) (cs.map PyData.bool) = decide (bs = cs)
  | [], [] => by simp [PySem.Spec.sameAll]
  | [], _ :: _ => by simp [PySem.Spec.sameAll]
  | _ :: _, [] => by simp [PySem.Spec.sameAll]
  | n :: r, k :: q => by
    simp only [List.map_cons, PySem.Spec.sameAll, PySem.Spec.same, same_bools r q]
    by_cases h : n = k <;> simp [h]
theorem ne_boolsK {prog : Program} {w : World} {A : Around} {E : Value → Shared → Prop} {s : Shared} {a b : Addr} {bs cs : List Bool} {Q : Value → Shared → Prop} (hl : s.heap.IsList a (bs.map Value.bool).toArray) (hl' : s.heap.IsList b (cs.map Value.bool).toArray) (hu : A.units + 64 < cLine)
    (h : Q (.bool (!decide (bs = cs))) s) : wpAny (model prog w) A (compareOp .NotEq (.ref a) (.ref b)) Q E s :=
  PyProof.Rows.ne_dataH_same (reads_bools hl) (reads_bools hl') (shaped_bools bs) (shaped_bools cs) hu (by simp only [PySem.SeqAt.noMix]; exact noMix_bools bs cs) (by simp only [PySem.Spec.same]; rw [same_bools]; exact h)
theorem trues {n : Nat} : (List.replicate n [Value.bool true]).flatten = (List.replicate n true).map Value.bool := by
  rw [List.flatten_replicate_singleton, List.map_replicate]
theorem is_list_eq {h : Heap} {a : Addr} {xs ys : Array Value} (l : h.IsList a xs) (e : xs = ys) : h.IsList a ys := e ▸ l

end

section

-- nofill
def placesF (sz : Nat) (u n1 : Int) : List Int := isort ((baseF sz).map fun k => (u * k + n1).fmod (sz : Int))
def wayOk (sz : Nat) (ps : List Int) (hs : List (Str × Str)) (d : Int) : Bool :=
  match getF hs (PySem.Txt.lower (PySem.Txt.upper (wordF [d]))) with
  | some v => ps.any fun p => v == strI p && (rangeKs 0 sz).all fun a => ((ps.any fun x => x == a) && (ps.any fun x => x == (a + d).fmod sz)) == (a == p)
  | none => false
def turnOk (sz : Nat) (ps : List Int) (f : Int) : Bool :=
  let w := wordF (sizesF ps sz)
  let t := sizesF (ps.map fun p => (f * p).fmod sz) sz
  t.all (fun n => decide (1 ≤ n ∧ n ≤ 20)) && (containsF (w ++ w) (wordF t) == (powersF sz).any fun x => x == f)
def lineOk (sz : Nat) (ps : List Int) : Bool :=
  let ss := sizesF ps sz
  let bk := bookOut sz ps ps
  decide (ps.length ≤ 5 ∧ 3 ≤ ps.length) && ps.all (fun p => decide (0 ≤ p ∧ p < (sz : Int))) && ss.all (fun n => decide (1 ≤ n ∧ n ≤ 20)) && decide (ss.length = ps.length) &&
  (marksF (ps.getD 0 0) ss ss.length == ps ++ [ps.getD 0 0 + sz]) && stairsF ps sz && (bk.2 == List.replicate (sz - 1) true) && decide (bk.1.length = sz - 1) &&
  (rangeKs 1 (sz - 1)).all (wayOk sz ps bk.1) && (unitsF sz (sz - 1)).all (turnOk sz ps) && decide ((ownF ps (primeF sz) sz sz).length = 1)

end

section

-- nofill
-- printed by wip/genplain.py
def lines7 : List (List Int) := [[0, 1, 3], [0, 1, 5], [0, 2, 3], [0, 2, 6], [0, 4, 5], [0, 4, 6], [1, 2, 4], [1, 2, 6], [1, 3, 4], [1, 5, 6], [2, 3, 5], [2, 4, 5], [3, 4, 6], [3, 5, 6]]
theorem in7 : (unitsF 7 6).all (fun u => (rangeKs 0 7).all fun r => lines7.any fun l => l == placesF 7 u r) = true := by decide +kernel
theorem ok7_0 : lineOk 7 [0, 1, 3] = true := by decide +kernel
theorem ok7_1 : lineOk 7 [0, 1, 5] = true := by decide +kernel
theorem ok7_2 : lineOk 7 [0, 2, 3] = true := by decide +kernel
theorem ok7_3 : lineOk 7 [0, 2, 6] = true := by decide +kernel
theorem ok7_4 : lineOk 7 [0, 4, 5] = true := by decide +kernel
theorem ok7_5 : lineOk 7 [0, 4, 6] = true := by decide +kernel
theorem ok7_6 : lineOk 7 [1, 2, 4] = true := by decide +kernel
theorem ok7_7 : lineOk 7 [1, 2, 6] = true := by decide +kernel
theorem ok7_8 : lineOk 7 [1, 3, 4] = true := by decide +kernel
theorem ok7_9 : lineOk 7 [1, 5, 6] = true := by decide +kernel
theorem ok7_10 : lineOk 7 [2, 3, 5] = true := by decide +kernel
theorem ok7_11 : lineOk 7 [2, 4, 5] = true := by decide +kernel
theorem ok7_12 : lineOk 7 [3, 4, 6] = true := by decide +kernel
theorem ok7_13 : lineOk 7 [3, 5, 6] = true := by decide +kernel
theorem ok7 : ∀ l ∈ lines7, lineOk 7 l = true := List.forall_mem_cons.mpr ⟨ok7_0, List.forall_mem_cons.mpr ⟨ok7_1, List.forall_mem_cons.mpr ⟨ok7_2, List.forall_mem_cons.mpr ⟨ok7_3, List.forall_mem_cons.mpr ⟨ok7_4, List.forall_mem_cons.mpr ⟨ok7_5, List.forall_mem_cons.mpr ⟨ok7_6, List.forall_mem_cons.mpr ⟨ok7_7, List.forall_mem_cons.mpr ⟨ok7_8, List.forall_mem_cons.mpr ⟨ok7_9, List.forall_mem_cons.mpr ⟨ok7_10, List.forall_mem_cons.mpr ⟨ok7_11, List.forall_mem_cons.mpr ⟨ok7_12, List.forall_mem_cons.mpr ⟨ok7_13, List.forall_mem_nil _⟩⟩⟩⟩⟩⟩⟩⟩⟩⟩⟩⟩⟩⟩
def lines13 : List (List Int) := [[0, 1, 3, 9], [0, 1, 4, 6], [0, 1, 5, 11], [0, 1, 8, 10], [0, 2, 3, 7], [0, 2, 5, 6], [0, 2, 8, 12], [0, 2, 9, 10], [0, 3, 4, 11], [0, 3, 5, 12], [0, 4, 5, 7], [0, 4, 10, 12], [0, 6, 8, 9], [0, 6, 10, 11], [0, 7, 8, 11], [0, 7, 9, 12], [1, 2, 4, 10], [1, 2, 5, 7], [1, 2, 6, 12], [1, 2, 9, 11], [1, 3, 4, 8], [1, 3, 6, 7], [1, 3, 10, 11], [1, 4, 5, 12], [1, 5, 6, 8], [1, 7, 9, 10], [1, 7, 11, 12], [1, 8, 9, 12], [2, 3, 5, 11], [2, 3, 6, 8], [2, 3, 10, 12], [2, 4, 5, 9], [2, 4, 7, 8], [2, 4, 11, 12], [2, 6, 7, 9], [2, 8, 10, 11], [3, 4, 6, 12], [3, 4, 7, 9], [3, 5, 6, 10], [3, 5, 8, 9], [3, 7, 8, 10], [3, 9, 11, 12], [4, 5, 8, 10], [4, 6, 7, 11], [4, 6, 9, 10], [4, 8, 9, 11], [5, 6, 9, 11], [5, 7, 8, 12], [5, 7, 10, 11], [5, 9, 10, 12], [6, 7, 10, 12], [6, 8, 11, 12]]
theorem in13 : (unitsF 13 12).all (fun u => (rangeKs 0 13).all fun r => lines13.any fun l => l == placesF 13 u r) = true := by decide +kernel
theorem ok13_0 : lineOk 13 [0, 1, 3, 9] = true := by decide +kernel
theorem ok13_1 : lineOk 13 [0, 1, 4, 6] = true := by decide +kernel
theorem ok13_2 : lineOk 13 [0, 1, 5, 11] = true := by decide +kernel
theorem ok13_3 : lineOk 13 [0, 1, 8, 10] = true := by decide +kernel
theorem ok13_4 : lineOk 13 [0, 2, 3, 7] = true := by decide +kernel
theorem ok13_5 : lineOk 13 [0, 2, 5, 6] = true := by decide +kernel
theorem ok13_6 : lineOk 13 [0, 2, 8, 12] = true := by decide +kernel
theorem ok13_7 : lineOk 13 [0, 2, 9, 10] = true := by decide +kernel
theorem ok13_8 : lineOk 13 [0, 3, 4, 11] = true := by decide +kernel
theorem ok13_9 : lineOk 13 [0, 3, 5, 12] = true := by decide +kernel
theorem ok13_10 : lineOk 13 [0, 4, 5, 7] = true := by decide +kernel
theorem ok13_11 : lineOk 13 [0, 4, 10, 12] = true := by decide +kernel
theorem ok13_12 : lineOk 13 [0, 6, 8, 9] = true := by decide +kernel
theorem ok13_13 : lineOk 13 [0, 6, 10, 11] = true := by decide +kernel
theorem ok13_14 : lineOk 13 [0, 7, 8, 11] = true := by decide +kernel
theorem ok13_15 : lineOk 13 [0, 7, 9, 12] = true := by decide +kernel
theorem ok13_16 : lineOk 13 [1, 2, 4, 10] = true := by decide +kernel
theorem ok13_17 : lineOk 13 [1, 2, 5, 7] = true := by decide +kernel
theorem ok13_18 : lineOk 13 [1, 2, 6, 12] = true := by decide +kernel
theorem ok13_19 : lineOk 13 [1, 2, 9, 11] = true := by decide +kernel
theorem ok13_20 : lineOk 13 [1, 3, 4, 8] = true := by decide +kernel
theorem ok13_21 : lineOk 13 [1, 3, 6, 7] = true := by decide +kernel
theorem ok13_22 : lineOk 13 [1, 3, 10, 11] = true := by decide +kernel
theorem ok13_23 : lineOk 13 [1, 4, 5, 12] = true := by decide +kernel
theorem ok13_24 : lineOk 13 [1, 5, 6, 8] = true := by decide +kernel
theorem ok13_25 : lineOk 13 [1, 7, 9, 10] = true := by decide +kernel
theorem ok13_26 : lineOk 13 [1, 7, 11, 12] = true := by decide +kernel
theorem ok13_27 : lineOk 13 [1, 8, 9, 12] = true := by decide +kernel
theorem ok13_28 : lineOk 13 [2, 3, 5, 11] = true := by decide +kernel
theorem ok13_29 : lineOk 13 [2, 3, 6, 8] = true := by decide +kernel
theorem ok13_30 : lineOk 13 [2, 3, 10, 12] = true := by decide +kernel
theorem ok13_31 : lineOk 13 [2, 4, 5, 9] = true := by decide +kernel
theorem ok13_32 : lineOk 13 [2, 4, 7, 8] = true := by decide +kernel
theorem ok13_33 : lineOk 13 [2, 4, 11, 12] = true := by decide +kernel
theorem ok13_34 : lineOk 13 [2, 6, 7, 9] = true := by decide +kernel
theorem ok13_35 : lineOk 13 [2, 8, 10, 11] = true := by decide +kernel
theorem ok13_36 : lineOk 13 [3, 4, 6, 12] = true := by decide +kernel
theorem ok13_37 : lineOk 13 [3, 4, 7, 9] = true := by decide +kernel
theorem ok13_38 : lineOk 13 [3, 5, 6, 10] = true := by decide +kernel
theorem ok13_39 : lineOk 13 [3, 5, 8, 9] = true := by decide +kernel
theorem ok13_40 : lineOk 13 [3, 7, 8, 10] = true := by decide +kernel
theorem ok13_41 : lineOk 13 [3, 9, 11, 12] = true := by decide +kernel
theorem ok13_42 : lineOk 13 [4, 5, 8, 10] = true := by decide +kernel
theorem ok13_43 : lineOk 13 [4, 6, 7, 11] = true := by decide +kernel
theorem ok13_44 : lineOk 13 [4, 6, 9, 10] = true := by decide +kernel
theorem ok13_45 : lineOk 13 [4, 8, 9, 11] = true := by decide +kernel
theorem ok13_46 : lineOk 13 [5, 6, 9, 11] = true := by decide +kernel
theorem ok13_47 : lineOk 13 [5, 7, 8, 12] = true := by decide +kernel
theorem ok13_48 : lineOk 13 [5, 7, 10, 11] = true := by decide +kernel
theorem ok13_49 : lineOk 13 [5, 9, 10, 12] = true := by decide +kernel
theorem ok13_50 : lineOk 13 [6, 7, 10, 12] = true := by decide +kernel
theorem ok13_51 : lineOk 13 [6, 8, 11, 12] = true := by decide +kernel
theorem ok13 : ∀ l ∈ lines13, lineOk 13 l = true := List.forall_mem_cons.mpr ⟨ok13_0, List.forall_mem_cons.mpr ⟨ok13_1, List.forall_mem_cons.mpr ⟨ok13_2, List.forall_mem_cons.mpr ⟨ok13_3, List.forall_mem_cons.mpr ⟨ok13_4, List.forall_mem_cons.mpr ⟨ok13_5, List.forall_mem_cons.mpr ⟨ok13_6, List.forall_mem_cons.mpr ⟨ok13_7, List.forall_mem_cons.mpr ⟨ok13_8, List.forall_mem_cons.mpr ⟨ok13_9, List.forall_mem_cons.mpr ⟨ok13_10, List.forall_mem_cons.mpr ⟨ok13_11, List.forall_mem_cons.mpr ⟨ok13_12, List.forall_mem_cons.mpr ⟨ok13_13, List.forall_mem_cons.mpr ⟨ok13_14, List.forall_mem_cons.mpr ⟨ok13_15, List.forall_mem_cons.mpr ⟨ok13_16, List.forall_mem_cons.mpr ⟨ok13_17, List.forall_mem_cons.mpr ⟨ok13_18, List.forall_mem_cons.mpr ⟨ok13_19, List.forall_mem_cons.mpr ⟨ok13_20, List.forall_mem_cons.mpr ⟨ok13_21, List.forall_mem_cons.mpr ⟨ok13_22, List.forall_mem_cons.mpr ⟨ok13_23, List.forall_mem_cons.mpr ⟨ok13_24, List.forall_mem_cons.mpr ⟨ok13_25, List.forall_mem_cons.mpr ⟨ok13_26, List.forall_mem_cons.mpr ⟨ok13_27, List.forall_mem_cons.mpr ⟨ok13_28, List.forall_mem_cons.mpr ⟨ok13_29, List.forall_mem_cons.mpr ⟨ok13_30, List.forall_mem_cons.mpr ⟨ok13_31, List.forall_mem_cons.mpr ⟨ok13_32, List.forall_mem_cons.mpr ⟨ok13_33, List.forall_mem_cons.mpr ⟨ok13_34, List.forall_mem_cons.mpr ⟨ok13_35, List.forall_mem_cons.mpr ⟨ok13_36, List.forall_mem_cons.mpr ⟨ok13_37, List.forall_mem_cons.mpr ⟨ok13_38, List.forall_mem_cons.mpr ⟨ok13_39, List.forall_mem_cons.mpr ⟨ok13_40, List.forall_mem_cons.mpr ⟨ok13_41, List.forall_mem_cons.mpr ⟨ok13_42, List.forall_mem_cons.mpr ⟨ok13_43, List.forall_mem_cons.mpr ⟨ok13_44, List.forall_mem_cons.mpr ⟨ok13_45, List.forall_mem_cons.mpr ⟨ok13_46, List.forall_mem_cons.mpr ⟨ok13_47, List.forall_mem_cons.mpr ⟨ok13_48, List.forall_mem_cons.mpr ⟨ok13_49, List.forall_mem_cons.mpr ⟨ok13_50, List.forall_mem_cons.mpr ⟨ok13_51, List.forall_mem_nil _⟩⟩⟩⟩⟩⟩⟩⟩⟩⟩⟩⟩⟩⟩⟩⟩⟩⟩⟩⟩⟩⟩⟩⟩⟩⟩⟩⟩⟩⟩⟩⟩⟩⟩⟩⟩⟩⟩⟩⟩⟩⟩⟩⟩⟩⟩⟩⟩⟩⟩⟩⟩
def lines21 : List (List Int) := [[0, 1, 4, 14, 16], [0, 1, 6, 8, 18], [0, 2, 7, 8, 11], [0, 2, 12, 15, 16], [0, 3, 4, 9, 11], [0, 3, 13, 15, 20], [0, 5, 6, 9, 19], [0, 5, 7, 17, 20], [0, 10, 12, 17, 18], [0, 10, 13, 14, 19], [1, 2, 5, 15, 17], [1, 2, 7, 9, 19], [1, 3, 8, 9, 12], [1, 3, 13, 16, 17], [1, 4, 5, 10, 12], [1, 6, 7, 10, 20], [1, 11, 13, 18, 19], [1, 11, 14, 15, 20], [2, 3, 6, 16, 18], [2, 3, 8, 10, 20], [2, 4, 9, 10, 13], [2, 4, 14, 17, 18], [2, 5, 6, 11, 13], [2, 12, 14, 19, 20], [3, 4, 7, 17, 19], [3, 5, 10, 11, 14], [3, 5, 15, 18, 19], [3, 6, 7, 12, 14], [4, 5, 8, 18, 20], [4, 6, 11, 12, 15], [4, 6, 16, 19, 20], [4, 7, 8, 13, 15], [5, 7, 12, 13, 16], [5, 8, 9, 14, 16], [6, 8, 13, 14, 17], [6, 9, 10, 15, 17], [7, 9, 14, 15, 18], [7, 10, 11, 16, 18], [8, 10, 15, 16, 19], [8, 11, 12, 17, 19], [9, 11, 16, 17, 20], [9, 12, 13, 18, 20]]
theorem in21 : (unitsF 21 20).all (fun u => (rangeKs 0 21).all fun r => lines21.any fun l => l == placesF 21 u r) = true := by decide +kernel
theorem ok21_0 : lineOk 21 [0, 1, 4, 14, 16] = true := by decide +kernel
theorem ok21_1 : lineOk 21 [0, 1, 6, 8, 18] = true := by decide +kernel
theorem ok21_2 : lineOk 21 [0, 2, 7, 8, 11] = true := by decide +kernel
theorem ok21_3 : lineOk 21 [0, 2, 12, 15, 16] = true := by decide +kernel
theorem ok21_4 : lineOk 21 [0, 3, 4, 9, 11] = true := by decide +kernel
theorem ok21_5 : lineOk 21 [0, 3, 13, 15, 20] = true := by decide +kernel
theorem ok21_6 : lineOk 21 [0, 5, 6, 9, 19] = true := by decide +kernel
theorem ok21_7 : lineOk 21 [0, 5, 7, 17, 20] = true := by decide +kernel
theorem ok21_8 : lineOk 21 [0, 10, 12, 17, 18] = true := by decide +kernel
theorem ok21_9 : lineOk 21 [0, 10, 13, 14, 19] = true := by decide +kernel
theorem ok21_10 : lineOk 21 [1, 2, 5, 15, 17] = true := by decide +kernel
theorem ok21_11 : lineOk 21 [1, 2, 7, 9, 19] = true := by decide +kernel
theorem ok21_12 : lineOk 21 [1, 3, 8, 9, 12] = true := by decide +kernel
theorem ok21_13 : lineOk 21 [1, 3, 13, 16, 17] = true := by decide +kernel
theorem ok21_14 : lineOk 21 [1, 4, 5, 10, 12] = true := by decide +kernel
theorem ok21_15 : lineOk 21 [1, 6, 7, 10, 20] = true := by decide +kernel
theorem ok21_16 : lineOk 21 [1, 11, 13, 18, 19] = true := by decide +kernel
theorem ok21_17 : lineOk 21 [1, 11, 14, 15, 20] = true := by decide +kernel
theorem ok21_18 : lineOk 21 [2, 3, 6, 16, 18] = true := by decide +kernel
theorem ok21_19 : lineOk 21 [2, 3, 8, 10, 20] = true := by decide +kernel
theorem ok21_20 : lineOk 21 [2, 4, 9, 10, 13] = true := by decide +kernel
theorem ok21_21 : lineOk 21 [2, 4, 14, 17, 18] = true := by decide +kernel
theorem ok21_22 : lineOk 21 [2, 5, 6, 11, 13] = true := by decide +kernel
theorem ok21_23 : lineOk 21 [2, 12, 14, 19, 20] = true := by decide +kernel
theorem ok21_24 : lineOk 21 [3, 4, 7, 17, 19] = true := by decide +kernel
theorem ok21_25 : lineOk 21 [3, 5, 10, 11, 14] = true := by decide +kernel
theorem ok21_26 : lineOk 21 [3, 5, 15, 18, 19] = true := by decide +kernel
theorem ok21_27 : lineOk 21 [3, 6, 7, 12, 14] = true := by decide +kernel
theorem ok21_28 : lineOk 21 [4, 5, 8, 18, 20] = true := by decide +kernel
theorem ok21_29 : lineOk 21 [4, 6, 11, 12, 15] = true := by decide +kernel
theorem ok21_30 : lineOk 21 [4, 6, 16, 19, 20] = true := by decide +kernel
theorem ok21_31 : lineOk 21 [4, 7, 8, 13, 15] = true := by decide +kernel
theorem ok21_32 : lineOk 21 [5, 7, 12, 13, 16] = true := by decide +kernel
theorem ok21_33 : lineOk 21 [5, 8, 9, 14, 16] = true := by decide +kernel
theorem ok21_34 : lineOk 21 [6, 8, 13, 14, 17] = true := by decide +kernel
theorem ok21_35 : lineOk 21 [6, 9, 10, 15, 17] = true := by decide +kernel
theorem ok21_36 : lineOk 21 [7, 9, 14, 15, 18] = true := by decide +kernel
theorem ok21_37 : lineOk 21 [7, 10, 11, 16, 18] = true := by decide +kernel
theorem ok21_38 : lineOk 21 [8, 10, 15, 16, 19] = true := by decide +kernel
theorem ok21_39 : lineOk 21 [8, 11, 12, 17, 19] = true := by decide +kernel
theorem ok21_40 : lineOk 21 [9, 11, 16, 17, 20] = true := by decide +kernel
theorem ok21_41 : lineOk 21 [9, 12, 13, 18, 20] = true := by decide +kernel
theorem ok21 : ∀ l ∈ lines21, lineOk 21 l = true := List.forall_mem_cons.mpr ⟨ok21_0, List.forall_mem_cons.mpr ⟨ok21_1, List.forall_mem_cons.mpr ⟨ok21_2, List.forall_mem_cons.mpr ⟨ok21_3, List.forall_mem_cons.mpr ⟨ok21_4, List.forall_mem_cons.mpr ⟨ok21_5, List.forall_mem_cons.mpr ⟨ok21_6, List.forall_mem_cons.mpr ⟨ok21_7, List.forall_mem_cons.mpr ⟨ok21_8, List.forall_mem_cons.mpr ⟨ok21_9, List.forall_mem_cons.mpr ⟨ok21_10, List.forall_mem_cons.mpr ⟨ok21_11, List.forall_mem_cons.mpr ⟨ok21_12, List.forall_mem_cons.mpr ⟨ok21_13, List.forall_mem_cons.mpr ⟨ok21_14, List.forall_mem_cons.mpr ⟨ok21_15, List.forall_mem_cons.mpr ⟨ok21_16, List.forall_mem_cons.mpr ⟨ok21_17, List.forall_mem_cons.mpr ⟨ok21_18, List.forall_mem_cons.mpr ⟨ok21_19, List.forall_mem_cons.mpr ⟨ok21_20, List.forall_mem_cons.mpr ⟨ok21_21, List.forall_mem_cons.mpr ⟨ok21_22, List.forall_mem_cons.mpr ⟨ok21_23, List.forall_mem_cons.mpr ⟨ok21_24, List.forall_mem_cons.mpr ⟨ok21_25, List.forall_mem_cons.mpr ⟨ok21_26, List.forall_mem_cons.mpr ⟨ok21_27, List.forall_mem_cons.mpr ⟨ok21_28, List.forall_mem_cons.mpr ⟨ok21_29, List.forall_mem_cons.mpr ⟨ok21_30, List.forall_mem_cons.mpr ⟨ok21_31, List.forall_mem_cons.mpr ⟨ok21_32, List.forall_mem_cons.mpr ⟨ok21_33, List.forall_mem_cons.mpr ⟨ok21_34, List.forall_mem_cons.mpr ⟨ok21_35, List.forall_mem_cons.mpr ⟨ok21_36, List.forall_mem_cons.mpr ⟨ok21_37, List.forall_mem_cons.mpr ⟨ok21_38, List.forall_mem_cons.mpr ⟨ok21_39, List.forall_mem_cons.mpr ⟨ok21_40, List.forall_mem_cons.mpr ⟨ok21_41, List.forall_mem_nil _⟩⟩⟩⟩⟩⟩⟩⟩⟩⟩⟩⟩⟩⟩⟩⟩⟩⟩⟩⟩⟩⟩⟩⟩⟩⟩⟩⟩⟩⟩⟩⟩⟩⟩⟩⟩⟩⟩⟩⟩⟩⟩

end

section

-- nofill
def LineOk (sz : Nat) (ps : List Int) : Prop :=
  (ps.length ≤ 5 ∧ 3 ≤ ps.length) ∧
  (∀ p ∈ ps, 0 ≤ p ∧ p < (sz : Int)) ∧
  (∀ n ∈ sizesF ps sz, 1 ≤ n ∧ n ≤ 20) ∧
  ((sizesF ps sz).length = ps.length) ∧
  (marksF (ps.getD 0 0) (sizesF ps sz) (sizesF ps sz).length = ps ++ [ps.getD 0 0 + sz]) ∧
  (stairsF ps sz = true) ∧
  ((bookOut sz ps ps).2 = List.replicate (sz - 1) true) ∧
  ((bookOut sz ps ps).1.length = sz - 1) ∧
  (∀ d : Int, 1 ≤ d → d < sz → wayOk sz ps (bookOut sz ps ps).1 d = true) ∧
  (∀ f ∈ unitsF sz (sz - 1), turnOk sz ps f = true) ∧
  ((ownF ps (primeF sz) sz sz).length = 1)
theorem LineOk.len {sz : Nat} {ps : List Int} (h : LineOk sz ps) : ps.length ≤ 5 ∧ 3 ≤ ps.length := h.1
theorem LineOk.rng {sz : Nat} {ps : List Int} (h : LineOk sz ps) : ∀ p ∈ ps, 0 ≤ p ∧ p < (sz : Int) := h.2.1
theorem LineOk.szs {sz : Nat} {ps : List Int} (h : LineOk sz ps) : ∀ n ∈ sizesF ps sz, 1 ≤ n ∧ n ≤ 20 := h.2.2.1
theorem LineOk.szl {sz : Nat} {ps : List Int} (h : LineOk sz ps) : (sizesF ps sz).length = ps.length := h.2.2.2.1
theorem LineOk.mrk {sz : Nat} {ps : List Int} (h : LineOk sz ps) : marksF (ps.getD 0 0) (sizesF ps sz) (sizesF ps sz).length = ps ++ [ps.getD 0 0 + sz] := h.2.2.2.2.1
theorem LineOk.str {sz : Nat} {ps : List Int} (h : LineOk sz ps) : stairsF ps sz = true := h.2.2.2.2.2.1
theorem LineOk.bks {sz : Nat} {ps : List Int} (h : LineOk sz ps) : (bookOut sz ps ps).2 = List.replicate (sz - 1) true := h.2.2.2.2.2.2.1
theorem LineOk.bkl {sz : Nat} {ps : List Int} (h : LineOk sz ps) : (bookOut sz ps ps).1.length = sz - 1 := h.2.2.2.2.2.2.2.1
theorem LineOk.way {sz : Nat} {ps : List Int} (h : LineOk sz ps) : ∀ d : Int, 1 ≤ d → d < sz → wayOk sz ps (bookOut sz ps ps).1 d = true := h.2.2.2.2.2.2.2.2.1
theorem LineOk.trn {sz : Nat} {ps : List Int} (h : LineOk sz ps) : ∀ f ∈ unitsF sz (sz - 1), turnOk sz ps f = true := h.2.2.2.2.2.2.2.2.2.1
theorem LineOk.own {sz : Nat} {ps : List Int} (h : LineOk sz ps) : (ownF ps (primeF sz) sz sz).length = 1 := h.2.2.2.2.2.2.2.2.2.2
theorem lineOk_parts {sz : Nat} {ps : List Int} (h : lineOk sz ps = true) : LineOk sz ps := by
  simp only [lineOk, Bool.and_eq_true, decide_eq_true_eq, List.all_eq_true, beq_iff_eq] at h
  obtain ⟨⟨⟨⟨⟨⟨⟨⟨⟨⟨h1, h2⟩, h3⟩, h4⟩, h5⟩, h6⟩, h7⟩, h8⟩, h9⟩, h10⟩, h11⟩ := h
  refine ⟨h1, h2, h3, h4, h5, h6, h7, h8, fun d d1 d2 => h9 d ?_, h10, h11⟩
  refine List.mem_map.mpr ⟨(d - 1).toNat, List.mem_range.mpr (by omega), by omega⟩
theorem places_mod (sz : Nat) (h : 1 ≤ sz) (u n1 : Int) : placesF sz u n1 = placesF sz u (n1.fmod (sz : Int)) := by
  unfold placesF
  congr 2
  funext k
  rw [Int.fmod_eq_emod_of_nonneg _ (by omega), Int.fmod_eq_emod_of_nonneg _ (by omega), Int.fmod_eq_emod_of_nonneg _ (by omega), Int.add_emod_emod]
theorem plain_of {sz : Nat} {ls : List (List Int)} (h1 : 1 ≤ sz) (hin : (unitsF sz (sz - 1)).all (fun u => (rangeKs 0 sz).all fun r => ls.any fun l => l == placesF sz u r) = true) (hok : ∀ l ∈ ls, lineOk sz l = true) {u n1 : Int} (hu : u ∈ unitsF sz (sz - 1)) : LineOk sz (placesF sz u n1) := by
  have hr : n1.fmod (sz : Int) ∈ rangeKs 0 sz := by
    have a := Int.fmod_nonneg_of_pos n1 (show (0 : Int) < sz by omega)
    have b := Int.fmod_lt_of_pos n1 (show (0 : Int) < sz by omega)
    exact List.mem_map.mpr ⟨(n1.fmod (sz : Int)).toNat, List.mem_range.mpr (by omega), by omega⟩
  have h2 := List.all_eq_true.mp (List.all_eq_true.mp hin u hu) _ hr
  obtain ⟨l, hl, he⟩ := List.any_eq_true.mp h2
  have he2 : l = placesF sz u (n1.fmod (sz : Int)) := by simpa using he
  rw [places_mod sz h1, ← he2]
  exact lineOk_parts (hok l hl)
theorem plain {sz : Nat} {u n1 : Int} (h : Ring sz) (hu : u ∈ unitsF sz (sz - 1)) : LineOk sz (placesF sz u n1) := by
  rcases h with rfl | rfl | rfl
  · exact plain_of (by decide) in7 ok7 hu
  · exact plain_of (by decide) in13 ok13 hu
  · exact plain_of (by decide) in21 ok21 hu

end

section

-- nofill
theorem filter_none (n : Nat) (t0 : Int) (h : (n : Int) ≤ t0) : (rangeKs 0 n).filter (fun k => k == t0) = [] := by
  refine List.filter_eq_nil_iff.mpr fun k hk e => ?_
  have := mem_rangeKs hk
  have e2 : k = t0 := by simpa using e
  omega
theorem filter_one : ∀ (n : Nat) (t0 : Int), 0 ≤ t0 → t0 < n → (rangeKs 0 n).filter (fun k => k == t0) = [t0]
  | 0, t0, h0, h1 => by omega
  | n + 1, t0, h0, h1 => by
    rw [rangeKs_succ, List.filter_append]
    by_cases e : t0 = (n : Int)
    · rw [filter_none n t0 (by omega), e]
      simp
    · rw [filter_one n t0 h0 (by omega)]
      have : ((n : Int) == t0) = false := by simpa using fun q => e q.symm
      simp [this]
theorem through_one {sz : Nat} {ps : List Int} {d p one : Int} (hs : 1 ≤ sz) (hp : 0 ≤ p ∧ p < (sz : Int)) (_h0 : 0 ≤ one) (_h1 : one < sz)
    (h : ∀ a ∈ rangeKs 0 sz, ((ps.any fun x => x == a) && (ps.any fun x => x == (a + d).fmod sz)) = (a == p)) : throughF ps sz one ((one + d).fmod sz) = [(one - p).fmod sz] := by
  have hz : (0 : Int) < sz := by omega
  have t0 := Int.fmod_nonneg_of_pos (one - p) hz
  have t1 := Int.fmod_lt_of_pos (one - p) hz
  unfold throughF
  rw [Int.toNat_natCast, ← filter_one sz ((one - p).fmod sz) t0 t1]
  refine List.filter_congr fun k hk => ?_
  have hk2 := mem_rangeKs hk
  have a0 := Int.fmod_nonneg_of_pos (one - k) hz
  have a1 := Int.fmod_lt_of_pos (one - k) hz
  have e1 : (((one + d).fmod sz) - k).fmod sz = ((one - k).fmod sz + d).fmod sz := by
    rw [Int.fmod_eq_emod_of_nonneg _ (by omega), Int.fmod_eq_emod_of_nonneg _ (by omega), Int.fmod_eq_emod_of_nonneg _ (by omega), Int.fmod_eq_emod_of_nonneg _ (by omega), Int.emod_sub_emod, Int.emod_add_emod]
    congr 1
    omega
  rw [e1, h _ (List.mem_map.mpr ⟨((one - k).fmod sz).toNat, List.mem_range.mpr (by omega), by omega⟩)]
  rw [Bool.eq_iff_iff]
  simp only [beq_iff_eq]
  rw [Int.fmod_eq_emod_of_nonneg _ (by omega), Int.fmod_eq_emod_of_nonneg _ (by omega)]
  constructor
  · intro e
    rw [← e, show one - (one - k) % (sz : Int) = one + -((one - k) % (sz : Int)) from by omega]
    have : (one - (one - k) % (sz : Int)) % (sz : Int) = (one - (one - k)) % (sz : Int) := Int.sub_emod_emod ..
    rw [show one + -((one - k) % (sz : Int)) = one - (one - k) % (sz : Int) from by omega, this, show one - (one - k) = k from by omega]
    exact (Int.emod_eq_of_lt (by omega) (by omega)).symm
  · intro e
    rw [e]
    have : (one - (one - p) % (sz : Int)) % (sz : Int) = (one - (one - p)) % (sz : Int) := Int.sub_emod_emod ..
    rw [this, show one - (one - p) = p from by omega]
    exact Int.emod_eq_of_lt hp.1 hp.2
theorem wayOk_parts {sz : Nat} {ps : List Int} {hs : List (Str × Str)} {d : Int} (hsz : 1 ≤ sz) (hr : ∀ p ∈ ps, 0 ≤ p ∧ p < (sz : Int)) (h : wayOk sz ps hs d = true) :
    ∃ p ∈ ps, getF hs (PySem.Txt.lower (PySem.Txt.upper (wordF [d]))) = some (strI p) ∧ ∀ one : Int, 0 ≤ one → one < sz → throughF ps sz one ((one + d).fmod sz) = [(one - p).fmod sz] := by
  unfold wayOk at h
  split at h
  · next v hv =>
    obtain ⟨p, hp, hb⟩ := List.any_eq_true.mp h
    simp only [Bool.and_eq_true, beq_iff_eq, List.all_eq_true] at hb
    exact ⟨p, hp, by rw [hv, hb.1], fun one h0 h1 => through_one hsz (hr p hp) h0 h1 hb.2⟩
  · cases h
theorem up_len {n : Int} (h1 : 1 ≤ n) (h2 : n ≤ 20) : (PySem.Txt.upper (wordF [n])).length ≤ 100 :=
  of_decide_eq_true ((fin_int (P := fun n => 1 ≤ n → decide ((PySem.Txt.upper (wordF [n])).length ≤ 100) = true) (by decide +kernel) (by omega) h2) h1)
theorem up_low {n : Int} (h1 : 1 ≤ n) (h2 : n ≤ 20) : PySem.Txt.lower (PySem.Txt.upper (wordF [n])) = wordF [n] :=
  (fin_int (P := fun n => 1 ≤ n → PySem.Txt.lower (PySem.Txt.upper (wordF [n])) = wordF [n]) (by decide +kernel) (by omega) h2) h1
theorem back_way {sz i one : Int} (hs : 1 ≤ sz) (h0 : 0 ≤ i) (h1 : i < sz) : (one + (i - one).fmod sz).fmod sz = i := by
  have e : (one + (i - one).fmod sz).fmod sz = i.fmod sz := by
    rw [Int.fmod_eq_emod_of_nonneg _ (by omega), Int.fmod_eq_emod_of_nonneg _ (by omega), Int.fmod_eq_emod_of_nonneg _ (by omega), Int.add_emod_emod]
    congr 1
    omega
  rw [e, Int.fmod_eq_emod_of_nonneg _ (by omega)]
  exact Int.emod_eq_of_lt h0 h1
theorem tups_more {tp all : List (Addr × Obj)} {ts : List Addr} {hs : List (Str × Str)} (h : Tups tp ts hs) (hm : ∀ p ∈ tp, p ∈ all) : Tups all ts hs :=
  ⟨h.1, fun i t kv a b => let ⟨n, u1, u2, h⟩ := h.2 i t kv a b; ⟨n, u1, u2, hm _ h⟩⟩
theorem off_of {old tp own : List (Addr × Obj)} {l : List Addr} {lo lh x dx : Addr} {o : Obj} (ylh : ∀ q ∈ old, q.1 ≠ lh) (yx : ∀ q ∈ old, q.1 ≠ x) (ydx : ∀ q ∈ old, q.1 ≠ dx) (otp : ∀ q ∈ tp, lo < q.1) (hoff : OwnOff own l) (h1 : lh ∈ l) (h2 : x ∈ l) (h3 : dx ∈ l)
    (odx : dx < x) (oxl : x < lh) (olo : lh < lo) : OwnOff ((lo, o) :: (old ++ (tp ++ own))) [lh, x, dx] := by
  intro q hq b hb
  simp only [List.mem_cons, List.not_mem_nil, or_false] at hb
  have hbl : b < lo := by
    rcases hb with rfl | rfl | rfl
    · exact olo
    · exact Nat.lt_trans oxl olo
    · exact Nat.lt_trans odx (Nat.lt_trans oxl olo)
  rcases List.mem_cons.mp hq with h | hq
  · rw [h]; exact Nat.ne_of_gt hbl
  rcases List.mem_append.mp hq with hq | hq
  · rcases hb with rfl | rfl | rfl
    · exact ylh q hq
    · exact yx q hq
    · exact ydx q hq
  rcases List.mem_append.mp hq with hq | hq
  · exact Nat.ne_of_gt (Nat.lt_trans hbl (otp q hq))
  · rcases hb with rfl | rfl | rfl
    · exact hoff q hq _ h1
    · exact hoff q hq _ h2
    · exact hoff q hq _ h3
theorem tups_in {old tp own : List (Addr × Obj)} {lo b : Addr} {o : Obj} {ts : List Addr} {hs : List (Str × Str)} (_y : ∀ q ∈ old, q.1 ≠ b) (h : Tups tp ts hs) : Tups ((lo, o) :: (old ++ (tp ++ own))) ts hs :=
  tups_more h fun _ hp => .tail _ (List.mem_append_right _ (List.mem_append_left _ hp))
theorem news_rot {h₀ h : Heap} {L : Addr} {a b c d : Addr × Obj} {r : List (Addr × Obj)} (N : News h₀ L h (a :: b :: c :: d :: r)) : News h₀ L h (b :: c :: d :: a :: r) := fun p hp => N p (by
  rcases List.mem_cons.mp hp with h | hp
  · exact h ▸ .tail _ (.head _)
  rcases List.mem_cons.mp hp with h | hp
  · exact h ▸ .tail _ (.tail _ (.head _))
  rcases List.mem_cons.mp hp with h | hp
  · exact h ▸ .tail _ (.tail _ (.tail _ (.head _)))
  rcases List.mem_cons.mp hp with h | hp
  · exact h ▸ .head _
  exact .tail _ (.tail _ (.tail _ (.tail _ hp))))
theorem news_rot3 {h₀ h : Heap} {L : Addr} {a b c d : Addr × Obj} {r : List (Addr × Obj)} (N : News h₀ L h (a :: b :: c :: d :: r)) : News h₀ L h (d :: a :: b :: c :: r) := fun p hp => N p (by
  rcases List.mem_cons.mp hp with h | hp
  · exact h ▸ .tail _ (.tail _ (.tail _ (.head _)))
  rcases List.mem_cons.mp hp with h | hp
  · exact h ▸ .head _
  rcases List.mem_cons.mp hp with h | hp
  · exact h ▸ .tail _ (.head _)
  rcases List.mem_cons.mp hp with h | hp
  · exact h ▸ .tail _ (.tail _ (.head _))
  exact .tail _ (.tail _ (.tail _ (.tail _ hp))))
theorem tups_in0 {old tp : List (Addr × Obj)} {lo b : Addr} {o : Obj} {ts : List Addr} {hs : List (Str × Str)} (_y : ∀ q ∈ old, q.1 ≠ b) (h : Tups tp ts hs) : Tups ((lo, o) :: (old ++ tp)) ts hs :=
  tups_more h fun _ hp => .tail _ (List.mem_append_right _ hp)
/-- six go, six stay: list of sizes, places, units, numbers -/
theorem news_d6 {h₀ h : Heap} {L : Addr} {d1 d2 d3 d4 d5 d6 : Addr × Obj} {r : List (Addr × Obj)} (N : News h₀ L h (d1 :: d2 :: d3 :: d4 :: d5 :: d6 :: r)) : News h₀ L h r := fun p hp => N p (.tail _ (.tail _ (.tail _ (.tail _ (.tail _ (.tail _ hp))))))
theorem news_l7 {h₀ h : Heap} {L : Addr} {d a b u n c1 c2 c3 c4 : Addr × Obj} {r : List (Addr × Obj)} (N : News h₀ L h (d :: a :: b :: u :: n :: c1 :: c2 :: c3 :: c4 :: r)) : News h₀ L h [a, b, c1, c2, c3, c4] := fun p hp => N p (by
  rcases List.mem_cons.mp hp with h | hp
  · exact h ▸ .tail _ (.head _)
  rcases List.mem_cons.mp hp with h | hp
  · exact h ▸ .tail _ (.tail _ (.head _))
  refine .tail _ (.tail _ (.tail _ (.tail _ (.tail _ ?_))))
  rcases List.mem_cons.mp hp with h | hp
  · exact h ▸ .head _
  rcases List.mem_cons.mp hp with h | hp
  · exact h ▸ .tail _ (.head _)
  rcases List.mem_cons.mp hp with h | hp
  · exact h ▸ .tail _ (.tail _ (.head _))
  rcases List.mem_cons.mp hp with h | hp
  · exact h ▸ .tail _ (.tail _ (.tail _ (.head _)))
  cases hp)
theorem turnOk_parts {sz : Nat} {ps : List Int} {f : Int} (h : turnOk sz ps f = true) : (∀ n ∈ sizesF (ps.map fun p => (f * p).fmod sz) sz, 1 ≤ n ∧ n ≤ 20) ∧
    containsF (wordF (sizesF ps sz) ++ wordF (sizesF ps sz)) (wordF (sizesF (ps.map fun p => (f * p).fmod sz) sz)) = (powersF sz).any fun x => x == f := by
  simp only [turnOk, Bool.and_eq_true, List.all_eq_true, decide_eq_true_eq, beq_iff_eq] at h
  exact h

end

section

-- nofill
theorem lawlem4_ : True := trivial

end

section
local macro_rules | `(tactic| walk_at "enterC") => `(tactic| (refine' enterC ?k1 ?k2 ?k3 ?k4 ?kA ?kF ?kK ?k6 ?k7 ?k8 ?k9 ?kB ?kD ?_ ?c2 ?c3 ?c4; (case kA => exact rfl); (case kF => exact rfl); (case kK => assumption); (case k1 => k_asm); (case k2 => k_asm); (case k3 => k_asm); (case k4 => k_asm); (case k6 => k_is); (case k7 => k_is); (case k8 => ktr_room); (case k9 => exact BindsTo.of_eq rfl); (case kB => exact rfl); (case kD => decide +kernel); (case c2 => exact rfl); (case c3 => exact rfl); (case c4 => exact rfl); k_whole; intro L' h' tk' cells' F' N' Y' B' X' T' hL'; k_cells Y'; (try simp only [List.cons_append, List.nil_append] at N'); (try dsimp only); (try k_fold)))
local macro_rules | `(tactic| walk_at "enterP") => `(tactic| (refine' enterP ?k1 ?k2 ?k3 ?k4 ?kA ?kF ?kK ?k6 ?k7 ?k8 ?k9 ?kB ?_ ?c2 ?c3 ?c4 ?c5; (case kA => exact rfl); (case kF => exact rfl); (case kK => assumption); (case k1 => k_asm); (case k2 => k_asm); (case k3 => k_asm); (case k4 => k_asm); (case k6 => k_is); (case k7 => k_is); (case k8 => ktr_room); (case k9 => exact BindsTo.of_eq rfl); (case c5 => decide); (case kB => exact locs rfl); (case c2 => exact rfl); (case c3 => exact rfl); (case c4 => exact rfl); k_whole; intro L' h' F' N' B' X' T' hL'; (try dsimp only); (try k_fold)))
local macro_rules | `(tactic| walk_at "m_toComp") => `(tactic| repeat ((fail_if_success (with_reducible show wpAny _ _ (eval (PySem.Expr.ListComp _ _ _ _) _) _ _ _)); first | (k_unfold; (try dsimp only)) | walk1 | (dsimp only; walk1)))
local macro_rules | `(tactic| walk_at "m_toCompCall") => `(tactic| repeat' ((fail_if_success (with_reducible show wpAny _ _ (eval (PySem.Expr.ListComp (PySem.Expr.BinOp (PySem.Expr.Call _ _ _ _) _ _ _) _ _ _) _) _ _ _)); first | (k_unfold; (try dsimp only)) | walk1 | (dsimp only; walk1)))
local macro_rules | `(tactic| walk_at "m_units") => `(tactic| ((try simp only [units_in1, units_deeper, Around.mark_units, units_caller]); (try dsimp only [ktrTop]); omega))
local macro_rules | `(tactic| walk_at "compareOp Eq ref ref") => `(tactic| (k_here; (with_reducible show wpAny _ _ (compareOp CmpOp.Eq (Value.ref _) (Value.ref _)) _ _ _); (with_unfolding_all refine' eq_intsK ?k1 ?k2 ?k3 ?k4 ?k5 ?_; (case k1 => is_list); (case k2 => l_ints); (case k3 => is_list); (case k4 => l_ints); (case k5 => walk_at "m_units"); k_whole)))
local macro_rules | `(tactic| walk_at "compareOp NotEq ref ref") => `(tactic| (k_here; (with_reducible show wpAny _ _ (compareOp CmpOp.NotEq (Value.ref _) (Value.ref _)) _ _ _); (with_unfolding_all refine' ne_intsK ?k1 ?k2 ?k3 ?k4 ?k5 ?_; (case k1 => is_list); (case k2 => l_ints); (case k3 => is_list); (case k4 => l_ints); (case k5 => walk_at "m_units"); k_whole)))
local macro_rules | `(tactic| walk_at "m_toWhile") => `(tactic| repeat' ((fail_if_success (with_reducible show wpAny _ _ (exec (PySem.Stmt.While _ _ _ _) _) _ _ _)); first | (k_unfold; (try dsimp only)) | walk1 | (dsimp only; walk1)))
local macro_rules | `(tactic| walk_at "m_toFor") => `(tactic| repeat' ((fail_if_success (with_reducible show wpAny _ _ (exec (PySem.Stmt.For _ _ _ _ _) _) _ _ _)); first | (k_unfold; (try dsimp only)) | walk1 | (dsimp only; walk1)))
local macro_rules | `(tactic| walk_at "enterD") => `(tactic| (refine' code_defG ?k1 ?k2 ?k3 ?k4 ?k5 ?kA ?kF ?kK ?k6 ?k7 ?k8 ?k9 ?kB ?_ ?c2 ?c3 ?c4 ?c5; (case kA => exact rfl); (case kF => exact rfl); (case kK => first | exact rfl | assumption); (case k1 => k_asm); (case k2 => k_asm); (case k3 => k_asm); (case k4 => k_asm); (case k5 => k_asm); (case k6 => k_is); (case k7 => k_is); (case k8 => ktr_room); (case k9 => first | exact BindsTo.of_eq rfl | exact binds_K (by k_in) rfl (by k_is) rfl rfl rfl); (case c5 => decide); (case kB => exact locs rfl); (case c2 => exact rfl); (case c3 => exact rfl); (case c4 => exact rfl); k_whole; intro g' L' h' FG' F' N' B' X' T' kG'; (try dsimp only); (try k_fold)))

local macro_rules | `(tactic| walk_at "m_post") => `(tactic| (intro t9 h9 tk9 st9; (have F9 := fr_stay (by assumption) st9); (have N9 := news_stay (by assumption) st9); (try have kE9 := elt_stay (by assumption) st9); (try dsimp only); k_sweep; (try k_fold)))
local macro_rules | `(tactic| walk_at "call ref") => `(tactic| (k_here; (with_reducible show wpAny _ _ (call (Value.ref _) [Value.int _ _, Value.int _ _]) _ _ _); k_dflt (first
  | (refine' opSub ?k1 ?k2 ?k3 ?k4 ?k5 ?k6 ?_; (case k1 => k_asm); (case k2 => k_asm); (case k3 => k_asm); (case k4 => k_asm); (case k5 => first | exact rfl | assumption); (case k6 => ktr_room))
  | (refine' opAdd ?k1 ?k2 ?k3 ?k4 ?k5 ?k6 ?_; (case k1 => k_asm); (case k2 => k_asm); (case k3 => k_asm); (case k4 => k_asm); (case k5 => first | exact rfl | assumption); (case k6 => ktr_room))
  | (refine' opMod ?k1 ?k2 ?k3 ?k4 ?k5 ?k6 ?k7 ?_; (case k1 => k_asm); (case k2 => k_asm); (case k3 => k_asm); (case k4 => k_asm); (case k5 => first | exact rfl | assumption); (case k6 => ktr_room); (case k7 => omega))
  | (refine' opMul ?k1 ?k2 ?k3 ?k4 ?k5 ?k6 ?k7 ?k8 ?_; (case k1 => k_asm); (case k2 => k_asm); (case k3 => k_asm); (case k4 => k_asm); (case k5 => first | exact rfl | assumption); (case k6 => ktr_room); (case k7 => omega); (case k8 => omega))); walk_at "m_post"))

local macro_rules | `(tactic| walk_at "m_mems") => `(tactic| (repeat' (first | exact List.forall_mem_nil _ | (refine List.forall_mem_cons.mpr ⟨by k_mem, ?_⟩))))
local macro_rules | `(tactic| walk_at "m_own") => `(tactic| (intro p9 hp9; (repeat' (first | exact hp9 | refine List.Mem.tail _ ?_))))

local macro_rules | `(tactic| walk_at "getMethod ref") => `(tactic| (k_here; (with_reducible show wpAny _ _ (getMethod (Value.ref _) (Str.ofString "search") _) _ _ _); k_dflt (refine' meth_search ?k1 ?k2 ?k3 ?k4 ?k5 ?_; (case k1 => k_asm); (case k2 => k_asm); (case k3 => k_is); (case k4 => rfl); (case k5 => rfl))))
local macro_rules | `(tactic| walk_at "call builtin:re.Pattern.search") => `(tactic| (k_here; k_dflt (refine' search_K ?k1 ?k2 ?k3 ?k4 ?k5 ?k6 ?k7 ?k8 ?k9 ?ka ?kb ?kc ?_; (case k1 => k_asm); (case k2 => k_asm); (case k3 => k_is); (case k4 => rfl); (case k5 => rfl); (case k6 => k_is); (case k7 => rfl); (case k8 => rfl); (case k9 => rfl); (case kb => assumption); (case ka => decide +kernel); (case kc => assumption))))

local macro_rules | `(tactic| walk_at "m_post0") => `(tactic| (intro h9 tk9 st9; (have F9 := fr_stay (by assumption) st9); (have N9 := news_stay (by assumption) st9); (try dsimp only); k_sweep; (try k_fold)))
local macro_rules | `(tactic| walk_at "call builtin:str.lower") => `(tactic| (k_here; (with_reducible show wpAny _ _ (call (Value.builtin "str.lower") [Value.str _ _]) _ _ _); (refine SC.lower (fit_lower (by omega)) ?_)))
local macro_rules | `(tactic| walk_at "call ref") => `(tactic| (k_here; k_dflt (refine wpAny_call ?_; (refine' conv ?k1 ?k2 ?k3 ?k4 ?k5 ?k6 ?k7 ?_; (case k1 => k_asm); (case k2 => k_asm); (case k3 => k_asm); (case k4 => k_asm); (case k5 => first | exact rfl | assumption); (case k6 => ktr_room); (case k7 => assumption)); walk_at "m_post0")))

local macro_rules | `(tactic| k_room) => `(tactic| ktr_room)
local macro_rules | `(tactic| k_ne) => `(tactic| first | (refine neN ?_; (try dsimp only); first | exact neF (by assumption) | exact neF' (by assumption)) | (refine neN ?_; (try dsimp only); omega))
theorem lawAll.tw596698743771375600 : True := trivial
theorem lawAll.tw8818835292408959777 : True := trivial
theorem lawAll.tw6244085327911893841 : True := trivial
theorem lawAll.tw1859264840788869246 : True := trivial
theorem lawAll.tw14874640398537467200 : True := trivial
theorem lawAll.tw4343552728862277388 : True := trivial
theorem lawAll.tw12045483757684480924 : True := trivial
theorem lawAll.tw8642004941398466867 : True := trivial
theorem lawAll.tw12828373245516159856 : True := trivial
theorem lawAll.tw7821266190736182912 : True := trivial
theorem lawAll.tw953386525165580501 : True := trivial
theorem lawAll.tw12201423563464929739 : True := trivial
theorem lawAll.tw7427295549314705070 : True := trivial
theorem lawAll.tw18419780458545710166 : True := trivial
theorem lawAll.tw6858110588540304254 : True := trivial
theorem lawAll.tw5161310220114353013 : True := trivial
theorem lawAll.tw10049407892043886659 : True := trivial
theorem lawAll.tw3968506591879405028 : True := trivial
theorem lawAll.tw10280679406615522438 : True := trivial
theorem lawAll.tw16626301670092680310 : True := trivial
theorem lawAll.tw7265192370213317203 : True := trivial
theorem lawAll.tw6332285897277122286 : True := trivial
theorem lawAll.tw17565970409524985418 : True := trivial
theorem lawAll.tw37462215405306112 : True := trivial
theorem lawAll.tw16114017886410868756 : True := trivial
theorem lawAll.tw935661478406994603 : True := trivial
theorem lawAll.tw8639964548076576966 : True := trivial
theorem lawAll.tw9022125028007893462 : True := trivial
theorem lawAll.tw6143171324197190925 : True := trivial
theorem lawAll.tw8830040471477138989 : True := trivial
theorem lawAll.tw4651296247170107473 : True := trivial
theorem lawAll.tw9966260943144624809 : True := trivial
theorem lawAll.tw2748177932422206476 : True := trivial
theorem lawAll.tw11436980781099886121 : True := trivial
theorem lawAll.tw5728151225191513339 : True := trivial
theorem lawAll.tw9564459014399496832 : True := trivial
theorem lawAll.tw11988942192818853092 : True := trivial
theorem lawAll.tw10350510652969406175 : True := trivial
theorem lawAll.tw16931316899086016201 : True := trivial
theorem lawAll.tw8803245978965942699 : True := trivial
theorem lawAll.tw10619668358517519100 : True := trivial
theorem lawAll.tw560720139964356275 : True := trivial
theorem lawAll.tw12341573684643049522 : True := trivial
theorem lawAll.tw13010352590713779345 : True := trivial
theorem lawAll.tw8218230865353327686 : True := trivial
theorem lawAll.tw16366158608253197589 : True := trivial
theorem lawAll.tw9815425195324926575 : True := trivial
theorem lawAll.tw7338926870497705356 : True := trivial
theorem lawAll.tw15991247558968142112 : True := trivial
theorem lawAll.tw4140448905203125642 : True := trivial
theorem lawAll.tw2022356982325539694 : True := trivial
theorem lawAll.tw11912736485578714459 : True := trivial
theorem lawAll.tw10715994447767734424 : True := trivial
theorem lawAll.tw14569855970608756083 : True := trivial
theorem lawAll.tw2412786391799457526 : True := trivial
theorem lawAll.tw16444149802035148994 : True := trivial
theorem lawAll.tw7924488416337270877 : True := trivial
theorem lawAll.tw17648334122114905510 : True := trivial
theorem lawAll.tw18337499904378635216 : True := trivial
theorem lawAll.tw745017888418433506 : True := trivial
theorem lawAll.tw12061426753395980852 : True := trivial
theorem lawAll.tw9896517138932199975 : True := trivial
theorem lawAll.tw14242673491128912527 : True := trivial
theorem lawAll.tw5864930730512051981 : True := trivial
theorem lawAll.tw2665878780030824890 : True := trivial
theorem lawAll.tw14555054271572561209 : True := trivial
theorem lawAll.tw5190414011552947674 : True := trivial
theorem lawAll.tw1536715352931673049 : True := trivial
theorem lawAll.tw13270669384219225433 : True := trivial
theorem lawAll.tw10582130130226786169 : True := trivial
theorem lawAll.tw16820989932227785572 : True := trivial
theorem lawAll.tw15505284556089547220 : True := trivial
theorem lawAll.tw12042993652977007660 : True := trivial
theorem lawAll.tw8648740447099944098 : True := trivial
theorem lawAll.tw4254128056559500520 : True := trivial
theorem lawAll.tw10959922751669544827 : True := trivial
theorem lawAll.tw15676139998459543760 : True := trivial
theorem lawAll.tw2811496093831205301 : True := trivial
theorem lawAll.tw16211122981330793638 : True := trivial
theorem lawAll.tw16455354681798425017 : True := trivial
theorem lawAll.tw501216476122563177 : True := trivial
theorem lawAll.tw9047105032493522113 : True := trivial
theorem lawAll.tw3153103156122218202 : True := trivial
theorem lawAll.tw15364703416859912615 : True := trivial
theorem lawAll.tw1282915816725891390 : True := trivial
theorem lawAll.tw322887695167018471 : True := trivial
theorem lawAll.tw3110614877905532686 : True := trivial
theorem lawAll.tw16868425562419438683 : True := trivial
theorem lawAll.tw2570915093007178368 : True := trivial
theorem lawAll.tw6703023775526435416 : True := trivial
theorem lawAll.tw18107001680129377939 : True := trivial
theorem lawAll.tw10775597314094583430 : True := trivial
theorem lawAll.tw11712565803576957783 : True := trivial
theorem lawAll.tw7161207199982296276 : True := trivial
theorem lawAll.tw8937422485241074162 : True := trivial
theorem lawAll.tw2698323955949950865 : True := trivial
theorem lawAll.tw12771449922091415666 : True := trivial
theorem lawAll.tw7746605684080601441 : True := trivial
theorem lawAll.tw11267634428142233229 : True := trivial
theorem lawAll.tw17168373713978953810 : True := trivial
theorem lawAll.tw14946479738111601835 : True := trivial
theorem lawAll.tw820575892238112889 : True := trivial
theorem lawAll.tw6526294684837370960 : True := trivial
theorem lawAll.tw4208847250738531172 : True := trivial
theorem lawAll.tw15630016582657263046 : True := trivial
theorem lawAll.tw3428807466770995036 : True := trivial
theorem lawAll.tw9623488277456622054 : True := trivial
theorem lawAll.tw13002168238445624832 : True := trivial
theorem lawAll.tw937581978992572661 : True := trivial
theorem lawAll.tw7295552053046995373 : True := trivial
theorem lawAll.tw1617205945413415873 : True := trivial
theorem lawAll.tw15124256521577043497 : True := trivial
theorem lawAll.tw1275818904096652654 : True := trivial
theorem lawAll.tw18107302103128218315 : True := trivial
theorem lawAll.tw9323647005640263621 : True := trivial
theorem lawAll.tw12307013417921228065 : True := trivial
theorem lawAll.tw16266156554330545109 : True := trivial
theorem lawAll.tw2428823362840081865 : True := trivial
theorem lawAll.tw13159340958973230036 : True := trivial
theorem lawAll.tw9105315868451034361 : True := trivial
theorem lawAll.tw15829781840466982731 : True := trivial
theorem lawAll.tw5954379009169713356 : True := trivial
theorem lawAll.tw8597292983209290842 : True := trivial
theorem lawAll.tw2550088164367427168 : True := trivial
theorem lawAll.tw4776421625454615645 : True := trivial
theorem lawAll.tw8516023752155012945 : True := trivial
theorem lawAll.tw12417001137406095289 : True := trivial
theorem lawAll.tw16090010807712447478 : True := trivial
theorem lawAll.tw13147978503119705216 : True := trivial
theorem lawAll.tw5200085376970095154 : True := trivial
theorem lawAll.tw14928313962073897480 : True := trivial
theorem lawAll.tw2541938915404339769 : True := trivial
theorem lawAll.tw7588936669857773304 : True := trivial
theorem lawAll.tw7458266903274642692 : True := trivial
theorem lawAll.tw4844051539491773472 : True := trivial
theorem lawAll.tw105660578031681440 : True := trivial
theorem lawAll.tw6086144281401477644 : True := trivial
theorem lawAll.tw15748918419673523998 : True := trivial
theorem lawAll.tw11673728206827799569 : True := trivial
theorem lawAll.tw12668368323326122385 : True := trivial
theorem lawAll.tw4636287043641813599 : True := trivial
theorem lawAll.tw6523036832047532120 : True := trivial
theorem lawAll.tw944478573581790681 : True := trivial
theorem lawAll.tw4645555408965376366 : True := trivial
theorem lawAll.tw10121707649417828652 : True := trivial
theorem lawAll.tw1634933718444128652 : True := trivial
theorem lawAll.tw221153836720223114 : True := trivial
theorem lawAll.tw4110590683462396305 : True := trivial
theorem lawAll.tw10270905956426240540 : True := trivial
theorem lawAll.tw15830716718891964563 : True := trivial
theorem lawAll.tw7734532573591672083 : True := trivial
theorem lawAll.tw17245399983738167179 : True := trivial
theorem lawAll.tw13503368755956608632 : True := trivial
theorem lawAll.tw17415647052507374980 : True := trivial
theorem lawAll.tw13294883586343543133 : True := trivial
theorem lawAll.tw4041479997531161488 : True := trivial
theorem lawAll.tw2207053825450897865 : True := trivial
theorem lawAll.tw2912959851322561596 : True := trivial
theorem lawAll.tw8965910507689891490 : True := trivial
theorem lawAll.tw220945434881961554 : True := trivial
theorem lawAll.tw216537877127825957 : True := trivial
theorem lawAll.tw17713512701095968718 : True := trivial
theorem lawAll.tw7980701827650213949 : True := trivial
theorem lawAll.tw14016821115303154114 : True := trivial
theorem lawAll.tw10478207380503415140 : True := trivial
theorem lawAll.tw3848361311708604959 : True := trivial
theorem lawAll.tw9251896256477500945 : True := trivial
theorem lawAll.tw10680353005631501465 : True := trivial
theorem lawAll.tw6313989668148383308 : True := trivial
theorem lawAll.tw12740670078305932068 : True := trivial
theorem lawAll.tw5635515498856424817 : True := trivial
theorem lawAll.tw18143271016766588393 : True := trivial
theorem lawAll.tw10455582705802072971 : True := trivial
theorem lawAll.tw6799928202973089734 : True := trivial
theorem lawAll.tw5620118078107107735 : True := trivial
theorem lawAll.tw6104274365079168945 : True := trivial
theorem lawAll.tw12418931559266305860 : True := trivial
theorem lawAll.tw7747018800304174399 : True := trivial
theorem lawAll.tw7111234669769168805 : True := trivial
theorem lawAll.tw11921596500156746635 : True := trivial
theorem lawAll.tw9140326996770896256 : True := trivial
theorem lawAll.tw6945445277588278137 : True := trivial
theorem lawAll.tw4078331922764629416 : True := trivial
theorem lawAll.tw12110208284416076991 : True := trivial
theorem lawAll.tw3439572248316767833 : True := trivial
theorem lawAll.tw11204932214439810247 : True := trivial
theorem lawAll.tw14056058067768777083 : True := trivial
theorem lawAll.tw3223425518254528795 : True := trivial
theorem lawAll.tw13287423660624181459 : True := trivial
theorem lawAll.tw13786195474621255416 : True := trivial
theorem lawAll.tw1084585833812029701 : True := trivial
theorem lawAll.tw5907494004034311671 : True := trivial
theorem lawAll.tw16976263542821864289 : True := trivial
theorem lawAll.tw16043748213806459143 : True := trivial
theorem lawAll.tw17827317752230643710 : True := trivial
theorem lawAll.tw7489877103153131149 : True := trivial
theorem lawAll.tw16371359602048169422 : True := trivial
theorem lawAll.tw14610589545860304287 : True := trivial
theorem lawAll.tw13274962004030492851 : True := trivial
theorem lawAll.tw10255024642879761489 : True := trivial
theorem lawAll.tw12181375807192324013 : True := trivial
theorem lawAll.tw3311010018770695949 : True := trivial
theorem lawAll.tw17028904940454715942 : True := trivial
theorem lawAll.tw1433084515228806386 : True := trivial
theorem lawAll.tw6136270060471623327 : True := trivial
theorem lawAll.tw18180642443345437799 : True := trivial
theorem lawAll.tw3253679002753471927 : True := trivial
theorem lawAll.tw12386343488025118870 : True := trivial
theorem lawAll.tw3023241426661244231 : True := trivial
theorem lawAll.tw15806857251727485653 : True := trivial
theorem lawAll.tw5556122799266237591 : True := trivial
theorem lawAll.tw11002336945963691041 : True := trivial
theorem lawAll.tw3768915364345970047 : True := trivial
theorem lawAll.tw4744590584613466380 : True := trivial
theorem lawAll.tw13194779372557549334 : True := trivial
theorem lawAll.tw14617090440708810171 : True := trivial
theorem lawAll.tw13436050922882525422 : True := trivial
theorem lawAll.tw8708928717859766969 : True := trivial
theorem lawAll.tw3408597989762021186 : True := trivial
theorem lawAll.tw10324692122745530987 : True := trivial
theorem lawAll.tw5470577587814119776 : True := trivial
theorem lawAll.tw10513849057481356871 : True := trivial
theorem lawAll.tw18023428801417856151 : True := trivial
theorem lawAll.tw4485500905829519521 : True := trivial
theorem lawAll.tw3851146157462129562 : True := trivial
theorem lawAll.tw12707998062408761654 : True := trivial
theorem lawAll.tw13702635052602681150 : True := trivial
theorem lawAll.tw13016856514302505206 : True := trivial
theorem lawAll.tw10235522147507500503 : True := trivial
theorem lawAll.tw17555445820468018312 : True := trivial
theorem lawAll.tw17514275227303748591 : True := trivial
theorem lawAll.tw11734653935917485697 : True := trivial
theorem lawAll.tw15511478568110224838 : True := trivial
theorem lawAll.tw3240326090831292405 : True := trivial
theorem lawAll.tw18111916469948476973 : True := trivial
theorem lawAll.tw9298997264930305496 : True := trivial
theorem lawAll.tw12588139851698361823 : True := trivial
theorem lawAll.tw12219188472160295447 : True := trivial
theorem lawAll.tw15372729700842562067 : True := trivial
theorem lawAll.tw1643629411611807022 : True := trivial
theorem lawAll.tw2432628988794059600 : True := trivial
theorem lawAll.tw10308603912275327638 : True := trivial
theorem lawAll.tw3166831235668190696 : True := trivial
theorem lawAll.tw1878560482596927596 : True := trivial
theorem lawAll.tw3975964921160387550 : True := trivial
theorem lawAll.tw10676980265801017219 : True := trivial
theorem lawAll.tw16087581218264509804 : True := trivial
theorem lawAll.tw4579324665073191640 : True := trivial
theorem lawAll.tw6925252954073810492 : True := trivial
theorem lawAll.tw17503535016915526970 : True := trivial
set_option Elab.async true in
theorem lawAll : PySem.Challenge.rw_tl0055_01.Holds := by
  w_on; o_law
  o_head (kHook Kf [nat_lit 2, nat_lit 3, nat_lit 32, nat_lit 34, nat_lit 35, nat_lit 37, nat_lit 38, nat_lit 42, nat_lit 43, nat_lit 47, nat_lit 48, nat_lit 56, nat_lit 57, nat_lit 59, nat_lit 60, nat_lit 62, nat_lit 63, nat_lit 64, nat_lit 66, nat_lit 67, nat_lit 69, nat_lit 70, nat_lit 71, nat_lit 73, nat_lit 74, nat_lit 76, nat_lit 77, nat_lit 78, nat_lit 80, nat_lit 81, nat_lit 83, nat_lit 84, nat_lit 85, nat_lit 88, nat_lit 89, nat_lit 90, nat_lit 92, nat_lit 93, nat_lit 95, nat_lit 96, nat_lit 97, nat_lit 99, nat_lit 100, nat_lit 102, nat_lit 103, nat_lit 104, nat_lit 106, nat_lit 107, nat_lit 109, nat_lit 110, nat_lit 111, nat_lit 112, nat_lit 114, nat_lit 115, nat_lit 117, nat_lit 118, nat_lit 119, nat_lit 122, nat_lit 123, nat_lit 124, nat_lit 127, nat_lit 128, nat_lit 129, nat_lit 131, nat_lit 132, nat_lit 134, nat_lit 135, nat_lit 136, nat_lit 138, nat_lit 139, nat_lit 141, nat_lit 142, nat_lit 143, nat_lit 146, nat_lit 147, nat_lit 148, nat_lit 150, nat_lit 151, nat_lit 153, nat_lit 154, nat_lit 155, nat_lit 157, nat_lit 158, nat_lit 160, nat_lit 161, nat_lit 162, nat_lit 164, nat_lit 165, nat_lit 167, nat_lit 168, nat_lit 169, nat_lit 170, nat_lit 171, nat_lit 172, nat_lit 173, nat_lit 176, nat_lit 178, nat_lit 179, nat_lit 181, nat_lit 182, nat_lit 183, nat_lit 185, nat_lit 186, nat_lit 188, nat_lit 189, nat_lit 190, nat_lit 192, nat_lit 193, nat_lit 195, nat_lit 196, nat_lit 197, nat_lit 199, nat_lit 200, nat_lit 202, nat_lit 203, nat_lit 204, nat_lit 206, nat_lit 207, nat_lit 209, nat_lit 210, nat_lit 211, nat_lit 213, nat_lit 214, nat_lit 216, nat_lit 217, nat_lit 228, nat_lit 230, nat_lit 231, nat_lit 233, nat_lit 234, nat_lit 235, nat_lit 237, nat_lit 238, nat_lit 240, nat_lit 241, nat_lit 242, nat_lit 244, nat_lit 245, nat_lit 247, nat_lit 248, nat_lit 249, nat_lit 251, nat_lit 252, nat_lit 254, nat_lit 255, nat_lit 256, nat_lit 258, nat_lit 259, nat_lit 261, nat_lit 262, nat_lit 263, nat_lit 265, nat_lit 266, nat_lit 268, nat_lit 269, nat_lit 270, nat_lit 272, nat_lit 273, nat_lit 275, nat_lit 276, nat_lit 277, nat_lit 278, nat_lit 279, nat_lit 280, nat_lit 281, nat_lit 284, nat_lit 286, nat_lit 287, nat_lit 289, nat_lit 290, nat_lit 291, nat_lit 293, nat_lit 294, nat_lit 296, nat_lit 297, nat_lit 298, nat_lit 300, nat_lit 301, nat_lit 303, nat_lit 304, nat_lit 305, nat_lit 308, nat_lit 309, nat_lit 310, nat_lit 312, nat_lit 313, nat_lit 315, nat_lit 316, nat_lit 317, nat_lit 320, nat_lit 321, nat_lit 322, nat_lit 325, nat_lit 326, nat_lit 327, nat_lit 329, nat_lit 330, nat_lit 332, nat_lit 333, nat_lit 334, nat_lit 337, nat_lit 338, nat_lit 339, nat_lit 342, nat_lit 343, nat_lit 344, nat_lit 347, nat_lit 348] (fun _ => by kernel_rfl))
  case hw => w_witness2
  intro w s₀ s₁ mg mb G Y fa o pm cd doc dV kV ho hfd hcd hD hmg hg args vals as hpre hlay hrd hwl hlo
  have KX := kIn_of Y
  have X := (Ground.X G).1
  have V := (Ground.X G).2
  try w_nolog (first | (have GL := glob_more (Ground.glob G (by first | k_qdec | decide +kernel) (by first | k_qdec | decide +kernel)) V) | (have GL := glob_more (Ground.glob G (by decide +kernel)) V))
  refine Ground.open G ?_
  intro T B D TE TW
  try (refine guard_noD D (by decide +kernel) ?_; clear D)
  obtain ⟨_, _, M⟩ := bmod_of_top T
  have TA := at_of_top T
  try (obtain ⟨_, _, he, B0⟩ := based_of_top T rfl hmg ho hfd; have he' : cd = _ := he; subst he'; clear he)
  clear hmg
  wrow_args hpre hlay hrd hwl hlo
  all_goals (
    first | refine callC_kw (enter_call ?_) | refine enter_call ?_ | refine callC_kw (enter_callW ?_) | refine enter_callW ?_ | w_how
    w_top on
    have K0 := below_caller (Top.heap T)
    w_call any ho hfd hcd hD T F
    clear hfd TA
    k_drop
    skip)
  w_top off
  exact by
    k_fold
    (dsimp only)
    repeat' ((fail_if_success (with_reducible show wpAny _ _ (subscriptTail _ (PySem.Expr.Slice (some _) none none _) _ _) _ _ _)); first | (k_unfold; (try dsimp only)) | walk1 | (dsimp only; walk1))
    (rename News _ _ _ _ => N5)
    have hI5 := ints_lit3 N5
    k_dflt refine' slice_fromT ?zFL2 ?zNL2 ?zlL2 hI5 ?zposL2 ?_ ?zsL2 ?zzL2
    case zFL2 => k_asm
    case zNL2 => k_asm
    case zlL2 => kmk_list
    case zsL2 => with_unfolding_all rfl
    case zzL2 => exact Nat.le_of_ble_eq_true rfl
    case zposL2 => exact Int.natCast_nonneg _
    intro D5 ws5 h5 F5 N5' l5 hIs
    (try k_lt l5)
    (try k_sweep)
    walk1
    (rename IntsAre _ (List.map _ _ ++ _) => hIn)
    simp only [Int.toNat_natCast] at hIn
    obtain ⟨n0, n1, n2, hn, ⟨b0, c0⟩, ⟨b1, c1⟩, ⟨b2, c2⟩⟩ := nums_are ‹_›
    have hI3 := ints_eq hIn hn
    clear hIs hn hI5 hIn
    repeat' ((fail_if_success (with_reducible show wpAny _ _ (call (Value.ref 290) _) _ _ _)); first | (k_unfold; (try dsimp only)) | walk1 | (dsimp only; walk1))
    dsimp only [List.getD_cons_zero, List.getD_cons_succ, Int.toNat_zero]
    obtain ⟨sz, hsz⟩ : ∃ sz : Nat, (n0 % 3 = 0 ∧ sz = 7) ∨ (n0 % 3 = 1 ∧ sz = 13) ∨ (n0 % 3 = 2 ∧ sz = 21) := by
      have : n0 % 3 = 0 ∨ n0 % 3 = 1 ∨ n0 % 3 = 2 := by omega
      rcases this with h | h | h
      · exact ⟨7, .inl ⟨h, rfl⟩⟩
      · exact ⟨13, .inr (.inl ⟨h, rfl⟩)⟩
      · exact ⟨21, .inr (.inr ⟨h, rfl⟩)⟩
    k_dflt refine' ring _ _ _ _ _ _ _ _ _ _ _ _ _ _ _ _ sz _ _ _ ?r1L2 ?r2L2 ?r3L2 ?r4L2 ?r5L2 ?r6L2 hsz ?r8L2 ?r9L2 ?_
    case r1L2 => k_asm
    case r2L2 => k_asm
    case r3L2 => k_asm
    case r4L2 => k_asm
    case r5L2 => rfl
    case r6L2 => exact ⟨b0, c0⟩
    case r8L2 => decide
    case r9L2 => decide
    intro rD rlb rys rnb rnt rt1 rt2 h6 tk6 st6 eD elb fD flb neD hIb
    (rename Fr _ _ _ _ => F5)
    (rename News _ _ _ _ => N5)
    have F6 := fr_stay F5 st6
    have N6 := more_news (news_more F5 N5 st6 elb flb) eD (ne_of_old F5 fD) (fresh_of F5 fD)
    have xD := allNe_fresh N5 fD
    have xlb := allNe_fresh N5 flb
    have xDl : NeF rD rlb := neD
    simp only [AllNe, and_true] at xD xlb
    repeat (obtain ⟨_, xD⟩ := xD)
    repeat (obtain ⟨_, xlb⟩ := xlb)
    replace N6 := news_d4 N6
    clear F5 N5 neD fD flb eD elb st6
    dsimp only
    (try k_fold)
    repeat' ((fail_if_success (with_reducible show wpAny _ _ (call (Value.ref 297) _) _ _ _)); first | (k_unfold; (try dsimp only)) | walk1 | (dsimp only; walk1))
    have hring : Ring sz := by
      rcases hsz with h | h | h
      · exact .inl h.2
      · exact .inr (.inl h.2)
      · exact .inr (.inr h.2)
    have hs1 : 1 ≤ sz ∧ sz ≤ 21 := by rcases hring with h | h | h <;> omega
    k_dflt refine' units _ _ _ _ _ _ _ _ _ _ _ _ _ _ _ sz _ _ _ ?u1L2 ?u2L2 ?u3L2 ?u4L2 ?u5L2 hs1.1 hs1.2 ?u8L2 ?u9L2 ?_
    case u1L2 => k_asm
    case u2L2 => k_asm
    case u3L2 => k_asm
    case u4L2 => k_asm
    case u5L2 => rfl
    case u8L2 => decide
    case u9L2 => decide
    intro uD uys un h7 tk7 st7 eu fu hIu
    (rename Fr _ _ _ _ => F5)
    (rename News _ _ _ _ => N5)
    have F7 := fr_stay F5 st7
    have N7 := news_more F5 N5 st7 eu fu
    have xu := allNe_fresh N5 fu
    have yuD := ne_fresh N5 fu
    simp only [AllNe, and_true] at xu
    repeat (obtain ⟨_, xu⟩ := xu)
    clear F5 N5 fu eu st7
    obtain ⟨hul0, hul1, hub⟩ := units_len hring
    obtain ⟨us, hus⟩ : ∃ us, us = unitsF sz (sz - 1) := ⟨_, rfl⟩
    rw [← hus] at hIu hul0 hul1 hub
    dsimp only
    (try k_fold)
    repeat' ((fail_if_success (with_reducible show wpAny _ _ (subscriptTail _ _ (Value.ref uD) _) _ _ _)); first | (k_unfold; (try dsimp only)) | walk1 | (dsimp only; walk1))
    (rename News _ _ _ _ => N5)
    have hulp : (0 : Int) < (us.length : Int) := by omega
    k_dflt refine' item_anyK (News.isList N5 (.head _)) hIu ?i0L2 ?i1L2 ?i2L2 ?_
    case i0L2 => exact Int.fmod_nonneg_of_pos _ hulp
    case i1L2 => exact Int.fmod_lt_of_pos _ hulp
    case i2L2 => exact Int.lt_trans (Int.fmod_lt_of_pos _ hulp) (by omega)
    intro tu
    obtain ⟨u, hu⟩ : ∃ u : Int, u = us.getD ((n0.fdiv 3).fmod (us.length : Int)).toNat 0 := ⟨_, rfl⟩
    have hux : us.getD ((([n0, n1, n2].getD (0 : Int).toNat 0).fdiv 3).fmod (us.length : Int)).toNat 0 = u := hu.symm
    rw [hux]
    have hum : u ∈ us := by rw [hu]; exact getD_mem (Int.fmod_nonneg_of_pos _ hulp) (Int.fmod_lt_of_pos _ hulp)
    have hu1 := (hub u hum).1
    have hu2 := (hub u hum).2
    clear hux
    dsimp only
    (try k_fold)
    walk_at "m_toComp"
    refine compOne (by with_unfolding_all rfl) (by decide) (by rfl) (by decide) (by rfl) ?_
    k_fold
    k_steps
    show wpAny (model _ w) _ (pyIter _) _ _ _
    (rename Fr _ _ _ _ => zF)
    (rename News _ _ _ _ => zN)
    have hbl : (baseF sz).length ≤ 5 ∧ 3 ≤ (baseF sz).length := by rcases hring with rfl | rfl | rfl <;> decide
    have hys := hIb.length
    refine oneList (fun j y => ∃ k t, (baseF sz)[j]? = some k ∧ y = Value.int ((u * k + n1).fmod (sz : Int)) t) rfl (News.isList zN (.tail _ (.tail _ (.head _)))) (by rw [hys, sizeLine_eq]; omega) ?_ ?_
    · intro j va C m₂ h tk2 E' hva hst hC hns hm2
      obtain ⟨k, tk3, hk3, rfl⟩ := ints_at hIb hva
      obtain ⟨oC, heC, hoC⟩ := LCg.ns_obj hns
      have F2 := fr_stay zF hst
      have N3 := more_news (news_stay zN hst) heC (Nat.ne_of_gt (Nat.lt_trans zF.ns.lt hC)) (get_new (Nat.le_trans zF.above (Nat.le_of_lt (Nat.lt_trans zF.ns.lt hC))))
      clear zN zF
      have kE := InElt.start h
      show wpAny (model _ w) _ (eval _ _) _ _ _
      k_fold
      k_steps
      exact ⟨⟨k, _, hk3, rfl⟩, _, _, rfl, by assumption⟩
    intro D ys9 h9 tk9 hln hG hst hD9 hDs
    have hIp : IntsAre ys9 ((baseF sz).map fun k => (u * k + n1).fmod (sz : Int)) := ints_of (by rw [hln, hys, List.length_map]) (fun i y hy => by
      obtain ⟨k, t, hk, rfl⟩ := hG i y hy
      exact ⟨t, _, by rw [List.getElem?_map, hk]; rfl, rfl⟩)
    have F9 := fr_stay zF hst
    have N9 := news_more zF zN hst hD9 (get_new (Nat.le_of_lt hDs))
    have lp := news_lt zN (Nat.le_of_lt hDs)
    k_lt lp
    have hpl : ((baseF sz).map fun k => (u * k + n1).fmod (sz : Int)).length ≤ 5 := by rw [List.length_map]; exact hbl.1
    clear zF zN hG hst hD9 hDs hln
    dsimp only
    (try k_fold)
    repeat' ((fail_if_success (with_reducible show wpAny _ _ (call (Value.ref 309) _) _ _ _)); first | (k_unfold; (try dsimp only)) | walk1 | (dsimp only; walk1))
    (rename _ < _ ∧ _ < _ ∧ _ < _ ∧ _ => lP)
    (rename List.Pairwise _ _ => hsorted)
    (rename List.Perm _ (List.map _ _) => hperm)
    have hps := isort_unique hperm hsorted
    (rename News _ _ _ _ => N5)
    have N6 := news_p1 N5
    (rename IntsAre _ _ => hIx)
    obtain ⟨ps, hpsd⟩ : ∃ ps, ps = placesF sz u n1 := ⟨_, rfl⟩
    have hIps := ints_eq hIx (hps.trans hpsd.symm)
    clear hIx hps hperm hsorted hIp hIb hpl lp hbl hys N5 hul0 hul1 hulp hsz
    exact by
      have hok : LineOk sz ps := by rw [hpsd]; exact plain hring (hus ▸ hum)
      k_dflt refine' sizes _ _ _ _ _ _ _ _ _ _ _ _ _ _ _ _ _ ps (sz : Int) _ _ _ ?s1L3 ?s2L3 ?s3L3 ?s4L3 ?s5L3 ?s6L3 hIps hok.len.1 ⟨by omega, by omega⟩ ?s8L3 ?s9L3 ?_
      case s1L3 => k_asm
      case s2L3 => k_asm
      case s3L3 => k_asm
      case s4L3 => k_asm
      case s5L3 => rfl
      case s6L3 => exact News.isList N6 (.head _)
      case s8L3 => decide
      case s9L3 => decide
      intro sD sys sn h10 tk10 st10 es fs hIs
      (rename Fr _ _ _ _ => F5)
      have F7 := fr_stay F5 st10
      have N7 := news_more F5 N6 st10 es fs
      have xs := allNe_fresh N6 fs
      simp only [AllNe, and_true] at xs
      repeat (obtain ⟨_, xs⟩ := xs)
      clear F5 N6 fs es st10
      have hsl := hok.szl
      have hsb := hok.szs
      have hmk := hok.mrk
      obtain ⟨ss, hss⟩ : ∃ ss, ss = sizesF ps sz := ⟨_, rfl⟩
      rw [← hss] at hIs hsl hsb hmk
      have hpl := hok.len
      dsimp only
      (try k_fold)
      repeat' ((fail_if_success (with_reducible show wpAny _ _ (call (Value.ref 316) _) _ _ _)); first | (k_unfold; (try dsimp only)) | walk1 | (dsimp only; walk1))
      (rename News _ _ _ _ => N5)
      k_dflt refine' marks _ _ _ _ _ _ _ _ _ _ _ _ _ _ _ _ _ ss _ _ _ _ ?m1L3 ?m2L3 ?m3L3 ?m4L3 ?m5L3 ?m6L3 hIs ?m7L3 hsb ?m8L3 ?m9L3 ?_
      case m1L3 => k_asm
      case m2L3 => k_asm
      case m3L3 => k_asm
      case m4L3 => k_asm
      case m5L3 => rfl
      case m6L3 => exact News.isList N5 (.head _)
      case m7L3 => rw [hsl]; exact hpl.1
      case m8L3 => decide
      case m9L3 => decide
      intro mD mys mn h11 tk11 st11 em fm hIm
      (rename Fr _ _ _ _ => F5)
      have F7 := fr_stay F5 st11
      have N7 := news_more F5 N5 st11 em fm
      have xm := allNe_fresh N5 fm
      simp only [AllNe, and_true] at xm
      repeat (obtain ⟨_, xm⟩ := xm)
      clear F5 N5 fm em st11
      have hIm2 := ints_eq hIm hmk
      clear hIm
      obtain ⟨p0, hp0⟩ : ∃ p0, p0 = ps.getD 0 0 := ⟨_, rfl⟩
      rw [← hp0] at hIm2
      dsimp only
      (try k_fold)
      repeat' ((fail_if_success (with_reducible show wpAny _ _ (compareOp CmpOp.NotEq _ _) _ _ _)); first | (k_unfold; (try dsimp only)) | walk1 | (dsimp only; walk1))
      (rename News _ _ _ _ => N5)
      (rename IntsAre _ (_ ++ [List.getD _ _ _ + _]) => hIq0)
      have hIq := ints_eq hIq0 (show _ = ps ++ [p0 + (sz : Int)] from by rw [hp0]; rfl)
      k_dflt refine' ne_intsK (News.isList N5 (.tail _ (.tail _ (.head _)))) hIm2 (News.isList N5 (.head _)) hIq ?q5L3 ?_
      case q5L3 => show 7 + 64 < cLine; decide
      rw [show (!decide (ps ++ [p0 + (sz : Int)] = ps ++ [p0 + (sz : Int)])) = false from by simp]
      have N6 := news_d2 N5
      clear N5 hIq hIq0
      dsimp only
      (try k_fold)
      repeat' ((fail_if_success (with_reducible show wpAny _ _ (call (Value.ref 326) _) _ _ _)); first | (k_unfold; (try dsimp only)) | walk1 | (dsimp only; walk1))
      (rename News _ _ _ _ => N5)
      (rename IntsAre _ (List.take _ (ps ++ _)) => hIq0)
      have hIq := ints_eq hIq0 (show _ = ps from by simp)
      k_dflt refine' stairs _ _ _ _ _ _ _ _ _ _ _ _ _ _ _ _ _ ps (sz : Int) _ _ _ ?t1L3 ?t2L3 ?t3L3 ?t4L3 ?t5L3 (N5 _ (.head _)).1 hIq hok.len.1 ⟨by omega, by omega⟩ ?t8L3 ?t9L3 ?_
      case t1L3 => k_asm
      case t2L3 => k_asm
      case t3L3 => k_asm
      case t4L3 => k_asm
      case t5L3 => rfl
      case t8L3 => decide
      case t9L3 => decide
      intro h12 tk12 st12
      (rename Fr _ _ _ _ => F5)
      have F7 := fr_stay F5 st12
      have N7 := news_d1 (news_stay N5 st12)
      rw [hok.str]
      clear F5 N5 st12 hIq hIq0
      dsimp only
      (try k_fold)
      repeat' ((fail_if_success (with_reducible show wpAny _ _ (call (Value.ref 333) _) _ _ _)); first | (k_unfold; (try dsimp only)) | walk1 | (dsimp only; walk1))
      exact by
        (rename News _ _ _ _ => N5)
        (rename IntsAre _ (List.take _ (ps ++ _)) => hIq0)
        have hIq := ints_eq hIq0 (show _ = ps from by simp)
        k_dflt refine' book _ _ _ _ _ _ _ _ _ _ _ _ _ _ _ _ _ ps (sz : Int) _ _ _ ?a1L4 ?a2L4 ?a3L4 ?a4L4 ?a5L4 (News.isList N5 (.head _)) hIq hok.len.1 ⟨by omega, by omega⟩ hok.rng ?a8L4 ?a9L4 ?_
        case a1L4 => k_asm
        case a2L4 => k_asm
        case a3L4 => k_asm
        case a4L4 => k_asm
        case a5L4 => rfl
        case a8L4 => decide
        case a9L4 => decide
        intro bD x dx lh lo tkk ts hs bs tp bn bnl bnlo h13 tk13 st13 hnq hU hbk hhl hbl hkl odx oxl olo otp
        (rename Fr _ _ _ _ => F5)
        have F7 := fr_stay F5 st13
        have N6 := news_d1 N5
        have N7 := news_many F5 N6 st13 hnq
        have xlh := allNe_fresh N6 (hnq _ (.tail _ (.tail _ (.head _)))).2
        have xx := allNe_fresh N6 (hnq _ (.tail _ (.tail _ (.tail _ (.head _))))).2
        have xdx := allNe_fresh N6 (hnq _ (.tail _ (.tail _ (.tail _ (.tail _ (.head _)))))).2
        simp only [AllNe, and_true] at xlh xx xdx
        repeat (obtain ⟨_, xlh⟩ := xlh)
        repeat (obtain ⟨_, xx⟩ := xx)
        repeat (obtain ⟨_, xdx⟩ := xdx)
        have ylh := ne_fresh N6 (hnq _ (.tail _ (.tail _ (.head _)))).2
        have yx := ne_fresh N6 (hnq _ (.tail _ (.tail _ (.tail _ (.head _))))).2
        have ydx := ne_fresh N6 (hnq _ (.tail _ (.tail _ (.tail _ (.tail _ (.head _)))))).2
        clear F5 N5 N6 st13 hIq hIq0 hnq
        simp only [List.cons_append] at N7
        have hbk1 : hs = (bookOut sz ps ps).1 := congrArg Prod.fst hbk
        have hbk2 : bs = List.replicate (sz - 1) true := (congrArg Prod.snd hbk).trans hok.bks
        dsimp only
        (try k_fold)
        repeat' ((fail_if_success (with_reducible show wpAny _ _ (exec (PySem.Stmt.If _ _ _ _) _) _ _ _)); first | (k_unfold; (try dsimp only)) | walk1 | (dsimp only; walk1))
        (rename News _ _ _ _ => N5)
        have N6 := news_swap N5
        simp only [List.cons_append, List.nil_append] at N6
        clear N5
        repeat' ((fail_if_success (with_reducible show wpAny _ _ (compareOp CmpOp.NotEq _ _) _ _ _)); first | (k_unfold; (try dsimp only)) | walk1 | (dsimp only; walk1))
        (rename _root_.PySem.Heap.IsList _ _ _ => hLt)
        (rename CarriedAll _ _ => hCt)
        (rename News _ _ _ _ => N5)
        have hLt2 := is_list_eq hLt (congrArg List.toArray (trues (n := ((sz : Int) - 1).toNat)))
        k_dflt refine' ne_boolsK (News.isList N5 (.tail _ (.head _))) hLt2 ?v5L4 ?_
        case v5L4 => show 7 + 64 < cLine; decide
        rw [hbk2, show ((sz : Int) - 1).toNat = sz - 1 from by omega, show (!decide (List.replicate (sz - 1) true = List.replicate (sz - 1) true)) = false from by simp]
        have N6 := news_d1 N5
        clear N5 hLt hLt2 hCt
        dsimp only
        (try k_fold)
        repeat' ((fail_if_success (with_reducible show wpAny _ _ (exec (PySem.Stmt.For _ _ _ _ _) _) _ _ _)); first | (k_unfold; (try dsimp only)) | walk1 | (dsimp only; walk1))
        exact by
          obtain ⟨one, hone⟩ : ∃ one : Int, one = n2.fmod (sz : Int) := ⟨_, rfl⟩
          have hone0 : 0 ≤ one := hone ▸ Int.fmod_nonneg_of_pos _ (by omega)
          have hone1 : one < (sz : Int) := hone ▸ Int.fmod_lt_of_pos _ (by omega)
          (rename Fr _ _ _ _ => FA)
          (rename News _ _ _ _ => NA)
          rw [show ([n0, n1, n2].getD (Int.toNat 2) 0).fmod (sz : Int) = one from hone.symm] at FA
          refine For_invT s₁.heap ?_ (by intro _; rfl)
          show wpAny (model _ w) _ _ _ _ _
          k_fold
          k_steps
          show wpAny (model _ w) _ (pyIter _) _ _ _
          (rename IsRange _ _ _ _ _ _ _ _ => hR)
          (rename Fr _ _ _ _ => FC)
          (rename News _ _ _ _ => NC)
          (try clear FA)
          (try clear NA)
          obtain ⟨m0, hm0, FD⟩ := frNamed FC
          obtain ⟨nwq, hnwq, Nq⟩ := newsNamed NC
          refine rangeT (fun i m₁ nw => nw = nwq ∧ ∀ z, z ≠ Str.ofString "other" → z ≠ Str.ofString "way" → z ≠ Str.ofString "note" → m₁ z = m0 z)
            rfl (by intro _ _; rfl) hR rfl (by omega) FD Nq ⟨rfl, fun _ _ _ _ => rfl⟩ ?_ ?_
          · rintro i ti m₁ nw s₂ own hiz hadr hoff ⟨rfl, hm⟩ F₁ N₁
            rw [map_but3 hm] at F₁
            subst hm0
            subst hnwq
            simp only [List.cons_append, List.nil_append] at N₁
            clear FC NC FD Nq
            show wpAny (model _ w) _ _ _ _ _
            k_fold
            repeat' ((fail_if_success (with_reducible show wpAny _ _ (call (Value.ref 321) _) _ _ _)); first | (k_unfold; (try dsimp only)) | walk1 | (dsimp only; walk1))
            · (rename _ ≠ one => hne)
              (rename Fr _ _ _ _ => F3)
              (rename News _ _ _ _ => N3)
              have hfm := fmod_off (size := (sz : Int)) (a := one) (b := (i : Int)) ⟨by omega, by omega⟩ ⟨hone0, hone1⟩ ⟨by omega, by omega⟩ (fun e => hne e.symm)
              obtain ⟨d, hd0⟩ : ∃ d : Int, d = ((i : Int) - one).fmod (sz : Int) := ⟨_, rfl⟩
              rw [← hd0] at hfm
              have hd2 : d < sz := hd0 ▸ Int.fmod_lt_of_pos _ (by omega)
              obtain ⟨p, hpm, hgp, hth⟩ := wayOk_parts hs1.1 hok.rng (hok.way d hfm.1 hd2)
              rw [← hbk1] at hgp
              have hth2 := hth one hone0 hone1
              rw [hd0, back_way (by omega) (by omega) (by omega)] at hth2
              have hpb := hok.rng p hpm
              rw [← hd0] at N3
              k_dflt refine' word _ _ _ _ _ _ _ _ _ _ _ _ _ _ _ _ _ [d] _ _ ?w1L5 ?w2L5 ?w3L5 ?w4L5 ?w5L5 (News.isList N3 (.head _)) ?w7L5 ?w8L5 ?w9L5 ?waL5 ?_
              case w1L5 => k_asm
              case w2L5 => k_asm
              case w3L5 => k_asm
              case w4L5 => k_asm
              case w5L5 => rfl
              case w7L5 => exact .cons _ _ .nil
              case w8L5 => simp
              case w9L5 => intro n hn; rw [List.mem_singleton.mp hn]; exact hfm
              case waL5 => decide
              intro t9 h9 tk9 st9
              have F9 := fr_stay F3 st9
              have N9 := news_d1 (news_stay N3 st9)
              clear F3 N3 st9
              have hwl : (wordF [d]).length ≤ 100 := by rw [word_one hfm.1 hfm.2]; decide
              dsimp only
              k_sweep
              (try k_fold)
              repeat ((fail_if_success (with_reducible show wpAny _ _ (call (Value.ref 161) _ _) _ _ _)); first | (k_unfold; (try dsimp only)) | walk1 | (dsimp only; walk1))
              (rename News _ _ _ _ => N5)
              have NR := news_rot N5
              refine wpAny_call ?_
              k_dflt refine' hset ?s1L5 ?s2L5 ?s3L5 ?s4L5 ?s5L5 NR (tups_in ylh hU) ?s6L5 odx oxl (off_of ylh yx ydx otp hoff ?o1L5 ?o2L5 ?o3L5 odx oxl olo) ?s7L5 (up_len hfm.1 hfm.2) ?s8L5 hkl ?s9L5 ?_ ?_
              case s1L5 => k_asm
              case s2L5 => k_asm
              case s3L5 => k_asm
              case s4L5 => k_asm
              case s5L5 => rfl
              case s6L5 => omega
              case o1L5 => exact .tail _ (.head _)
              case o2L5 => exact .tail _ (.tail _ (.head _))
              case o3L5 => exact .tail _ (.tail _ (.tail _ (.head _)))
              case s7L5 => decide
              case s8L5 => rw [up_low hfm.1 hfm.2]; exact safe_word hfm.1 hfm.2
              case s9L5 => intro e; rw [hgp] at e; cases e
              rotate_left
              · intro _ _ _ _ _ _ e; rw [hgp] at e; cases e
              intro v t8 h8 tk8 hg8 F8 N8
              have hv : v = strI p := by rw [hgp] at hg8; exact (Option.some.inj hg8).symm
              subst hv
              clear N5 NR hg8
              dsimp only
              k_sweep
              (try k_fold)
              repeat ((fail_if_success (with_reducible show wpAny _ _ (call (Value.ref 118) _ _) _ _ _)); first | (k_unfold; (try dsimp only)) | walk1 | (dsimp only; walk1))
              (rename News _ _ _ _ => N5)
              refine wpAny_call ?_
              k_dflt refine' hget ?g1L5 ?g2L5 ?g3L5 ?g4L5 ?g5L5 N5 (tups_in ylh hU) ?g6L5 (up_len hfm.1 hfm.2) ?g8L5 hkl ?_ ?_
              case g1L5 => k_asm
              case g2L5 => k_asm
              case g3L5 => k_asm
              case g4L5 => k_asm
              case g5L5 => rfl
              case g6L5 => decide
              case g8L5 => rw [up_low hfm.1 hfm.2]; exact safe_word hfm.1 hfm.2
              rotate_left
              · intro _ _ e; rw [hgp] at e; cases e
              intro v t7 h7 tk7' hg7 F7 N7
              have hv : v = strI p := by rw [hgp] at hg7; exact (Option.some.inj hg7).symm
              subst hv
              clear N5 hg7
              dsimp only
              k_sweep
              (try k_fold)
              repeat' ((fail_if_success (with_reducible show wpAny _ _ (call (Value.ref 338) _ _) _ _ _)); first | (k_unfold; (try dsimp only)) | walk1 | (dsimp only; walk1))
              · exfalso
                (rename (strI p != strI p) = true => hx9)
                simp at hx9
              (rename News _ _ _ _ => N5)
              (rename Fr _ _ _ _ => F5)
              k_dflt refine' through _ _ _ _ _ _ _ _ _ _ _ _ _ _ _ _ _ ps (sz : Int) one (i : Int) _ _ _ _ _ ?h1L5 F5 ?h3L5 ?h4L5 ?h5L5 (News.isList N5 (.tail _ (.tail _ (.tail _ (.tail _ (.tail _ (.tail _ (.head _)))))))) hIps hok.len.1 ⟨by omega, by omega⟩ ?h8L5 ?h9L5 ?_
              case h1L5 => k_asm
              case h3L5 => k_asm
              case h4L5 => k_asm
              case h5L5 => rfl
              case h8L5 => decide
              case h9L5 => decide
              intro tD tys tn h15 tk15 st15 et ft hIt
              have F6 := fr_stay F5 st15
              have N6 := news_more F5 N5 st15 et ft
              have hIt2 := ints_eq hIt hth2
              clear F5 N5 st15 et ft hIt
              dsimp only
              k_sweep
              (try k_fold)
              repeat' ((fail_if_success (with_reducible show wpAny _ _ (call (Value.type "int") _ _) _ _ _)); first | (k_unfold; (try dsimp only)) | walk1 | (dsimp only; walk1))
              k_dflt refine' PySem.W.KIN.call_num (n := p) hpb.1 (by omega) ?_
              dsimp only
              (try k_fold)
              repeat' ((fail_if_success (with_reducible show wpAny _ _ (compareOp CmpOp.NotEq _ _) _ _ _)); first | (k_unfold; (try dsimp only)) | walk1 | (dsimp only; walk1))
              (rename News _ _ _ _ => N5)
              k_dflt refine' ne_intsK (News.isList N5 (.tail _ (.head _))) hIt2 (News.isList N5 (.head _)) (ms := [(one - p).fmod (sz : Int)]) (.cons _ _ .nil) ?q5L5 ?_
              case q5L5 => show 7 + 64 < cLine; decide
              rw [show (!decide ([(one - p).fmod (sz : Int)] = [(one - p).fmod (sz : Int)])) = false from by simp]
              have N7 := news_rot3 (news_d2 N5)
              clear N5
              dsimp only
              (try k_fold)
              k_steps
              (rename Fr _ _ _ _ => F9)
              refine turn_intro _ F9 N7 (fun q hq => List.mem_append_left own hq) (fun q hq => List.mem_append_right (_ :: _ :: _ :: _ :: _ :: _ :: _ :: _ :: _ :: _ :: _ :: _ :: _ :: tp) hq) rfl ⟨rfl, ?_⟩
              intro z hz1 hz2 hz3
              simp only [if_neg hz1, if_neg hz2, if_neg hz3]
            · (rename Fr _ _ _ _ => F9)
              (rename News _ _ _ _ => N9)
              refine turn_intro _ F9 N9 (fun q hq => List.mem_append_left own hq) (fun q hq => List.mem_append_right (_ :: _ :: _ :: _ :: _ :: _ :: _ :: _ :: _ :: _ :: _ :: _ :: _ :: tp) hq) rfl ⟨rfl, ?_⟩
              intro z hz1 hz2 hz3
              simp only [if_neg hz1, if_neg hz2, if_neg hz3]
          rintro m₁ nw h tk ⟨rfl, hm⟩ F₁ N₁ _
          dsimp only at hm ⊢
          rw [map_but3 hm] at F₁
          subst hm0
          subst hnwq
          clear FC NC FD Nq hR
          show wpAny (model _ w) _ _ _ _ _
          (try k_fold)
          repeat' ((fail_if_success (with_reducible show wpAny _ _ (call (Value.ref 123) _ _) _ _ _)); first | (k_unfold; (try dsimp only)) | walk1 | (dsimp only; walk1))
          exact by
            dsimp only
            (rename News _ _ _ _ => N5)
            have NR := news_rot N5
            refine wpAny_call ?_
            k_dflt refine' hkeys ?k1L6 ?k2L6 ?k3L6 ?k4L6 ?k5L6 NR (tups_in0 ylh hU) ?k6L6 ?k7L6 ?_
            case k1L6 => k_asm
            case k2L6 => k_asm
            case k3L6 => k_asm
            case k4L6 => k_asm
            case k5L6 => rfl
            case k6L6 => omega
            case k7L6 => decide
            intro kD kys kn h16 tk16 hkl9 F9 N9
            have hkz : kys.toArray.size = sz - 1 := by rw [List.size_toArray, hkl9, hbk1]; exact hok.bkl
            clear N5 NR hkl9
            dsimp only
            k_sweep
            (try k_fold)
            repeat' ((fail_if_success (with_reducible show wpAny _ _ (call (Value.ref 321) _ _) _ _ _)); first | (k_unfold; (try dsimp only)) | walk1 | (dsimp only; walk1))
            · exfalso
              (rename ((sz - 1 : Nat) : Int) ≠ _ => hx9)
              exact hx9 (by omega)
            (rename News _ _ _ _ => N5)
            have N6 := news_d6 N5
            clear N5
            k_dflt refine' word _ _ _ _ _ _ _ _ _ _ _ _ _ _ _ _ _ ss _ _ ?w1L6 ?w2L6 ?w3L6 ?w4L6 ?w5L6 (News.isList N6 (.head _)) hIs ?w8L6 hsb ?waL6 ?_
            case w1L6 => k_asm
            case w2L6 => k_asm
            case w3L6 => k_asm
            case w4L6 => k_asm
            case w5L6 => rfl
            case w8L6 => rw [hsl]; exact hpl.1
            case waL6 => decide
            intro t17 h17 tk17 st17
            (rename Fr _ _ _ _ => F5)
            have F7 := fr_stay F5 st17
            have N7 := news_d1 (news_stay N6 st17)
            clear F5 N6 st17
            dsimp only
            k_sweep
            (try k_fold)
            repeat' ((fail_if_success (with_reducible show wpAny _ _ (call (Value.ref 304) _ _) _ _ _)); first | (k_unfold; (try dsimp only)) | walk1 | (dsimp only; walk1))
            k_dflt refine' powers _ _ _ _ _ _ _ _ _ _ _ _ _ _ _ sz _ _ _ _ ?p1L6 ?p2L6 ?p3L6 ?p4L6 ?p5L6 hring ?p6L6 ?p7L6 ?_
            case p1L6 => k_asm
            case p2L6 => k_asm
            case p3L6 => k_asm
            case p4L6 => k_asm
            case p5L6 => rfl
            case p6L6 => decide
            case p7L6 => decide
            intro pD pys pn h18 tk18 st18 ep fp hIpw
            (rename Fr _ _ _ _ => F5)
            (rename News _ _ _ _ => N5)
            have F8 := fr_stay F5 st18
            have N8 := news_more F5 N5 st18 ep fp
            have xp := allNe_fresh N5 fp
            simp only [AllNe, and_true] at xp
            repeat (obtain ⟨_, xp⟩ := xp)
            have ypD := ne_fresh N5 fp
            clear F5 N5 fp ep st18
            dsimp only
            (try k_fold)
            repeat' ((fail_if_success (with_reducible show wpAny _ _ (exec (PySem.Stmt.For _ _ _ _ _) _) _ _ _)); first | (k_unfold; (try dsimp only)) | walk1 | (dsimp only; walk1))
            exact by
              (rename News _ _ _ _ => N5)
              have hUL := News.isList N5 (.tail _ (.tail _ (.tail _ (.head _))))
              have hUL2 := (N5 _ (.tail _ (.tail _ (.tail _ (.head _))))).2.1
              have N6 := news_l7 N5
              have zpD := neN (ypD _ (.tail _ (.tail _ (.tail _ (.head _)))))
              dsimp only at zpD
              clear N5 xD xlb xu xs xm xlh xx xdx xp xDl
              refine For_invT s₁.heap ?_ (by intro _; rfl)
              show wpAny (model _ w) _ _ _ _ _
              k_fold
              walk1
              k_unfold
              (rename Fr _ _ _ _ => FC)
              obtain ⟨m0, hm0, FD⟩ := frNamed FC
              have hub2 : ∀ f ∈ us, turnOk sz ps f = true := fun f hf => hok.trn f (hus ▸ hf)
              refine listT (fun j m₂ nw => ∃ (ot : Obj) (v : Option Value), nw = (pD, W.listOf pys.toArray pn) :: (_, _) :: (_, ot) :: _ ∧ ot.data = Data.cell v ∧ ∀ z, z ≠ Str.ofString "turned" → m₂ z = m0 z)
                rfl (by intro _ _; rfl) hUL hIu hUL2 FD N6 ?hnlL7 ⟨_, _, rfl, by assumption, fun _ _ => rfl⟩ ?_ ?_
              case hnlL7 =>
                have y3 := yuD _ (.tail _ (.tail _ (.tail _ (.head _))))
                have y4 := yuD _ (.tail _ (.tail _ (.tail _ (.tail _ (.head _)))))
                have y5 := yuD _ (.tail _ (.tail _ (.tail _ (.tail _ (.tail _ (.head _))))))
                have y6 := yuD _ (.tail _ (.tail _ (.tail _ (.tail _ (.tail _ (.tail _ (.head _)))))))
                exact List.forall_mem_cons.mpr ⟨fun e => ypD _ (.tail _ (.head _)) e.symm, List.forall_mem_cons.mpr ⟨Nat.ne_of_gt lP.2.1, List.forall_mem_cons.mpr ⟨y3, List.forall_mem_cons.mpr ⟨y4, List.forall_mem_cons.mpr ⟨y5, List.forall_mem_cons.mpr ⟨y6, List.forall_mem_nil _⟩⟩⟩⟩⟩⟩
              · rintro j f tf m₂ nw s₂ own hjf hadr hoff ⟨ot, v, rfl, dT, hm⟩ F₁ N₁
                rw [map_but hm] at F₁
                subst hm0
                simp only [List.cons_append, List.nil_append] at N₁
                simp only [List.map_cons, List.map_nil] at hoff
                clear FC FD N6 hUL
                show wpAny (model _ w) _ _ _ _ _
                k_fold
                walk_at "m_toCompCall"
                refine compOne (by with_unfolding_all rfl) (by decide) (by rfl) (by decide) (by rfl) ?_
                k_fold
                k_steps
                show wpAny (model _ w) _ (pyIter _) _ _ _
                (rename Fr _ _ _ _ => zF)
                (rename News _ _ _ _ => zN)
                have hfm := List.mem_of_getElem? hjf
                have hfb := hub f hfm
                refine oneList (fun i y => ∃ k t, ps[i]? = some k ∧ y = Value.int ((f * k).fmod (sz : Int)) t) rfl (News.isList zN (.tail _ (.head _))) (by rw [hIps.length, sizeLine_eq]; omega) ?_ ?_
                · intro i va C m₃ h tk2 E' hva hst hC hns hm3
                  obtain ⟨k, tk3, hk3, rfl⟩ := ints_at hIps hva
                  have hkb := hok.rng k (List.mem_of_getElem? hk3)
                  obtain ⟨oC, heC, hoC⟩ := LCg.ns_obj hns
                  have F2 := fr_stay zF hst
                  have N3 := more_news (news_stay zN hst) heC (Nat.ne_of_gt (Nat.lt_trans zF.ns.lt hC)) (get_new (Nat.le_trans zF.above (Nat.le_of_lt (Nat.lt_trans zF.ns.lt hC))))
                  clear zN zF
                  have kE := InElt.start h
                  show wpAny (model _ w) _ (eval _ _) _ _ _
                  k_fold
                  k_steps
                  exact ⟨⟨k, _, hk3, rfl⟩, _, _, rfl, by assumption⟩
                intro D ys h tk2 hln2 hG hst hD hDs
                have hIt : IntsAre ys (ps.map fun k => (f * k).fmod (sz : Int)) := ints_of (by rw [hln2, hIps.length, List.length_map]) (fun i y hy => by
                  obtain ⟨k, t, hk, rfl⟩ := hG i y hy
                  exact ⟨t, _, by rw [List.getElem?_map, hk]; rfl, rfl⟩)
                have F2 := fr_stay zF hst
                have N3 := news_more zF zN hst hD (get_new (Nat.le_of_lt hDs))
                clear zN zF hG hst hD hDs hln2
                have htl : (ps.map fun k => (f * k).fmod (sz : Int)).length ≤ 5 := by rw [List.length_map]; exact hok.len.1
                obtain ⟨htb, hcn⟩ := turnOk_parts (hub2 f hfm)
                repeat' ((fail_if_success (with_reducible show wpAny _ _ (call (Value.ref 309) _ _) _ _ _)); first | (k_unfold; (try dsimp only)) | walk1 | (dsimp only; walk1))
                k_dflt refine' sizes _ _ _ _ _ _ _ _ _ _ _ _ _ _ _ _ _ (ps.map fun k => (f * k).fmod (sz : Int)) (sz : Int) _ _ _ ?s1L7 F2 ?s3L7 ?s4L7 ?s5L7 (News.isList N3 (.head _)) hIt htl ⟨by omega, by omega⟩ ?s8L7 ?s9L7 ?_
                case s1L7 => k_asm
                case s3L7 => k_asm
                case s4L7 => k_asm
                case s5L7 => rfl
                case s8L7 => decide
                case s9L7 => decide
                intro zD zys zn h20 tk20 st20 ez fz hIz
                have F7 := fr_stay F2 st20
                have N7 := news_more F2 N3 st20 ez fz
                clear F2 N3 fz ez st20
                obtain ⟨zs, hzs⟩ : ∃ zs, zs = sizesF (ps.map fun k => (f * k).fmod (sz : Int)) sz := ⟨_, rfl⟩
                rw [← hzs] at hIz htb hcn
                have hzl : zs.length ≤ 5 := by
                  rw [hzs]
                  simp only [sizesF, List.length_zipWith, isort_length]
                  exact Nat.le_trans (Nat.min_le_left _ _) htl
                dsimp only
                k_sweep
                (try k_fold)
                repeat' ((fail_if_success (with_reducible show wpAny _ _ (call (Value.ref 321) _ _) _ _ _)); first | (k_unfold; (try dsimp only)) | walk1 | (dsimp only; walk1))
                (rename Fr _ _ _ _ => F8)
                (rename News _ _ _ _ => N8)
                k_dflt refine' word _ _ _ _ _ _ _ _ _ _ _ _ _ _ _ _ _ zs _ _ ?w1L7 F8 ?w3L7 ?w4L7 ?w5L7 (News.isList N8 (.head _)) hIz hzl htb ?waL7 ?_
                case w1L7 => k_asm
                case w3L7 => k_asm
                case w4L7 => k_asm
                case w5L7 => rfl
                case waL7 => decide
                intro t21 h21 tk21 st21
                have F9 := fr_stay F8 st21
                have N9 := news_stay N8 st21
                clear F8 N8 st21
                dsimp only
                k_sweep
                (try k_fold)
                have hwz : (wordF zs).length ≤ 5 := by show (zs.map _).toArray.size ≤ 5; rw [List.size_toArray, List.length_map]; exact hzl
                have hws : (wordF ss).length ≤ 5 := by show (ss.map _).toArray.size ≤ 5; rw [List.size_toArray, List.length_map, hsl]; exact hpl.1
                repeat' ((fail_if_success (with_reducible show wpAny _ _ (call (Value.ref 217) _ _) _ _ _)); first | (k_unfold; (try dsimp only)) | walk1 | (dsimp only; walk1))
                rw [← hss] at hcn
                have hww : (wordF ss ++ wordF ss).length ≤ 100 := by
                  show ((wordF ss).cps ++ (wordF ss).cps).size ≤ 100
                  rw [Array.size_append]
                  have : (wordF ss).cps.size ≤ 5 := hws
                  omega
                (rename Fr _ _ _ _ => F5)
                (rename News _ _ _ _ => N5)
                k_dflt refine' opContains ?c1L7 F5 ?c3L7 ?c4L7 ?c5L7 ?c6L7 hww (Nat.le_trans hwz (by decide)) ?_
                case c1L7 => k_asm
                case c3L7 => k_asm
                case c4L7 => k_asm
                case c5L7 => rfl
                case c6L7 => decide
                intro h22 tk22 st22
                rw [hcn]
                have F7 := fr_stay F5 st22
                have N7 := news_stay N5 st22
                clear F5 N5 st22
                dsimp only
                k_sweep
                (try k_fold)
                repeat' ((fail_if_success (with_reducible show wpAny _ _ (compareOp CmpOp.NotEq _ _) _ _ _)); first | (k_unfold; (try dsimp only)) | walk1 | (dsimp only; walk1))
                k_steps
                · exfalso
                  (rename (_ != _) = true => hx9)
                  simp at hx9
                (rename Fr _ _ _ _ => F9)
                (rename News _ _ _ _ => N9)
                refine turn_intro (_ :: _ :: _ :: _ :: _ :: _ :: []) F9 N9 (fun q hq => .tail _ (.tail _ (List.mem_append_left own hq))) (fun q hq => .tail _ (.tail _ (List.mem_append_right (_ :: _ :: _ :: _ :: _ :: _ :: []) hq))) rfl ⟨_, _, rfl, by assumption, ?_⟩
                intro z hz
                simp only [if_neg hz]
              rintro m₂ nw h tk ⟨ot, v, rfl, dT, hm⟩ F₁ N₁ _
              dsimp only at hm ⊢
              rw [map_but hm] at F₁
              subst hm0
              clear FC FD N6 hUL
              show wpAny (model _ w) _ _ _ _ _
              (try k_fold)
              repeat' ((fail_if_success (with_reducible show wpAny _ _ (call (Value.ref 343) _ _) _ _ _)); first | (k_unfold; (try dsimp only)) | walk1 | (dsimp only; walk1))
              k_dflt refine' own _ _ _ _ _ _ _ _ _ _ _ _ _ _ _ _ _ ps sz (primeF sz) _ _ _ _ ?o1L7 ?o2L7 ?o3L7 ?o4L7 ?o5L7 (News.isList N₁ (.tail _ (.head _))) hIps hok.len.1 hs1 ?o6L7 ?o7L7 ?o8L7 ?_
              case o1L7 => k_asm
              case o2L7 => k_asm
              case o3L7 => k_asm
              case o4L7 => k_asm
              case o5L7 => rfl
              case o6L7 => unfold primeF; split <;> decide
              case o7L7 => decide
              case o8L7 => decide
              intro wD wys wn h23 tk23 st23 ew fw hIw
              (rename Fr _ _ _ _ => F5)
              (rename News _ _ _ _ => N5)
              have F7 := fr_stay F5 st23
              have N7 := news_more F5 N5 st23 ew fw
              have hwz : wys.toArray.size = 1 := by rw [List.size_toArray, hIw.length]; exact hok.own
              clear F5 N5 fw ew st23 hIw
              dsimp only
              (try k_fold)
              k_steps
              refine ⟨.inl ⟨_, _, [], rfl, fun _ => rfl, ReadsW.bool _, ?hpL7, fun _ => ⟨List.nodup_nil, fun _ hm => (nomatch hm)⟩⟩, OldK.of_keep F7.keep, rfl, ?hbL7⟩
              case hpL7 => wrow_post
              case hbL7 =>
                show AllBare (s₁.gens.push GenState.finished)
                rw [hg]
                exact PySem.W.X.allBare_of [GenState.finished] rfl
end
end Mine

theorem PySem.Challenge.cw_tl0055_01_holds : PySem.Challenge.rw_tl0055_01.Holds := by
  exact Mine.lawAll
