import PyProof.Rows.All
import Wide.All
import OpenK.AllK
import Wide.FinOn
import PySem.Challenge.RW_mq0294_01

section
open PySem PySem.W PyProof.Rows
set_option Elab.async false
set_option maxRecDepth 100000
set_option maxHeartbeats 8000000
namespace Mine
/-- what the top leaves: the objects that the walk asks; bodies by the given program's own terms -/
noncomputable def hd.heap_39 : Params → Frag := by
  refine (?f : ∀ (p0 : Arguments) (b0 : List Stmt) (s0 : Scope) (_ : Challenge.pw_mq0294_01.theDef "heapreplace" = some (p0, b0, s0)), ∀ (p1 : Arguments) (b1 : List Stmt) (s1 : Scope) (_ : Challenge.pw_mq0294_01.theDef "heapify" = some (p1, b1, s1)), ∀ (p2 : Arguments) (b2 : List Stmt) (s2 : Scope) (_ : Challenge.pw_mq0294_01.theDef "_heapreplace_max" = some (p2, b2, s2)), ∀ (p3 : Arguments) (b3 : List Stmt) (s3 : Scope) (_ : Challenge.pw_mq0294_01.theDef "_heapify_max" = some (p3, b3, s3)), ∀ (p4 : Arguments) (b4 : List Stmt) (s4 : Scope) (_ : Challenge.pw_mq0294_01.theDef "_siftdown" = some (p4, b4, s4)), ∀ (p5 : Arguments) (b5 : List Stmt) (s5 : Scope) (_ : Challenge.pw_mq0294_01.theDef "_siftup" = some (p5, b5, s5)), ∀ (p6 : Arguments) (b6 : List Stmt) (s6 : Scope) (_ : Challenge.pw_mq0294_01.theDef "_siftdown_max" = some (p6, b6, s6)), ∀ (p7 : Arguments) (b7 : List Stmt) (s7 : Scope) (_ : Challenge.pw_mq0294_01.theDef "_siftup_max" = some (p7, b7, s7)), ∀ (p8 : Arguments) (b8 : List Stmt) (s8 : Scope) (_ : Challenge.pw_mq0294_01.theDef "_div2n1n" = some (p8, b8, s8)), ∀ (p9 : Arguments) (b9 : List Stmt) (s9 : Scope) (_ : Challenge.pw_mq0294_01.theDef "_div3n2n" = some (p9, b9, s9)), ∀ (p10 : Arguments) (b10 : List Stmt) (s10 : Scope) (_ : Challenge.pw_mq0294_01.theDef "_int2digits" = some (p10, b10, s10)), ∀ (p11 : Arguments) (b11 : List Stmt) (s11 : Scope) (_ : Challenge.pw_mq0294_01.theDef "_digits2int" = some (p11, b11, s11)), ∀ (p12 : Arguments) (b12 : List Stmt) (s12 : Scope) (_ : Challenge.pw_mq0294_01.theDef "_divmod_pos" = some (p12, b12, s12)), ∀ (p13 : Arguments) (b13 : List Stmt) (s13 : Scope) (_ : Challenge.pw_mq0294_01.theDef "int_divmod" = some (p13, b13, s13)), ∀ (p14 : Arguments) (b14 : List Stmt) (s14 : Scope) (_ : Challenge.pw_mq0294_01.theDef "_law_clocks" = some (p14, b14, s14)), ∀ (p15 : Arguments) (b15 : List Stmt) (s15 : Scope) (_ : Challenge.pw_mq0294_01.theDef "_law_moment" = some (p15, b15, s15)), ∀ (p16 : Arguments) (b16 : List Stmt) (s16 : Scope) (_ : Challenge.pw_mq0294_01.theDef "_law_count" = some (p16, b16, s16)), ∀ (p17 : Arguments) (b17 : List Stmt) (s17 : Scope) (_ : Challenge.pw_mq0294_01.theDef "_law_place" = some (p17, b17, s17)), ∀ (p18 : Arguments) (b18 : List Stmt) (s18 : Scope) (_ : Challenge.pw_mq0294_01.theDef "_law_forth" = some (p18, b18, s18)), ∀ (p19 : Arguments) (b19 : List Stmt) (s19 : Scope) (_ : Challenge.pw_mq0294_01.theDef "_law_back" = some (p19, b19, s19)), ∀ (p20 : Arguments) (b20 : List Stmt) (s20 : Scope) (_ : Challenge.pw_mq0294_01.theDef "_law_ahead" = some (p20, b20, s20)), ∀ (p21 : Arguments) (b21 : List Stmt) (s21 : Scope) (_ : Challenge.pw_mq0294_01.theDef "_law_strokes" = some (p21, b21, s21)), ∀ (p22 : Arguments) (b22 : List Stmt) (s22 : Scope) (_ : Challenge.pw_mq0294_01.theDef "_law_left" = some (p22, b22, s22)), ∀ (p23 : Arguments) (b23 : List Stmt) (s23 : Scope) (_ : Challenge.pw_mq0294_01.theDef "_law_film" = some (p23, b23, s23)), ∀ (p24 : Arguments) (b24 : List Stmt) (s24 : Scope) (_ : Challenge.pw_mq0294_01.theDef "law" = some (p24, b24, s24)), Params → Frag) _ _ _ rfl _ _ _ rfl _ _ _ rfl _ _ _ rfl _ _ _ rfl _ _ _ rfl _ _ _ rfl _ _ _ rfl _ _ _ rfl _ _ _ rfl _ _ _ rfl _ _ _ rfl _ _ _ rfl _ _ _ rfl _ _ _ rfl _ _ _ rfl _ _ _ rfl _ _ _ rfl _ _ _ rfl _ _ _ rfl _ _ _ rfl _ _ _ rfl _ _ _ rfl _ _ _ rfl _ _ _ rfl
  case f =>
    intro p0 b0 s0 _ p1 b1 s1 _ p2 b2 s2 _ p3 b3 s3 _ p4 b4 s4 _ p5 b5 s5 _ p6 b6 s6 _ p7 b7 s7 _ p8 b8 s8 _ p9 b9 s9 _ p10 b10 s10 _ p11 b11 s11 _ p12 b12 s12 _ p13 b13 s13 _ p14 b14 s14 _ p15 b15 s15 _ p16 b16 s16 _ p17 b17 s17 _ p18 b18 s18 _ p19 b19 s19 _ p20 b20 s20 _ p21 b21 s21 _ p22 b22 s22 _ p23 b23 s23 _ p24 b24 s24 _ P
    exact ((nat_lit 2), (Obj.mk Value.none (Option.none) (Data.dict #[] 0) #[])) ::
      ((nat_lit 3), (Obj.mk (Value.type "dict") (Option.none) (Data.dict #[(DictEntry.mk (PyData.keyHash P "__name__") (Value.str "__name__" 165) (Value.str "law_mq0294_01" 357)), (DictEntry.mk (PyData.keyHash P "__doc__") (Value.str "__doc__" 166) Value.none), (DictEntry.mk (PyData.keyHash P "__package__") (Value.str "__package__" 167) Value.none), (DictEntry.mk (PyData.keyHash P "__loader__") (Value.str "__loader__" 168) (Value.builtin "__main__.__loader__#opaque")), (DictEntry.mk (PyData.keyHash P "__spec__") (Value.str "__spec__" 169) Value.none), (DictEntry.mk (PyData.keyHash P "__annotations__") (Value.str "__annotations__" 170) (Value.ref 6)), (DictEntry.mk (PyData.keyHash P "__builtins__") (Value.str "__builtins__" 171) (Value.ref 4)), (DictEntry.mk (PyData.keyHash P "__file__") (Value.str "__file__" 173) (Value.str "/claim/cut.py" 172)), (DictEntry.mk (PyData.keyHash P "__cached__") (Value.str "__cached__" 174) Value.none), (DictEntry.mk (PyData.keyHash P "heapreplace") (Value.str "heapreplace" 197) (Value.ref 21)), (DictEntry.mk (PyData.keyHash P "heapify") (Value.str "heapify" 206) (Value.ref 28)), (DictEntry.mk (PyData.keyHash P "_heapreplace_max") (Value.str "_heapreplace_max" 215) (Value.ref 35)), (DictEntry.mk (PyData.keyHash P "_heapify_max") (Value.str "_heapify_max" 224) (Value.ref 42)), (DictEntry.mk (PyData.keyHash P "_siftdown") (Value.str "_siftdown" 236) (Value.ref 49)), (DictEntry.mk (PyData.keyHash P "_siftup") (Value.str "_siftup" 249) (Value.ref 56)), (DictEntry.mk (PyData.keyHash P "_siftdown_max") (Value.str "_siftdown_max" 261) (Value.ref 63)), (DictEntry.mk (PyData.keyHash P "_siftup_max") (Value.str "_siftup_max" 274) (Value.ref 70)), (DictEntry.mk (PyData.keyHash P "_DIV_LIMIT") (Value.str "_DIV_LIMIT" 278) (Value.int (4000 : Int) 277)), (DictEntry.mk (PyData.keyHash P "_div2n1n") (Value.str "_div2n1n" 295) (Value.ref 77)), (DictEntry.mk (PyData.keyHash P "_div3n2n") (Value.str "_div3n2n" 309) (Value.ref 84)), (DictEntry.mk (PyData.keyHash P "_int2digits") (Value.str "_int2digits" 320) (Value.ref 91)), (DictEntry.mk (PyData.keyHash P "_digits2int") (Value.str "_digits2int" 331) (Value.ref 98)), (DictEntry.mk (PyData.keyHash P "_divmod_pos") (Value.str "_divmod_pos" 346) (Value.ref 105)), (DictEntry.mk (PyData.keyHash P "int_divmod") (Value.str "int_divmod" 356) (Value.ref 112)), (DictEntry.mk (PyData.keyHash P "_law_clocks") (Value.str "_law_clocks" 364) (Value.ref 117)), (DictEntry.mk (PyData.keyHash P "_law_moment") (Value.str "_law_moment" 371) (Value.ref 124)), (DictEntry.mk (PyData.keyHash P "_law_count") (Value.str "_law_count" 378) (Value.ref 131)), (DictEntry.mk (PyData.keyHash P "_law_place") (Value.str "_law_place" 385) (Value.ref 138)), (DictEntry.mk (PyData.keyHash P "_law_forth") (Value.str "_law_forth" 404) (Value.ref 145)), (DictEntry.mk (PyData.keyHash P "_law_back") (Value.str "_law_back" 424) (Value.ref 152)), (DictEntry.mk (PyData.keyHash P "_law_ahead") (Value.str "_law_ahead" 439) (Value.ref 159)), (DictEntry.mk (PyData.keyHash P "_law_strokes") (Value.str "_law_strokes" 454) (Value.ref 166)), (DictEntry.mk (PyData.keyHash P "_law_left") (Value.str "_law_left" 470) (Value.ref 173)), (DictEntry.mk (PyData.keyHash P "_law_film") (Value.str "_law_film" 476) (Value.ref 178)), (DictEntry.mk (PyData.keyHash P "law") (Value.str "law" 483) (Value.ref 185))] 35) #[])) ::
      ((nat_lit 20), (Obj.mk (Value.type "code") (Option.none) (Data.fields #[(Value.str "heapreplace" 189), (Value.str "heapreplace" 190), (Value.str "/claim/cut.py" 191), (Value.int (2 : Int) 0), (Value.int (2 : Int) 0), (Value.int (0 : Int) 0), (Value.int (0 : Int) 0), (Value.int (3 : Int) 0), (Value.ref 15), (Value.bool Bool.true), (Value.int (181 : Int) 0), (Value.ref 16), Value.none, (Value.ref 17), (Value.ref 18), (Value.ref 19), (Value.int (195 : Int) 0), (Value.int (2 : Int) 0), (Value.str "/claim/cut.py" 196)]) #[])) ::
      ((nat_lit 21), (Obj.mk (Value.type "function") (Option.none) (Data.func (FuncData.mk "heapreplace" "heapreplace" p0 (.stmts b0) s0 3 [] Value.none Value.none Value.none (Value.str "cpy313.heapq" 187) (Option.none) (Value.ref 20) Value.none 0)) #[])) ::
      ((nat_lit 27), (Obj.mk (Value.type "code") (Option.none) (Data.fields #[(Value.str "heapify" 198), (Value.str "heapify" 199), (Value.str "/claim/cut.py" 200), (Value.int (7 : Int) 0), (Value.int (1 : Int) 0), (Value.int (0 : Int) 0), (Value.int (0 : Int) 0), (Value.int (3 : Int) 0), (Value.ref 22), (Value.bool Bool.true), (Value.int (181 : Int) 0), (Value.ref 23), Value.none, (Value.ref 24), (Value.ref 25), (Value.ref 26), (Value.int (204 : Int) 0), (Value.int (7 : Int) 0), (Value.str "/claim/cut.py" 205)]) #[])) ::
      ((nat_lit 28), (Obj.mk (Value.type "function") (Option.none) (Data.func (FuncData.mk "heapify" "heapify" p1 (.stmts b1) s1 3 [] Value.none Value.none Value.none (Value.str "cpy313.heapq" 187) (Option.none) (Value.ref 27) Value.none 0)) #[])) ::
      ((nat_lit 34), (Obj.mk (Value.type "code") (Option.none) (Data.fields #[(Value.str "_heapreplace_max" 207), (Value.str "_heapreplace_max" 208), (Value.str "/claim/cut.py" 209), (Value.int (11 : Int) 0), (Value.int (2 : Int) 0), (Value.int (0 : Int) 0), (Value.int (0 : Int) 0), (Value.int (3 : Int) 0), (Value.ref 29), (Value.bool Bool.true), (Value.int (181 : Int) 0), (Value.ref 30), Value.none, (Value.ref 31), (Value.ref 32), (Value.ref 33), (Value.int (213 : Int) 0), (Value.int (11 : Int) 0), (Value.str "/claim/cut.py" 214)]) #[])) ::
      ((nat_lit 35), (Obj.mk (Value.type "function") (Option.none) (Data.func (FuncData.mk "_heapreplace_max" "_heapreplace_max" p2 (.stmts b2) s2 3 [] Value.none Value.none Value.none (Value.str "cpy313.heapq" 187) (Option.none) (Value.ref 34) Value.none 0)) #[])) ::
      ((nat_lit 41), (Obj.mk (Value.type "code") (Option.none) (Data.fields #[(Value.str "_heapify_max" 216), (Value.str "_heapify_max" 217), (Value.str "/claim/cut.py" 218), (Value.int (16 : Int) 0), (Value.int (1 : Int) 0), (Value.int (0 : Int) 0), (Value.int (0 : Int) 0), (Value.int (3 : Int) 0), (Value.ref 36), (Value.bool Bool.true), (Value.int (181 : Int) 0), (Value.ref 37), Value.none, (Value.ref 38), (Value.ref 39), (Value.ref 40), (Value.int (222 : Int) 0), (Value.int (16 : Int) 0), (Value.str "/claim/cut.py" 223)]) #[])) ::
      ((nat_lit 42), (Obj.mk (Value.type "function") (Option.none) (Data.func (FuncData.mk "_heapify_max" "_heapify_max" p3 (.stmts b3) s3 3 [] Value.none Value.none Value.none (Value.str "cpy313.heapq" 187) (Option.none) (Value.ref 41) Value.none 0)) #[])) ::
      ((nat_lit 48), (Obj.mk (Value.type "code") (Option.none) (Data.fields #[(Value.str "_siftdown" 225), (Value.str "_siftdown" 226), (Value.str "/claim/cut.py" 227), (Value.int (20 : Int) 0), (Value.int (3 : Int) 0), (Value.int (0 : Int) 0), (Value.int (0 : Int) 0), (Value.int (3 : Int) 0), (Value.ref 43), (Value.bool Bool.true), (Value.int (181 : Int) 0), (Value.ref 44), Value.none, (Value.ref 45), (Value.ref 46), (Value.ref 47), (Value.int (234 : Int) 0), (Value.int (20 : Int) 0), (Value.str "/claim/cut.py" 235)]) #[])) ::
      ((nat_lit 49), (Obj.mk (Value.type "function") (Option.none) (Data.func (FuncData.mk "_siftdown" "_siftdown" p4 (.stmts b4) s4 3 [] Value.none Value.none Value.none (Value.str "cpy313.heapq" 187) (Option.none) (Value.ref 48) Value.none 0)) #[])) ::
      ((nat_lit 55), (Obj.mk (Value.type "code") (Option.none) (Data.fields #[(Value.str "_siftup" 237), (Value.str "_siftup" 238), (Value.str "/claim/cut.py" 239), (Value.int (31 : Int) 0), (Value.int (2 : Int) 0), (Value.int (0 : Int) 0), (Value.int (0 : Int) 0), (Value.int (3 : Int) 0), (Value.ref 50), (Value.bool Bool.true), (Value.int (181 : Int) 0), (Value.ref 51), Value.none, (Value.ref 52), (Value.ref 53), (Value.ref 54), (Value.int (247 : Int) 0), (Value.int (31 : Int) 0), (Value.str "/claim/cut.py" 248)]) #[])) ::
      ((nat_lit 56), (Obj.mk (Value.type "function") (Option.none) (Data.func (FuncData.mk "_siftup" "_siftup" p5 (.stmts b5) s5 3 [] Value.none Value.none Value.none (Value.str "cpy313.heapq" 187) (Option.none) (Value.ref 55) Value.none 0)) #[])) ::
      ((nat_lit 62), (Obj.mk (Value.type "code") (Option.none) (Data.fields #[(Value.str "_siftdown_max" 250), (Value.str "_siftdown_max" 251), (Value.str "/claim/cut.py" 252), (Value.int (45 : Int) 0), (Value.int (3 : Int) 0), (Value.int (0 : Int) 0), (Value.int (0 : Int) 0), (Value.int (3 : Int) 0), (Value.ref 57), (Value.bool Bool.true), (Value.int (181 : Int) 0), (Value.ref 58), Value.none, (Value.ref 59), (Value.ref 60), (Value.ref 61), (Value.int (259 : Int) 0), (Value.int (45 : Int) 0), (Value.str "/claim/cut.py" 260)]) #[])) ::
      ((nat_lit 63), (Obj.mk (Value.type "function") (Option.none) (Data.func (FuncData.mk "_siftdown_max" "_siftdown_max" p6 (.stmts b6) s6 3 [] Value.none Value.none Value.none (Value.str "cpy313.heapq" 187) (Option.none) (Value.ref 62) Value.none 0)) #[])) ::
      ((nat_lit 69), (Obj.mk (Value.type "code") (Option.none) (Data.fields #[(Value.str "_siftup_max" 262), (Value.str "_siftup_max" 263), (Value.str "/claim/cut.py" 264), (Value.int (56 : Int) 0), (Value.int (2 : Int) 0), (Value.int (0 : Int) 0), (Value.int (0 : Int) 0), (Value.int (3 : Int) 0), (Value.ref 64), (Value.bool Bool.true), (Value.int (181 : Int) 0), (Value.ref 65), Value.none, (Value.ref 66), (Value.ref 67), (Value.ref 68), (Value.int (272 : Int) 0), (Value.int (56 : Int) 0), (Value.str "/claim/cut.py" 273)]) #[])) ::
      ((nat_lit 70), (Obj.mk (Value.type "function") (Option.none) (Data.func (FuncData.mk "_siftup_max" "_siftup_max" p7 (.stmts b7) s7 3 [] Value.none Value.none Value.none (Value.str "cpy313.heapq" 187) (Option.none) (Value.ref 69) Value.none 0)) #[])) ::
      ((nat_lit 76), (Obj.mk (Value.type "code") (Option.none) (Data.fields #[(Value.str "_div2n1n" 279), (Value.str "_div2n1n" 280), (Value.str "/claim/cut.py" 281), (Value.int (72 : Int) 0), (Value.int (3 : Int) 0), (Value.int (0 : Int) 0), (Value.int (0 : Int) 0), (Value.int (3 : Int) 0), (Value.ref 71), (Value.bool Bool.true), (Value.int (181 : Int) 0), (Value.ref 72), Value.none, (Value.ref 73), (Value.ref 74), (Value.ref 75), (Value.int (293 : Int) 0), (Value.int (72 : Int) 0), (Value.str "/claim/cut.py" 294)]) #[])) ::
      ((nat_lit 77), (Obj.mk (Value.type "function") (Option.none) (Data.func (FuncData.mk "_div2n1n" "_div2n1n" p8 (.stmts b8) s8 3 [] Value.none Value.none Value.none (Value.str "cpy313._pylong" 275) (Option.none) (Value.ref 76) Value.none 0)) #[])) ::
      ((nat_lit 83), (Obj.mk (Value.type "code") (Option.none) (Data.fields #[(Value.str "_div3n2n" 296), (Value.str "_div3n2n" 297), (Value.str "/claim/cut.py" 298), (Value.int (88 : Int) 0), (Value.int (6 : Int) 0), (Value.int (0 : Int) 0), (Value.int (0 : Int) 0), (Value.int (3 : Int) 0), (Value.ref 78), (Value.bool Bool.true), (Value.int (181 : Int) 0), (Value.ref 79), Value.none, (Value.ref 80), (Value.ref 81), (Value.ref 82), (Value.int (307 : Int) 0), (Value.int (88 : Int) 0), (Value.str "/claim/cut.py" 308)]) #[])) ::
      ((nat_lit 84), (Obj.mk (Value.type "function") (Option.none) (Data.func (FuncData.mk "_div3n2n" "_div3n2n" p9 (.stmts b9) s9 3 [] Value.none Value.none Value.none (Value.str "cpy313._pylong" 275) (Option.none) (Value.ref 83) Value.none 0)) #[])) ::
      ((nat_lit 90), (Obj.mk (Value.type "code") (Option.none) (Data.fields #[(Value.str "_int2digits" 310), (Value.str "_int2digits" 311), (Value.str "/claim/cut.py" 312), (Value.int (98 : Int) 0), (Value.int (2 : Int) 0), (Value.int (0 : Int) 0), (Value.int (0 : Int) 0), (Value.int (3 : Int) 0), (Value.ref 85), (Value.bool Bool.true), (Value.int (181 : Int) 0), (Value.ref 86), Value.none, (Value.ref 87), (Value.ref 88), (Value.ref 89), (Value.int (318 : Int) 0), (Value.int (98 : Int) 0), (Value.str "/claim/cut.py" 319)]) #[])) ::
      ((nat_lit 91), (Obj.mk (Value.type "function") (Option.none) (Data.func (FuncData.mk "_int2digits" "_int2digits" p10 (.stmts b10) s10 3 [] Value.none Value.none Value.none (Value.str "cpy313._pylong" 275) (Option.none) (Value.ref 90) Value.none 0)) #[])) ::
      ((nat_lit 97), (Obj.mk (Value.type "code") (Option.none) (Data.fields #[(Value.str "_digits2int" 321), (Value.str "_digits2int" 322), (Value.str "/claim/cut.py" 323), (Value.int (114 : Int) 0), (Value.int (2 : Int) 0), (Value.int (0 : Int) 0), (Value.int (0 : Int) 0), (Value.int (3 : Int) 0), (Value.ref 92), (Value.bool Bool.true), (Value.int (181 : Int) 0), (Value.ref 93), Value.none, (Value.ref 94), (Value.ref 95), (Value.ref 96), (Value.int (329 : Int) 0), (Value.int (114 : Int) 0), (Value.str "/claim/cut.py" 330)]) #[])) ::
      ((nat_lit 98), (Obj.mk (Value.type "function") (Option.none) (Data.func (FuncData.mk "_digits2int" "_digits2int" p11 (.stmts b11) s11 3 [] Value.none Value.none Value.none (Value.str "cpy313._pylong" 275) (Option.none) (Value.ref 97) Value.none 0)) #[])) ::
      ((nat_lit 104), (Obj.mk (Value.type "code") (Option.none) (Data.fields #[(Value.str "_divmod_pos" 332), (Value.str "_divmod_pos" 333), (Value.str "/claim/cut.py" 334), (Value.int (123 : Int) 0), (Value.int (2 : Int) 0), (Value.int (0 : Int) 0), (Value.int (0 : Int) 0), (Value.int (3 : Int) 0), (Value.ref 99), (Value.bool Bool.true), (Value.int (181 : Int) 0), (Value.ref 100), Value.none, (Value.ref 101), (Value.ref 102), (Value.ref 103), (Value.int (344 : Int) 0), (Value.int (123 : Int) 0), (Value.str "/claim/cut.py" 345)]) #[])) ::
      ((nat_lit 105), (Obj.mk (Value.type "function") (Option.none) (Data.func (FuncData.mk "_divmod_pos" "_divmod_pos" p12 (.stmts b12) s12 3 [] Value.none Value.none Value.none (Value.str "cpy313._pylong" 275) (Option.none) (Value.ref 104) Value.none 0)) #[])) ::
      ((nat_lit 111), (Obj.mk (Value.type "code") (Option.none) (Data.fields #[(Value.str "int_divmod" 347), (Value.str "int_divmod" 348), (Value.str "/claim/cut.py" 349), (Value.int (134 : Int) 0), (Value.int (2 : Int) 0), (Value.int (0 : Int) 0), (Value.int (0 : Int) 0), (Value.int (3 : Int) 0), (Value.ref 106), (Value.bool Bool.true), (Value.int (181 : Int) 0), (Value.ref 107), Value.none, (Value.ref 108), (Value.ref 109), (Value.ref 110), (Value.int (354 : Int) 0), (Value.int (134 : Int) 0), (Value.str "/claim/cut.py" 355)]) #[])) ::
      ((nat_lit 112), (Obj.mk (Value.type "function") (Option.none) (Data.func (FuncData.mk "int_divmod" "int_divmod" p13 (.stmts b13) s13 3 [] Value.none Value.none Value.none (Value.str "cpy313._pylong" 275) (Option.none) (Value.ref 111) Value.none 0)) #[])) ::
      ((nat_lit 116), (Obj.mk (Value.type "code") (Option.none) (Data.fields #[(Value.str "_law_clocks" 359), (Value.str "_law_clocks" 360), (Value.str "/claim/cut.py" 361), (Value.int (146 : Int) 0), (Value.int (1 : Int) 0), (Value.int (0 : Int) 0), (Value.int (0 : Int) 0), (Value.int (3 : Int) 0), (Value.ref 113), (Value.bool Bool.true), (Value.int (181 : Int) 0), (Value.ref 114), Value.none, Value.none, Value.none, (Value.ref 115), (Value.int (362 : Int) 0), (Value.int (146 : Int) 0), (Value.str "/claim/cut.py" 363)]) #[])) ::
      ((nat_lit 117), (Obj.mk (Value.type "function") (Option.none) (Data.func (FuncData.mk "_law_clocks" "_law_clocks" p14 (.stmts b14) s14 3 [] Value.none Value.none Value.none (Value.str "law_mq0294_01" 357) (Option.none) (Value.ref 116) Value.none 0)) #[])) ::
      ((nat_lit 123), (Obj.mk (Value.type "code") (Option.none) (Data.fields #[(Value.str "_law_moment" 365), (Value.str "_law_moment" 366), (Value.str "/claim/cut.py" 367), (Value.int (150 : Int) 0), (Value.int (1 : Int) 0), (Value.int (0 : Int) 0), (Value.int (0 : Int) 0), (Value.int (3 : Int) 0), (Value.ref 118), (Value.bool Bool.true), (Value.int (181 : Int) 0), (Value.ref 119), Value.none, (Value.ref 120), (Value.ref 121), (Value.ref 122), (Value.int (369 : Int) 0), (Value.int (150 : Int) 0), (Value.str "/claim/cut.py" 370)]) #[])) ::
      ((nat_lit 124), (Obj.mk (Value.type "function") (Option.none) (Data.func (FuncData.mk "_law_moment" "_law_moment" p15 (.stmts b15) s15 3 [] Value.none Value.none Value.none (Value.str "law_mq0294_01" 357) (Option.none) (Value.ref 123) Value.none 0)) #[])) ::
      ((nat_lit 130), (Obj.mk (Value.type "code") (Option.none) (Data.fields #[(Value.str "_law_count" 372), (Value.str "_law_count" 373), (Value.str "/claim/cut.py" 374), (Value.int (152 : Int) 0), (Value.int (1 : Int) 0), (Value.int (0 : Int) 0), (Value.int (0 : Int) 0), (Value.int (3 : Int) 0), (Value.ref 125), (Value.bool Bool.true), (Value.int (181 : Int) 0), (Value.ref 126), Value.none, (Value.ref 127), (Value.ref 128), (Value.ref 129), (Value.int (376 : Int) 0), (Value.int (152 : Int) 0), (Value.str "/claim/cut.py" 377)]) #[])) ::
      ((nat_lit 131), (Obj.mk (Value.type "function") (Option.none) (Data.func (FuncData.mk "_law_count" "_law_count" p16 (.stmts b16) s16 3 [] Value.none Value.none Value.none (Value.str "law_mq0294_01" 357) (Option.none) (Value.ref 130) Value.none 0)) #[])) ::
      ((nat_lit 137), (Obj.mk (Value.type "code") (Option.none) (Data.fields #[(Value.str "_law_place" 379), (Value.str "_law_place" 380), (Value.str "/claim/cut.py" 381), (Value.int (154 : Int) 0), (Value.int (1 : Int) 0), (Value.int (0 : Int) 0), (Value.int (0 : Int) 0), (Value.int (3 : Int) 0), (Value.ref 132), (Value.bool Bool.true), (Value.int (181 : Int) 0), (Value.ref 133), Value.none, (Value.ref 134), (Value.ref 135), (Value.ref 136), (Value.int (383 : Int) 0), (Value.int (154 : Int) 0), (Value.str "/claim/cut.py" 384)]) #[])) ::
      ((nat_lit 138), (Obj.mk (Value.type "function") (Option.none) (Data.func (FuncData.mk "_law_place" "_law_place" p17 (.stmts b17) s17 3 [] Value.none Value.none Value.none (Value.str "law_mq0294_01" 357) (Option.none) (Value.ref 137) Value.none 0)) #[])) ::
      ((nat_lit 144), (Obj.mk (Value.type "code") (Option.none) (Data.fields #[(Value.str "_law_forth" 386), (Value.str "_law_forth" 387), (Value.str "/claim/cut.py" 388), (Value.int (156 : Int) 0), (Value.int (3 : Int) 0), (Value.int (0 : Int) 0), (Value.int (0 : Int) 0), (Value.int (3 : Int) 0), (Value.ref 139), (Value.bool Bool.true), (Value.int (181 : Int) 0), (Value.ref 140), Value.none, (Value.ref 141), (Value.ref 142), (Value.ref 143), (Value.int (402 : Int) 0), (Value.int (156 : Int) 0), (Value.str "/claim/cut.py" 403)]) #[])) ::
      ((nat_lit 145), (Obj.mk (Value.type "function") (Option.none) (Data.func (FuncData.mk "_law_forth" "_law_forth" p18 (.stmts b18) s18 3 [] Value.none Value.none Value.none (Value.str "law_mq0294_01" 357) (Option.none) (Value.ref 144) Value.none 0)) #[])) ::
      ((nat_lit 151), (Obj.mk (Value.type "code") (Option.none) (Data.fields #[(Value.str "_law_back" 405), (Value.str "_law_back" 406), (Value.str "/claim/cut.py" 407), (Value.int (170 : Int) 0), (Value.int (3 : Int) 0), (Value.int (0 : Int) 0), (Value.int (0 : Int) 0), (Value.int (3 : Int) 0), (Value.ref 146), (Value.bool Bool.true), (Value.int (181 : Int) 0), (Value.ref 147), Value.none, (Value.ref 148), (Value.ref 149), (Value.ref 150), (Value.int (422 : Int) 0), (Value.int (170 : Int) 0), (Value.str "/claim/cut.py" 423)]) #[])) ::
      ((nat_lit 152), (Obj.mk (Value.type "function") (Option.none) (Data.func (FuncData.mk "_law_back" "_law_back" p19 (.stmts b19) s19 3 [] Value.none Value.none Value.none (Value.str "law_mq0294_01" 357) (Option.none) (Value.ref 151) Value.none 0)) #[])) ::
      ((nat_lit 158), (Obj.mk (Value.type "code") (Option.none) (Data.fields #[(Value.str "_law_ahead" 425), (Value.str "_law_ahead" 426), (Value.str "/claim/cut.py" 427), (Value.int (185 : Int) 0), (Value.int (4 : Int) 0), (Value.int (0 : Int) 0), (Value.int (0 : Int) 0), (Value.int (3 : Int) 0), (Value.ref 153), (Value.bool Bool.true), (Value.int (181 : Int) 0), (Value.ref 154), Value.none, (Value.ref 155), (Value.ref 156), (Value.ref 157), (Value.int (437 : Int) 0), (Value.int (185 : Int) 0), (Value.str "/claim/cut.py" 438)]) #[])) ::
      ((nat_lit 159), (Obj.mk (Value.type "function") (Option.none) (Data.func (FuncData.mk "_law_ahead" "_law_ahead" p20 (.stmts b20) s20 3 [] Value.none Value.none Value.none (Value.str "law_mq0294_01" 357) (Option.none) (Value.ref 158) Value.none 0)) #[])) ::
      ((nat_lit 165), (Obj.mk (Value.type "code") (Option.none) (Data.fields #[(Value.str "_law_strokes" 440), (Value.str "_law_strokes" 441), (Value.str "/claim/cut.py" 442), (Value.int (192 : Int) 0), (Value.int (3 : Int) 0), (Value.int (0 : Int) 0), (Value.int (0 : Int) 0), (Value.int (3 : Int) 0), (Value.ref 160), (Value.bool Bool.true), (Value.int (181 : Int) 0), (Value.ref 161), Value.none, (Value.ref 162), (Value.ref 163), (Value.ref 164), (Value.int (452 : Int) 0), (Value.int (192 : Int) 0), (Value.str "/claim/cut.py" 453)]) #[])) ::
      ((nat_lit 166), (Obj.mk (Value.type "function") (Option.none) (Data.func (FuncData.mk "_law_strokes" "_law_strokes" p21 (.stmts b21) s21 3 [] Value.none Value.none Value.none (Value.str "law_mq0294_01" 357) (Option.none) (Value.ref 165) Value.none 0)) #[])) ::
      ((nat_lit 172), (Obj.mk (Value.type "code") (Option.none) (Data.fields #[(Value.str "_law_left" 455), (Value.str "_law_left" 456), (Value.str "/claim/cut.py" 457), (Value.int (201 : Int) 0), (Value.int (5 : Int) 0), (Value.int (0 : Int) 0), (Value.int (0 : Int) 0), (Value.int (3 : Int) 0), (Value.ref 167), (Value.bool Bool.true), (Value.int (181 : Int) 0), (Value.ref 168), Value.none, (Value.ref 169), (Value.ref 170), (Value.ref 171), (Value.int (468 : Int) 0), (Value.int (201 : Int) 0), (Value.str "/claim/cut.py" 469)]) #[])) ::
      ((nat_lit 173), (Obj.mk (Value.type "function") (Option.none) (Data.func (FuncData.mk "_law_left" "_law_left" p22 (.stmts b22) s22 3 [] Value.none Value.none Value.none (Value.str "law_mq0294_01" 357) (Option.none) (Value.ref 172) Value.none 0)) #[])) ::
      ((nat_lit 177), (Obj.mk (Value.type "code") (Option.none) (Data.fields #[(Value.str "_law_film" 471), (Value.str "_law_film" 472), (Value.str "/claim/cut.py" 473), (Value.int (212 : Int) 0), (Value.int (3 : Int) 0), (Value.int (0 : Int) 0), (Value.int (0 : Int) 0), (Value.int (3 : Int) 0), (Value.ref 174), (Value.bool Bool.true), (Value.int (181 : Int) 0), (Value.ref 175), Value.none, Value.none, Value.none, (Value.ref 176), (Value.int (474 : Int) 0), (Value.int (212 : Int) 0), (Value.str "/claim/cut.py" 475)]) #[])) ::
      ((nat_lit 178), (Obj.mk (Value.type "function") (Option.none) (Data.func (FuncData.mk "_law_film" "_law_film" p23 (.stmts b23) s23 3 [] Value.none Value.none Value.none (Value.str "law_mq0294_01" 357) (Option.none) (Value.ref 177) Value.none 0)) #[])) ::
      ((nat_lit 184), (Obj.mk (Value.type "code") (Option.none) (Data.fields #[(Value.str "law" 477), (Value.str "law" 478), (Value.str "/claim/cut.py" 479), (Value.int (223 : Int) 0), (Value.int (1 : Int) 0), (Value.int (0 : Int) 0), (Value.int (0 : Int) 0), (Value.int (3 : Int) 0), (Value.ref 179), (Value.bool Bool.true), (Value.int (181 : Int) 0), (Value.ref 180), Value.none, (Value.ref 181), (Value.ref 182), (Value.ref 183), (Value.int (481 : Int) 0), (Value.int (223 : Int) 0), (Value.str "/claim/cut.py" 482)]) #[])) ::
      ((nat_lit 185), (Obj.mk (Value.type "function") (Option.none) (Data.func (FuncData.mk "law" "law" p24 (.stmts b24) s24 3 [] Value.none Value.none Value.none (Value.str "law_mq0294_01" 357) (Option.none) (Value.ref 184) Value.none 0)) #[])) :: []
abbrev hd.at39 : List Addr := [nat_lit 2, nat_lit 3, nat_lit 20, nat_lit 21, nat_lit 27, nat_lit 28, nat_lit 34, nat_lit 35, nat_lit 41, nat_lit 42, nat_lit 48, nat_lit 49, nat_lit 55, nat_lit 56, nat_lit 62, nat_lit 63, nat_lit 69, nat_lit 70, nat_lit 76, nat_lit 77, nat_lit 83, nat_lit 84, nat_lit 90, nat_lit 91, nat_lit 97, nat_lit 98, nat_lit 104, nat_lit 105, nat_lit 111, nat_lit 112, nat_lit 116, nat_lit 117, nat_lit 123, nat_lit 124, nat_lit 130, nat_lit 131, nat_lit 137, nat_lit 138, nat_lit 144, nat_lit 145, nat_lit 151, nat_lit 152, nat_lit 158, nat_lit 159, nat_lit 165, nat_lit 166, nat_lit 172, nat_lit 173, nat_lit 177, nat_lit 178, nat_lit 184, nat_lit 185]
/-- the top as a plain program: the statements that bind -/
noncomputable def hd.view_39 : Program := view Challenge.pw_mq0294_01 [1, 2, 3, 4, 5, 6, 7, 8, 10, 11, 12, 13, 14, 15, 16, 18, 19, 20, 21, 22, 23, 24, 25, 26, 27, 28]
abbrev rr : OpenRow := Challenge.rw_mq0294_01.row
noncomputable abbrev hk : Hook := kmHook hd.heap_39 hd.at39 (fun _ => rfl) [93, 86]
theorem hd.left : LeftO rr.toRowW.prog hd.view_39 [] (fun s => xlAt hd.view_39 [] s && recOk (RowW.records rr.toRowW) s) hk.obs hk.val 1868 := fun w => by kernel_rfl
theorem hd.said : Challenge.rw_mq0294_01.wellSaid = true := by decide +kernel
theorem hd {d : DefRec} {kwd : List (Str × Expr)} (e1 : defOf hd.view_39 rr.name = some (d, kwd)) (e2 : rr.prog.theDef rr.name = some (d.params, d.body, d.scope)) (e3 : kwWritten? d.params.kwonlyargs d.params.kw_defaults = some kwd)
    (walk : WalkO hd.view_39 [] (XL hd.view_39 []) hk.says rr.toRowW d kwd fun f vs => call f vs) : Challenge.rw_mq0294_01.Holds :=
  holds_law hd.said fun said => PySem.W.holds_open (q := hd.view_39) (loose := []) (Xt := fun s => xlAt hd.view_39 [] s && recOk (RowW.records rr.toRowW) s) (XP := XL hd.view_39 []) (Yf := hk.obs) (Ya := hk.val) (YP := hk.says) (N := 1868) hd.left
    hk.of hk.keeps (fun s e => xl_of s (Bool.and_eq_true_iff.mp e).1) XL.keeps e1 e2 e3 (fun s e => recFacts_of (Bool.and_eq_true_iff.mp e).2) rfl said (by decide +kernel) ⟨rfl, rfl, rfl, rfl, rfl, by decide +kernel⟩ ⟨[.list [.int 3, .int 1]], by decide +kernel, by decide +kernel⟩ walk
end Mine
end

section
open PySem PySem.W PyProof.Rows PySem.Spec PySem.Calls
set_option Elab.async false
set_option maxRecDepth 100000
set_option maxHeartbeats 8000000
namespace Mine

abbrev PR : Program := Challenge.rw_mq0294_01.row.prog

/-- what stands at the top, as far as the walk asks it -/
structure Gr (w : World) (loose : List Str) (mean : ExcName → Option Value) (mg mb : Str → Option Value) (g : Heap) : Prop where
  X : (hd.heap_39 w.params).In g
  T : Top topProg loose mean mg mb g
  S : g.NoSeer
  C1 : CodeHd g 97 93
  C2 : CodeHd g 90 86

theorem Gr.keeps {w : World} {loose : List Str} {mean : ExcName → Option Value} {mg mb : Str → Option Value} {g h : Heap} (G : Gr w loose mean mg mb g)
    (k : ∀ b o, g.get? b = some o → h.get? b = some o) : Gr w loose mean mg mb h :=
  ⟨G.X.keeps k, G.T.keeps k, G.S.keeps k, G.C1.keeps k, G.C2.keeps k⟩

/-- all but W is kept -/
def Ext (W : List Addr) (h h' : Heap) : Prop := ∀ b o, b ∉ W → h.get? b = some o → h'.get? b = some o
theorem Ext.refl (W : List Addr) (h : Heap) : Ext W h h := fun _ _ _ e => e
theorem Ext.trans {W : List Addr} {h₁ h₂ h₃ : Heap} (x : Ext W h₁ h₂) (y : Ext W h₂ h₃) : Ext W h₁ h₃ := fun b o n e => y b o n (x b o n e)
theorem Ext.mono {W W' : List Addr} {h h' : Heap} (x : Ext W h h') (s : ∀ b ∈ W, b ∈ W') : Ext W' h h' := fun b o n e => x b o (fun q => n (s b q)) e

abbrev mkA (dp un : Nat) (gd : Option (List Code)) (outer : List Env) : Around := { handled := none, depth := dp, frames := some outer, guards := gd, units := un }

/-- a contract of the def at f, called with args: W may change -/
def Meets (w : World) (loose : List Str) (mean : ExcName → Option Value) (mg mb : Str → Option Value) (f : Addr) (args : List Value) (d u : Nat) (W : List Addr)
    (Pre : Heap → Prop) (Post : Heap → Value → Heap → Prop) : Prop :=
  ∀ (dp un : Nat) (gd : Option (List Code)) (outer : List Env) (s : Shared) (R : Result → Shared → Prop),
    dp + d < recursionLimit → un + u < cLine → Gr w loose mean mg mb (hideAll s.heap W) → Pre s.heap →
    (∀ v h' tk, Ext W s.heap h' → Post s.heap v h' → R (.ok (.ret v)) { s with heap := h', toks := tk }) →
    codeAny (model PR w) (mkA dp un gd outer) (.call (.ref f) ⟨args, []⟩) R s

section
variable {w : World} {loose : List Str} {mean : ExcName → Option Value} {mg mb : Str → Option Value}

theorem enter {f : Addr} {oc : Value} {od : Option Addr} {osl : Array (Option Value)} {name qual : Str} {params : Arguments} {body : List Stmt} {scope : Scope} {dV kV doc pm cdv ct : Value} {an : Option Addr}
    {args : List Value} {d u : Nat} {Pre : Heap → Prop} {Post : Heap → Value → Heap → Prop} {binds : List (Str × Value)} (W : List Addr)
    (ho : (hd.heap_39 w.params).lookup f = some ⟨oc, od, .func (fnOf name qual params body scope dV kV doc pm an cdv ct), osl⟩) (hcd : codeIn (hd.heap_39 w.params) cdv qual = true)
    (hbind : ∀ s, BindsTo s (fnOf name qual params body scope dV kV doc pm an cdv ct) ⟨args, []⟩ binds) (hloc : ∀ y ∈ binds, scope.names.lookup y.1 = some .local)
    (hco : scope.isCoroutine = false) (hgen : scope.isGenerator = false) (hk : scope.kind = .function) (hcell : ∀ x ∈ scope.names, x.2 ≠ .cell) (hd1 : 1 ≤ d)
    (h : ∀ (dp un : Nat) (gd : Option (List Code)) (outer : List Env) (s : Shared) (R : Result → Shared → Prop) (g h₁ : Heap) (L : Addr) (tk : Nat), dp + d < recursionLimit + 1 → un + u < cLine + 3 → Pre s.heap →
      Gr w loose mean mg mb g → (∀ b o, b ∉ W → s.heap.get? b = some o → g.get? b = some o) → (∀ b o, g.get? b = some o → s.heap.get? b = some o) → (∀ b ∈ W, g.get? b = none) → (∀ b o, s.heap.get? b = some o → b < L) →
      (∀ b o, s.heap.get? b = some o → h₁.get? b = some o) → Fr g L h₁ (fun y => binds.reverse.lookup y) →
      (∀ v h' tk, (∀ b o, g.get? b = some o → h'.get? b = some o) → Post s.heap v h' → R (.ok (.ret v)) { s with heap := h', toks := tk }) →
      wpAny (model PR w) (mkA dp un gd (envOf qual scope L f cdv :: outer)) (execs body (envOf qual scope L f cdv))
        (fun fl s' => R (.ok (.ret (match fl with | .ret v => v | _ => .none))) s') (fun _ _ => False) { s with heap := h₁, toks := tk }) :
    Meets w loose mean mg mb f args d u W Pre Post := by
  intro dp un gd outer s R hd hu G hpre ret
  have keep : ∀ b o, (hideAll s.heap W).get? b = some o → s.heap.get? b = some o := fun b o e => of_hideAll _ e
  refine codeAny_call_def (fd := fnOf name qual params body scope dV kV doc pm an cdv ct) (body := body) (binds := binds) (by show dp < recursionLimit; omega) (keep _ _ (G.X _ _ ho)) rfl (G.T.nolimit.keeps keep)
    (codeRec_of (G.X.keeps keep) hcd) rfl (hbind s) hcell hloc (fun h₁ hns hk₁ => ?_) hco hgen hk
  refine wpAny_mono (h (dp + 1) (un + 3) gd outer s R (hideAll s.heap W) h₁ s.heap.objs.size _ (by omega) (by omega) hpre G (fun b o n e => hideAll_get _ e n) keep (fun b hb => hideAll_none _ hb) (fun b o e => Heap.lt_size e) hk₁
    ⟨hns, fun b o e => hk₁ b o (keep b o e), Nat.le_of_eq (hideAll_size _ _)⟩ (fun v h' tk k p => ret v h' tk (fun b o n e => k b o (hideAll_get _ e n)) p)) (fun fl s' q => q) (fun e s' q => q.elim)

theorem use {f : Addr} {args : List Value} {d u : Nat} {W : List Addr} {Pre : Heap → Prop} {Post : Heap → Value → Heap → Prop} {dp un : Nat} {gd : Option (List Code)} {outer : List Env} {s : Shared}
    {h₀ : Heap} {L : Addr} {m : Str → Option Value} {news : List (Addr × Obj)} {Q E : Value → Shared → Prop}
    (M : Meets w loose mean mg mb f args d u W Pre Post) (hd : dp + d < recursionLimit) (hu : un + u < cLine) (G : Gr w loose mean mg mb h₀) (F : Fr h₀ L s.heap m) (N : News h₀ L s.heap news)
    (hW : ∀ b ∈ W, b ∈ news.map (·.1)) (hpre : Pre s.heap) (k : ∀ v h' tk, Ext W s.heap h' → Post s.heap v h' → Q v { s with heap := h', toks := tk }) :
    wpAny (model PR w) (mkA dp un gd outer) (call (.ref f) args) Q E s := by
  refine wpAny_call (M dp un gd outer s _ hd hu (G.keeps fun b o e => hideAll_get _ (F.keep b o e) fun q => ?_) hpre k)
  obtain ⟨p, hp, rfl⟩ := List.mem_map.mp (hW b q)
  rw [(N p hp).2.2] at e; cases e

/-- behind a call that writes nothing of ours -/
theorem fr_ext {h₀ h h' : Heap} {L : Addr} {m : Str → Option Value} {W : List Addr} (F : Fr h₀ L h m) (x : Ext W h h') (hL : L ∉ W) (h0 : ∀ b ∈ W, h₀.get? b = none) : Fr h₀ L h' m := by
  obtain ⟨oL, es, ep, hl, r⟩ := F.ns
  exact ⟨⟨oL, es, ep, x _ _ hL hl, r⟩, fun b o e => x b o (fun q => by rw [h0 b q] at e; cases e) (F.keep b o e), F.above⟩
theorem news_ext {h₀ h h' : Heap} {L : Addr} {news : List (Addr × Obj)} {W : List Addr} (N : News h₀ L h news) (x : Ext W h h') (hn : ∀ p ∈ news, p.1 ∉ W) : News h₀ L h' news :=
  fun p hp => ⟨x _ _ (hn p hp) (N p hp).1, (N p hp).2⟩
theorem news_cons {h₀ h : Heap} {L a : Addr} {o : Obj} {news : List (Addr × Obj)} (N : News h₀ L h news) (e : h.get? a = some o) (hL : a ≠ L) (h0 : h₀.get? a = none) : News h₀ L h ((a, o) :: news) :=
  fun p hp => (List.mem_cons.mp hp).elim (fun q => by rw [q]; exact ⟨e, hL, h0⟩) (N p)
theorem fr_lt {h₀ h : Heap} {L b : Addr} {m : Str → Option Value} {o : Obj} (F : Fr h₀ L h m) (e : h₀.get? b = some o) : b < L := Nat.lt_of_lt_of_le (Heap.lt_size e) F.above
theorem none_above {h₀ h : Heap} {L b : Addr} {m : Str → Option Value} (F : Fr h₀ L h m) (e : L ≤ b) : h₀.get? b = none := by
  cases q : h₀.get? b with
  | none => rfl
  | some o => exact absurd (fr_lt F q) (Nat.not_lt.mpr e)
end
end Mine
namespace Mine
/-- the walk stops here -/
def Stop (p : Prop) : Prop := p
theorem Stop.go {p : Prop} (h : Stop p) : p := h
def bnd (m : Str → Option Value) : List (Str × Value) → Str → Option Value
  | [], y => m y
  | (x, v) :: r, y => if y = x then some v else bnd m r y
theorem bnd_eq {m : Str → Option Value} : ∀ {ps : List (Str × Value)}, (∀ p ∈ ps, m p.1 = some p.2) → bnd m ps = m
  | [], _ => rfl
  | (x, v) :: r, h => by
    funext y
    show (if y = x then some v else bnd m r y) = m y
    rw [bnd_eq (fun p hp => h p (.tail _ hp))]
    split
    · rename_i e; rw [e]; exact (h (x, v) (.head _)).symm
    · rfl
theorem fr_known {h₀ h : Heap} {L : Addr} {m : Str → Option Value} (F : Fr h₀ L h m) (ps : List (Str × Value)) (hk : ∀ p ∈ ps, m p.1 = some p.2) : Fr h₀ L h (bnd m ps) := by
  rw [bnd_eq hk]; exact F
abbrev tupO (vs : List Value) : Obj := { cls := .type "tuple", data := .seq vs.toArray }
theorem k_get_fr {h₀ h : Heap} {L : Addr} {m : Str → Option Value} (F : Fr h₀ L h m) : ∀ b o, h₀.get? b = some o → h.get? b = some o := F.keep
end Mine
namespace Mine
section
variable {w : World} {A : Around} {E : Value → Shared → Prop} {s : Shared} {a : Int} {k : Nat} {t u : Tok} {Q : Value → Shared → Prop}
theorem shl (hb : Builtin.Int.intBits a + k ≤ 134217728) (h : Q (.int (a * 2 ^ k) s.toks) { s with toks := s.toks + 1 }) : wpAny (model PR w) A (binaryOp .LShift (.int a t) (.int (k : Int) u)) Q E s := by
  refine lshift_int (Int.natCast_nonneg _) ?_ (by rw [Int.toNat_natCast]; exact h)
  have e : (2 : Int) ^ 27 = 134217728 := by decide
  rw [e]; omega
theorem ishl (hb : Builtin.Int.intBits a + k ≤ 134217728) (h : Q (.int (a * 2 ^ k) s.toks) { s with toks := s.toks + 1 }) : wpAny (model PR w) A (inplaceOp .LShift (.int a t) (.int (k : Int) u)) Q E s := by
  refine ilshift_int (Int.natCast_nonneg _) ?_ (by rw [Int.toNat_natCast]; exact h)
  have e : (2 : Int) ^ 27 = 134217728 := by decide
  rw [e]; omega
end
/-- a new pair of ints -/
def PairN (h : Heap) (v : Value) (h' : Heap) (x y : Int) : Prop := ∃ a t u, v = .ref a ∧ h'.get? a = some (tupO [.int x t, .int y u]) ∧ h.get? a = none
section
variable {h₀ h h' : Heap} {L a : Addr} {m : Str → Option Value} {news : List (Addr × Obj)} {o : Obj}
theorem fr_ext0 (F : Fr h₀ L h m) (x : Ext [] h h') : Fr h₀ L h' m := fr_ext F x (fun q => nomatch q) (fun _ q => nomatch q)
theorem news_ext0 (N : News h₀ L h news) (x : Ext [] h h') : News h₀ L h' news := news_ext N x (fun _ _ q => nomatch q)
theorem fresh0 (F : Fr h₀ L h m) (e : h.get? a = none) : h₀.get? a = none := by
  cases q : h₀.get? a with
  | none => rfl
  | some o => rw [F.keep _ _ q] at e; cases e
theorem freshL (F : Fr h₀ L h m) (e : h.get? a = none) : a ≠ L := fun q => by
  obtain ⟨oL, _, _, hl, _⟩ := F.ns
  rw [q, hl] at e; cases e
theorem news_new0 (N : News h₀ L h news) (F : Fr h₀ L h m) (x : Ext [] h h') (e : h'.get? a = some o) (hn : h.get? a = none) : News h₀ L h' ((a, o) :: news) :=
  news_cons (news_ext0 N x) e (freshL F hn) (fresh0 F hn)
end
end Mine
namespace Mine
theorem fresh_of {g h : Heap} {a : Addr} {W : List Addr} (K1 : ∀ b o, b ∉ W → h.get? b = some o → g.get? b = some o) (hW : a ∉ W) (e : g.get? a = none) : h.get? a = none := by
  cases q : h.get? a with
  | none => rfl
  | some o => rw [K1 _ _ hW q] at e; cases e
end Mine
end

section
open PySem PySem.W PyProof.Rows
set_option Elab.async false
namespace Mine

theorem pow_pos2 (k : Nat) : (0 : Int) < 2 ^ k := Int.pow_pos (by decide)
theorem fdiv_pow (x : Int) (k : Nat) : x.fdiv (2 ^ k) = x / 2 ^ k := Int.fdiv_eq_ediv_of_nonneg _ (Int.le_of_lt (pow_pos2 k))
theorem cast_pow2 (k : Nat) : ((2 ^ k : Nat) : Int) = 2 ^ k := by simp

theorem and_hi (x y k : Nat) (hy : y < 2 ^ k) : (x * 2 ^ k) &&& y = 0 := by
  apply Nat.eq_of_testBit_eq
  intro i
  simp only [Nat.testBit_and, Nat.zero_testBit, Nat.testBit_mul_two_pow]
  by_cases h : k ≤ i
  · have : y.testBit i = false := Nat.testBit_lt_two_pow (Nat.lt_of_lt_of_le hy (Nat.pow_le_pow_right (by decide) h))
    simp [this]
  · simp [h]
theorem and_self_hi (x k : Nat) : x &&& (x / 2 ^ k * 2 ^ k) = x / 2 ^ k * 2 ^ k := by
  apply Nat.eq_of_testBit_eq
  intro i
  simp only [Nat.testBit_and, Nat.testBit_mul_two_pow, Nat.testBit_div_two_pow]
  by_cases h : k ≤ i
  · simp [h, Nat.sub_add_cancel h]
  · simp [h]

/-- x << k | y -/
theorem or_low {x y : Int} {k : Nat} (hx : 0 ≤ x) (hy : 0 ≤ y) (hlt : y < 2 ^ k) : Builtin.bitOr (x * 2 ^ k) y = x * 2 ^ k + y := by
  rw [bitOr_and]
  obtain ⟨a, rfl⟩ := Int.eq_ofNat_of_zero_le hx
  obtain ⟨b, rfl⟩ := Int.eq_ofNat_of_zero_le hy
  have hb : b < 2 ^ k := by rw [← cast_pow2] at hlt; exact Int.ofNat_lt.mp hlt
  have e : Builtin.bitAnd ((a : Int) * 2 ^ k) b = 0 := by
    rw [bitAnd_pp (Int.mul_nonneg (Int.natCast_nonneg _) (Int.le_of_lt (pow_pos2 k))) (Int.natCast_nonneg _)]
    have : ((a : Int) * 2 ^ k).toNat = a * 2 ^ k := by rw [← cast_pow2, ← Int.natCast_mul, Int.toNat_natCast]
    rw [this, Int.toNat_natCast, and_hi _ _ _ hb]; rfl
  rw [e]; omega
/-- x ^ (x >> k << k) -/
theorem xor_high {x : Int} {k : Nat} (hx : 0 ≤ x) : Builtin.bitXor x (x / 2 ^ k * 2 ^ k) = x % 2 ^ k := by
  rw [bitXor_and]
  obtain ⟨a, rfl⟩ := Int.eq_ofNat_of_zero_le hx
  have q : ((a : Int) / 2 ^ k * 2 ^ k) = ((a / 2 ^ k * 2 ^ k : Nat) : Int) := by simp
  have e : Builtin.bitAnd (a : Int) ((a : Int) / 2 ^ k * 2 ^ k) = (a : Int) / 2 ^ k * 2 ^ k := by
    rw [q, bitAnd_pp (Int.natCast_nonneg _) (Int.natCast_nonneg _), Int.toNat_natCast, Int.toNat_natCast, and_self_hi]
  rw [e]
  have := Int.mul_ediv_add_emod (a : Int) (2 ^ k)
  have := Int.mul_comm ((a : Int) / 2 ^ k) (2 ^ k)
  omega

theorem bits_lt {x : Int} {k : Nat} (h0 : 0 ≤ x) (h : x < 2 ^ k) : Builtin.Int.intBits x ≤ k := by
  refine intBits_le_iff.mpr ?_
  have e : ((x.natAbs : Nat) : Int) = x := by omega
  have : ((x.natAbs : Nat) : Int) < ((2 ^ k : Nat) : Int) := by rw [e, cast_pow2]; exact h
  exact Int.ofNat_lt.mp this
theorem lt_bits {x : Int} (h0 : 0 ≤ x) : x < 2 ^ Builtin.Int.intBits x := by
  have h := natAbs_lt_pow_bits x
  have e : ((x.natAbs : Nat) : Int) = x := by omega
  have h2 : ((x.natAbs : Nat) : Int) < ((2 ^ Builtin.Int.intBits x : Nat) : Int) := Int.ofNat_lt.mpr h
  rw [e, cast_pow2] at h2; exact h2
theorem bits_pow_le {x : Int} (h0 : 0 < x) : 2 ^ (Builtin.Int.intBits x - 1) ≤ x ∧ 0 < Builtin.Int.intBits x := by
  have hne : ¬ ((x == 0) = true) := by simp; omega
  have e : Builtin.Int.intBits x = x.natAbs.log2 + 1 := by unfold Builtin.Int.intBits; rw [if_neg hne]
  rw [e]
  refine ⟨?_, by omega⟩
  have h := Nat.log2_self_le (n := x.natAbs) (by omega)
  have e2 : ((x.natAbs : Nat) : Int) = x := by omega
  rw [Nat.add_sub_cancel, ← cast_pow2]
  calc ((2 ^ x.natAbs.log2 : Nat) : Int) ≤ (x.natAbs : Int) := Int.ofNat_le.mpr h
    _ = x := e2

theorem div_of {a b q r : Int} (e : q * b + r = a) (h0 : 0 ≤ r) (h1 : r < b) : a / b = q ∧ a % b = r := by
  have hb : 0 < b := by omega
  have e' : a = r + b * q := by rw [← e, Int.mul_comm]; omega
  constructor
  · rw [e', Int.add_mul_ediv_left _ _ (by omega), Int.ediv_eq_zero_of_lt h0 h1]; omega
  · rw [e', Int.add_mul_emod_self_left, Int.emod_eq_of_lt h0 h1]

/-- the two starts of div3n2n -/
theorem div3_top {a12 b1 B : Int} (hq : a12 / B = b1) (hB : 0 < B) (h1 : 0 ≤ b1) :
    0 ≤ a12 - b1 * B + b1 := by
  have := Int.mul_ediv_add_emod a12 B
  have h := Int.emod_nonneg a12 (Int.ne_of_gt hB)
  rw [hq, Int.mul_comm] at this
  omega
theorem div3_case1 {a12 a3 b b1 b2 B : Int} (hb : b = b1 * B + b2) (h12 : a12 < b) (h3' : a3 < B) (hB : 0 < B) :
    (B - 1) * b + ((a12 - b1 * B + b1) * B + a3 - (B - 1) * b2) = a12 * B + a3 ∧ (a12 - b1 * B + b1) * B + a3 - (B - 1) * b2 < b := by
  constructor
  · rw [hb]; grind
  · have h : a12 - b1 * B ≤ b2 - 1 := by omega
    have h' : (a12 - b1 * B + b1) * B ≤ (b2 - 1 + b1) * B := Int.mul_le_mul_of_nonneg_right (by omega) (Int.le_of_lt hB)
    have e1 : (b2 - 1 + b1) * B = b2 * B - B + b1 * B := by grind
    have e2 : (B - 1) * b2 = b2 * B - b2 := by grind
    omega
theorem div3_case2 {a12 a3 b b1 b2 B q r : Int} (hb : b = b1 * B + b2) (h2 : 0 ≤ b2) (h3' : a3 < B) (hB : 0 < B) (e : q * b1 + r = a12) (hr : r < b1) (hq : 0 ≤ q) :
    q * b + (r * B + a3 - q * b2) = a12 * B + a3 ∧ r * B + a3 - q * b2 < b := by
  constructor
  · rw [hb, ← e]; grind
  · have h' : r * B ≤ (b1 - 1) * B := Int.mul_le_mul_of_nonneg_right (by omega) (Int.le_of_lt hB)
    have e1 : (b1 - 1) * B = b1 * B - B := by grind
    have := Int.mul_nonneg hq h2
    omega
theorem div3_lt {a12 b b1 b2 B : Int} (hb : b = b1 * B + b2) (h2' : b2 < B) (h12 : a12 < b) (hq : ¬ a12 / B = b1) (hB : 0 < B) : a12 < b1 * B := by
  have e := Int.mul_ediv_add_emod a12 B
  have h := Int.emod_nonneg a12 (Int.ne_of_gt hB)
  have h1 : a12 / B ≤ b1 := by
    have : a12 / B < b1 + 1 := Int.ediv_lt_of_lt_mul hB (by have : (b1 + 1) * B = b1 * B + B := by grind
                                                            omega)
    omega
  have h3 : a12 / B ≤ b1 - 1 := by omega
  have h4 := Int.emod_lt_of_pos a12 hB
  have h5 : B * (a12 / B) ≤ B * (b1 - 1) := Int.mul_le_mul_of_nonneg_left h3 (Int.le_of_lt hB)
  have e1 : B * (b1 - 1) = b1 * B - B := by grind
  omega
end Mine
namespace Mine
theorem half_even {n : Nat} (h : Builtin.bitAnd (n : Int) 1 = 0) : ((n : Int).fdiv (2 ^ Int.toNat 1)) = ((n / 2 : Nat) : Int) ∧ n = 2 * (n / 2) := by
  rw [bitAnd_m1] at h
  rw [show Int.toNat 1 = 1 from rfl, fdiv_pow]
  constructor
  · omega
  · omega
theorem half_odd {n : Nat} (h : Builtin.bitAnd (n : Int) 1 ≠ 0) : (((n : Int) + 1).fdiv (2 ^ Int.toNat 1)) = (((n + 1) / 2 : Nat) : Int) ∧ n + 1 = 2 * ((n + 1) / 2) := by
  rw [bitAnd_m1] at h
  rw [show Int.toNat 1 = 1 from rfl, fdiv_pow]
  constructor
  · omega
  · omega
/-- the two thirds of div2n1n -/
theorem div2_end {a b B q1 r1 q2 r2 : Int} (hB : 0 < B) (hb : 0 < b) (e1 : q1 = (a / (B * B) * B + a / B % B) / b) (f1 : r1 = (a / (B * B) * B + a / B % B) % b)
    (e2 : q2 = (r1 * B + a % B) / b) (f2 : r2 = (r1 * B + a % B) % b) (ha0 : 0 ≤ a) (ha : a < b * (B * B)) : (q1 * B + q2) * b + r2 = a ∧ 0 ≤ r2 ∧ r2 < b ∧ 0 ≤ q2 ∧ q2 < B ∧ 0 ≤ r1 ∧ r1 < b ∧ 0 ≤ q1 ∧ q1 < B := by
  have k : a / (B * B) * B + a / B % B = a / B := by
    rw [← Int.ediv_ediv_of_nonneg (Int.le_of_lt hB), Int.mul_comm]; exact Int.mul_ediv_add_emod _ _
  rw [k] at e1 f1
  have k1 := Int.mul_ediv_add_emod (a / B) b
  have k2 := Int.mul_ediv_add_emod (r1 * B + a % B) b
  have k3 := Int.mul_ediv_add_emod a B
  rw [← e1, ← f1] at k1
  rw [← e2, ← f2] at k2
  have hr1 : 0 ≤ r1 := by rw [f1]; exact Int.emod_nonneg _ (Int.ne_of_gt hb)
  have hr1' : r1 < b := by rw [f1]; exact Int.emod_lt_of_pos _ hb
  have hm := Int.emod_nonneg a (Int.ne_of_gt hB)
  have hm' := Int.emod_lt_of_pos a hB
  have hq1 : 0 ≤ q1 := by rw [e1]; exact Int.ediv_nonneg (Int.ediv_nonneg ha0 (Int.le_of_lt hB)) (Int.le_of_lt hb)
  have hq1' : q1 < B := by
    rw [e1]; refine Int.ediv_lt_of_lt_mul hb (Int.ediv_lt_of_lt_mul hB ?_)
    have : B * b * B = b * (B * B) := by grind
    rw [this]; exact ha
  refine ⟨?_, ?_, ?_, ?_, ?_, hr1, hr1', hq1, hq1'⟩
  · have : (q1 * B + q2) * b = (b * q1) * B + b * q2 := by grind
    have h2 : b * q1 = a / B - r1 := by omega
    rw [this, h2]
    have : (a / B - r1) * B = B * (a / B) - r1 * B := by grind
    omega
  · rw [f2]; exact Int.emod_nonneg _ (Int.ne_of_gt hb)
  · rw [f2]; exact Int.emod_lt_of_pos _ hb
  · rw [e2]; exact Int.ediv_nonneg (by have := Int.mul_nonneg hr1 (Int.le_of_lt hB); omega) (Int.le_of_lt hb)
  · rw [e2]; refine Int.ediv_lt_of_lt_mul hb ?_
    have h1 : r1 * B ≤ (b - 1) * B := Int.mul_le_mul_of_nonneg_right (by omega) (Int.le_of_lt hB)
    have h2 : (b - 1) * B = B * b - B := by grind
    omega
theorem hi_lt {a b M : Int} (hM : 0 < M) (h : a < b * M) : a / M < b := Int.ediv_lt_of_lt_mul hM h
theorem pad_end {a b q r : Int} (hb : 0 < b) (e : q * (2 * b) + r = 2 * a) (h0 : 0 ≤ r) (h1 : r < 2 * b) : a / b = q ∧ a % b = r / 2 := by
  have h : q * (2 * b) = 2 * (q * b) := by grind
  have h2 : q * b + r / 2 = a := by omega
  exact div_of h2 (by omega) (by omega)
end Mine
end

section
open PySem PySem.W PyProof.Rows
set_option Elab.async false
namespace Mine

def digs (n : Nat) (x : Int) : Nat → List Int
  | 0 => []
  | c + 1 => x % 2 ^ n :: digs n (x / 2 ^ n) c
theorem digs_length (n : Nat) : ∀ (c : Nat) (x : Int), (digs n x c).length = c
  | 0, _ => rfl
  | c + 1, x => by rw [digs, List.length_cons, digs_length n c]
theorem digs_range (n : Nat) : ∀ (c : Nat) (x : Int), ∀ v ∈ digs n x c, 0 ≤ v ∧ v < 2 ^ n
  | 0, _, v, h => nomatch h
  | c + 1, x, v, h => by
    rcases List.mem_cons.mp h with rfl | h
    · exact ⟨Int.emod_nonneg _ (Int.ne_of_gt (pow_pos2 n)), Int.emod_lt_of_pos _ (pow_pos2 n)⟩
    · exact digs_range n c _ v h
theorem emod_mul_div {x a b : Int} (ha : 0 < a) : x % (a * b) / a = x / a % b := by
  refine (div_of (q := x / a % b) (r := x % a) ?_ (Int.emod_nonneg _ (Int.ne_of_gt ha)) (Int.emod_lt_of_pos _ ha)).1
  have e1 := Int.mul_ediv_add_emod x a
  have e2 := Int.mul_ediv_add_emod (x / a) b
  have e3 := Int.mul_ediv_add_emod x (a * b)
  have e4 : x / a / b = x / (a * b) := Int.ediv_ediv_of_nonneg (Int.le_of_lt ha)
  rw [e4] at e2
  generalize x / (a * b) = q at *
  generalize x % (a * b) = r at *
  generalize x / a = y at *
  generalize y % b = z at *
  generalize x % a = t at *
  have : a * (b * q + z) = a * b * q + z * a := by grind
  rw [e2] at this
  omega
theorem digs_add (n : Nat) : ∀ (c1 c2 : Nat) (x : Int), digs n x (c1 + c2) = digs n (x % 2 ^ (n * c1)) c1 ++ digs n (x / 2 ^ (n * c1)) c2
  | 0, c2, x => by simp [digs]
  | c1 + 1, c2, x => by
    rw [show c1 + 1 + c2 = (c1 + c2) + 1 by omega, digs, digs, digs_add n c1 c2, List.cons_append]
    have e : (2 : Int) ^ (n * (c1 + 1)) = 2 ^ n * 2 ^ (n * c1) := by rw [← Int.pow_add]; congr 1; rw [Nat.mul_add]; omega
    have h1 : x % 2 ^ (n * (c1 + 1)) % 2 ^ n = x % 2 ^ n := by
      rw [e]; exact Int.emod_emod_of_dvd _ ⟨2 ^ (n * c1), rfl⟩
    have h2 : x % 2 ^ (n * (c1 + 1)) / 2 ^ n = x / 2 ^ n % 2 ^ (n * c1) := by
      rw [e, emod_mul_div (pow_pos2 n)]
    have h3 : x / 2 ^ n / 2 ^ (n * c1) = x / 2 ^ (n * (c1 + 1)) := by
      rw [e]; exact Int.ediv_ediv_of_nonneg (Int.le_of_lt (pow_pos2 n))
    rw [h1, h2, h3]
theorem digs_one {n : Nat} {x : Int} (h0 : 0 ≤ x) (h1 : x < 2 ^ n) : digs n x 1 = [x] := by
  rw [digs, digs, Int.emod_eq_of_lt h0 h1]

/-- the digits put together again -/
def undig (n : Nat) : List Int → Int
  | [] => 0
  | d :: r => d + 2 ^ n * undig n r
theorem undig_append (n : Nat) : ∀ (a b : List Int), undig n (a ++ b) = undig n a + 2 ^ (n * a.length) * undig n b
  | [], b => by simp [undig]
  | d :: r, b => by
    rw [List.cons_append, undig, undig_append n r b, undig, List.length_cons]
    have e : (2 : Int) ^ (n * (r.length + 1)) = 2 ^ n * 2 ^ (n * r.length) := by rw [← Int.pow_add]; congr 1; rw [Nat.mul_add]; omega
    rw [e]; grind
theorem undig_digs (n : Nat) : ∀ (c : Nat) (x : Int), 0 ≤ x → x < 2 ^ (n * c) → undig n (digs n x c) = x
  | 0, x, h0, h1 => by simp [digs, undig] at *; omega
  | c + 1, x, h0, h1 => by
    have e : (2 : Int) ^ (n * (c + 1)) = 2 ^ n * 2 ^ (n * c) := by rw [← Int.pow_add]; congr 1; rw [Nat.mul_add]; omega
    rw [e] at h1
    rw [digs, undig, undig_digs n c (x / 2 ^ n) (Int.ediv_nonneg h0 (Int.le_of_lt (pow_pos2 n))) (Int.ediv_lt_of_lt_mul (pow_pos2 n) (by rw [Int.mul_comm]; exact h1))]
    have := Int.mul_ediv_add_emod x (2 ^ n)
    omega
theorem take_mid {α : Type} {L M : Nat} {ds p : List α} (hL : L ≤ ds.length) (hp : p.length = M - L) (hM : L ≤ M) : (ds.take L ++ p ++ ds.drop M).take M = ds.take L ++ p := by
  have : (ds.take L ++ p).length = M := by rw [List.length_append, List.length_take, hp]; omega
  rw [List.take_append_of_le_length (by omega), List.take_of_length_le (by omega)]
theorem drop_mid {α : Type} {L M R : Nat} {ds p : List α} (hL : L ≤ ds.length) (hp : p.length = M - L) (hM : L ≤ M) (hR : M ≤ R) : (ds.take L ++ p ++ ds.drop M).drop R = ds.drop R := by
  have : (ds.take L ++ p).length = M := by rw [List.length_append, List.length_take, hp]; omega
  rw [List.drop_append, this, List.drop_of_length_le (by omega), List.nil_append, List.drop_drop]
  congr 1; omega
theorem set_mid {α : Type} {L : Nat} {ds : List α} {x : α} (hL : L < ds.length) : ds.set L x = ds.take L ++ [x] ++ ds.drop (L + 1) := by
  rw [List.set_eq_take_append_cons_drop, if_pos hL]; simp
end Mine
namespace Mine
theorem undig_range (n : Nat) : ∀ (l : List Int), (∀ v ∈ l, 0 ≤ v ∧ v < 2 ^ n) → 0 ≤ undig n l ∧ undig n l < 2 ^ (n * l.length)
  | [], _ => by simp [undig]
  | d :: r, h => by
    have hd := h d (.head _)
    have ih := undig_range n r fun v hv => h v (.tail _ hv)
    have hB := pow_pos2 n
    have e : (2 : Int) ^ (n * (r.length + 1)) = 2 ^ n * 2 ^ (n * r.length) := by rw [← Int.pow_add]; congr 1; rw [Nat.mul_add]; omega
    rw [undig, List.length_cons, e]
    constructor
    · have := Int.mul_nonneg (Int.le_of_lt hB) ih.1; omega
    · have h1 : 2 ^ n * undig n r ≤ 2 ^ n * (2 ^ (n * r.length) - 1) := Int.mul_le_mul_of_nonneg_left (by omega) (Int.le_of_lt hB)
      have h2 : (2 : Int) ^ n * (2 ^ (n * r.length) - 1) = 2 ^ n * 2 ^ (n * r.length) - 2 ^ n := by grind
      omega
theorem seg_one {ds : List Int} {L : Nat} (h : L < ds.length) : (ds.drop L).take 1 = [ds.getD L 0] := by
  have e := List.drop_eq_getElem_cons h
  rw [e, List.take_succ_cons, List.take_zero]; simp [List.getD, h]
theorem seg_cut {ds : List Int} {L M R : Nat} (h1 : L ≤ M) (h2 : M ≤ R) : (ds.drop L).take (R - L) = (ds.drop L).take (M - L) ++ (ds.drop M).take (R - M) := by
  have e : R - L = (M - L) + (R - M) := by omega
  rw [e, List.take_add, List.drop_drop]
  congr 3; omega
theorem seg_len {ds : List Int} {L R : Nat} (h1 : L ≤ R) (h2 : R ≤ ds.length) : ((ds.drop L).take (R - L)).length = R - L := by
  rw [List.length_take, List.length_drop]; omega
theorem seg_mem {ds : List Int} {L k : Nat} {v : Int} (h : v ∈ (ds.drop L).take k) : v ∈ ds := List.mem_of_mem_drop (List.mem_of_mem_take h)
end Mine
namespace Mine
theorem digs_get (n : Nat) : ∀ (c : Nat) (x : Int) (j : Nat), j < c → (digs n x c)[j]? = some (x / 2 ^ (n * j) % 2 ^ n)
  | 0, _, j, h => absurd h (Nat.not_lt_zero _)
  | c + 1, x, 0, _ => by simp [digs]
  | c + 1, x, j + 1, h => by
    rw [digs, List.getElem?_cons_succ, digs_get n c _ j (by omega)]
    have e : (2 : Int) ^ (n * (j + 1)) = 2 ^ n * 2 ^ (n * j) := by rw [← Int.pow_add]; congr 1; rw [Nat.mul_add]; omega
    rw [e, ← Int.ediv_ediv_of_nonneg (Int.le_of_lt (pow_pos2 n))]
/-- one more digit from the top -/
theorem top_step {n c i : Nat} {a b : Int} (hb : 0 < b) (h : i < c) :
    a / 2 ^ (n * (c - (i + 1))) / b = ((a / 2 ^ (n * (c - i)) % b) * 2 ^ n + a / 2 ^ (n * (c - 1 - i)) % 2 ^ n) / b + 2 ^ n * (a / 2 ^ (n * (c - i)) / b) ∧
    a / 2 ^ (n * (c - (i + 1))) % b = ((a / 2 ^ (n * (c - i)) % b) * 2 ^ n + a / 2 ^ (n * (c - 1 - i)) % 2 ^ n) % b := by
  have e1 : c - 1 - i = c - (i + 1) := by omega
  have e2 : (2 : Int) ^ (n * (c - i)) = 2 ^ (n * (c - (i + 1))) * 2 ^ n := by
    rw [← Int.pow_add]; congr 1
    have : c - i = (c - (i + 1)) + 1 := by omega
    rw [this, Nat.mul_add]; omega
  rw [e1, e2, ← Int.ediv_ediv_of_nonneg (Int.le_of_lt (pow_pos2 _))]
  generalize a / 2 ^ (n * (c - (i + 1))) = y
  have h1 := Int.mul_ediv_add_emod y (2 ^ n)
  have h2 := Int.mul_ediv_add_emod (y / 2 ^ n) b
  generalize y / 2 ^ n = z at *
  generalize y % 2 ^ n = d at *
  have h3 := Int.mul_ediv_add_emod ((z % b) * 2 ^ n + d) b
  have h4 := Int.emod_nonneg ((z % b) * 2 ^ n + d) (Int.ne_of_gt hb)
  have h5 := Int.emod_lt_of_pos ((z % b) * 2 ^ n + d) hb
  generalize ((z % b) * 2 ^ n + d) / b = qd at *
  generalize hr : ((z % b) * 2 ^ n + d) % b = r' at *
  refine div_of ?_ h4 h5
  generalize z % b = r at *
  generalize z / b = Q at *
  generalize (2 : Int) ^ n = B at *
  have : (qd + B * Q) * b + r' = b * qd + r' + B * (b * Q) := by grind
  rw [this, h3]
  have : B * (b * Q) = B * (b * Q + r) - r * B := by grind
  rw [this, h2]; omega
theorem top_pre {n : Nat} {b r d : Int} (hr0 : 0 ≤ r) (hr : r < b) (hd0 : 0 ≤ d) (hd : d < 2 ^ n) : 0 ≤ r * 2 ^ n + d ∧ r * 2 ^ n + d < b * 2 ^ n := by
  have hB := pow_pos2 n
  constructor
  · have := Int.mul_nonneg hr0 (Int.le_of_lt hB); omega
  · have h1 : r * 2 ^ n ≤ (b - 1) * 2 ^ n := Int.mul_le_mul_of_nonneg_right (by omega) (Int.le_of_lt hB)
    have h2 : (b - 1) * 2 ^ n = b * 2 ^ n - 2 ^ n := by grind
    omega
end Mine
end

section
open PySem PySem.W PyProof.Rows PySem.Spec PySem.Calls
set_option Elab.async false
set_option maxRecDepth 100000
set_option maxHeartbeats 8000000
namespace Mine
section
variable {w : World} {loose : List Str} {mean : ExcName → Option Value} {mg mb : Str → Option Value}

/-- a def that the run has made (closed over cells) -/
theorem enterX {f : Addr} {fo : Obj} {name qual : Str} {params : Arguments} {body : List Stmt} {scope : Scope} {cl : List (Str × Addr)} {dV kV doc pm cdv ct : Value} {an : Option Addr}
    {args : List Value} {d u : Nat} {Pre : Heap → Prop} {Post : Heap → Value → Heap → Prop} {binds : List (Str × Value)} (W : List Addr)
    (ho : ∀ h, Pre h → h.get? f = some fo ∧ h.CodeRec cdv qual) (hfd : fo.data = .func (fnX name qual params body scope cl dV kV doc pm an cdv ct))
    (hbind : ∀ s, BindsTo s (fnX name qual params body scope cl dV kV doc pm an cdv ct) ⟨args, []⟩ binds) (hloc : ∀ y ∈ binds, scope.names.lookup y.1 = some .local)
    (hco : scope.isCoroutine = false) (hgen : scope.isGenerator = false) (hk : scope.kind = .function) (hcell : ∀ x ∈ scope.names, x.2 ≠ .cell) (hd1 : 1 ≤ d)
    (h : ∀ (dp un : Nat) (gd : Option (List Code)) (outer : List Env) (s : Shared) (R : Result → Shared → Prop) (g h₁ : Heap) (L : Addr) (tk : Nat), dp + d < recursionLimit + 1 → un + u < cLine + 3 → Pre s.heap →
      Gr w loose mean mg mb g → (∀ b o, b ∉ W → s.heap.get? b = some o → g.get? b = some o) → (∀ b o, g.get? b = some o → s.heap.get? b = some o) → (∀ b ∈ W, g.get? b = none) → (∀ b o, s.heap.get? b = some o → b < L) →
      (∀ b o, s.heap.get? b = some o → h₁.get? b = some o) → Fr g L h₁ (fun y => binds.reverse.lookup y) →
      (∀ v h' tk, (∀ b o, g.get? b = some o → h'.get? b = some o) → Post s.heap v h' → R (.ok (.ret v)) { s with heap := h', toks := tk }) →
      wpAny (model PR w) (mkA dp un gd (envX qual scope L f cdv cl :: outer)) (execs body (envX qual scope L f cdv cl))
        (fun fl s' => R (.ok (.ret (match fl with | .ret v => v | _ => .none))) s') (fun _ _ => False) { s with heap := h₁, toks := tk }) :
    Meets w loose mean mg mb f args d u W Pre Post := by
  intro dp un gd outer s R hd hu G hpre ret
  have keep : ∀ b o, (hideAll s.heap W).get? b = some o → s.heap.get? b = some o := fun b o e => of_hideAll _ e
  refine codeAny_call_def (fd := fnX name qual params body scope cl dV kV doc pm an cdv ct) (body := body) (binds := binds) (by show dp < recursionLimit; omega) (ho _ hpre).1 hfd (G.T.nolimit.keeps keep)
    (ho _ hpre).2 rfl (hbind s) hcell hloc (fun h₁ hns hk₁ => ?_) hco hgen hk
  refine wpAny_mono (h (dp + 1) (un + 3) gd outer s R (hideAll s.heap W) h₁ s.heap.objs.size _ (by omega) (by omega) hpre G (fun b o n e => hideAll_get _ e n) keep (fun b hb => hideAll_none _ hb) (fun b o e => Heap.lt_size e) hk₁
    ⟨hns, fun b o e => hk₁ b o (keep b o e), Nat.le_of_eq (hideAll_size _ _)⟩ (fun v h' tk k p => ret v h' tk (fun b o n e => k b o (hideAll_get _ e n)) p)) (fun fl s' q => q) (fun e s' q => q.elim)

theorem hid_none {h : Heap} {W : List Addr} {b : Addr} (e : h.get? b = none) : (hideAll h W).get? b = none :=
  Option.eq_none_iff_forall_ne_some.mpr fun o q => by rw [of_hideAll W q] at e; exact nomatch e
/-- a def with cells of its own -/
theorem enterC {f : Addr} {oc : Value} {od : Option Addr} {osl : Array (Option Value)} {name qual : Str} {params : Arguments} {body : List Stmt} {scope : Scope} {dV kV doc pm cdv ct : Value} {an : Option Addr}
    {args : List Value} {d u : Nat} {Pre : Heap → Prop} {Post : Heap → Value → Heap → Prop} {binds : List (Str × Value)} (W : List Addr)
    (ho : (hd.heap_39 w.params).lookup f = some ⟨oc, od, .func (fnOf name qual params body scope dV kV doc pm an cdv ct), osl⟩) (hcd : codeIn (hd.heap_39 w.params) cdv qual = true)
    (hbind : bindArgs (fnOf name qual params body scope dV kV doc pm an cdv ct) ⟨args, []⟩ = pure binds)
    (hkind : (binds.all fun y => scope.names.lookup y.1 == some .local || scope.names.lookup y.1 == some .cell) = true) (hnd : ((cellsFrom 0 scope.names []).map (·.1)).Nodup)
    (hco : scope.isCoroutine = false) (hgen : scope.isGenerator = false) (hk : scope.kind = .function) (hd1 : 1 ≤ d)
    (h : ∀ (dp un : Nat) (gd : Option (List Code)) (outer : List Env) (s : Shared) (R : Result → Shared → Prop) (g h₁ : Heap) (L : Addr) (tk : Nat) (cells : List (Addr × Obj)), dp + d < recursionLimit + 1 → un + u < cLine + 3 → Pre s.heap →
      Gr w loose mean mg mb g → (∀ b o, b ∉ W → s.heap.get? b = some o → g.get? b = some o) → (∀ b o, g.get? b = some o → s.heap.get? b = some o) → (∀ b ∈ W, g.get? b = none) → (∀ b o, s.heap.get? b = some o → b < L) →
      (∀ b o, s.heap.get? b = some o → h₁.get? b = some o) → Fr g L h₁ (bindL (envOfC qual scope L f cdv).kindOf binds fun _ => none) → News g L h₁ cells →
      CellsAre (bindC (envOfC qual scope L f cdv).kindOf binds fun _ => none) (cellsFrom (L + 1) scope.names []) cells →
      (∀ v h' tk, (∀ b o, g.get? b = some o → h'.get? b = some o) → Post s.heap v h' → R (.ok (.ret v)) { s with heap := h', toks := tk }) →
      wpAny (model PR w) (mkA dp un gd (envOfC qual scope L f cdv :: outer)) (execs body (envOfC qual scope L f cdv))
        (fun fl s' => R (.ok (.ret (match fl with | .ret v => v | _ => .none))) s') (fun _ _ => False) { s with heap := h₁, toks := tk }) :
    Meets w loose mean mg mb f args d u W Pre Post := by
  intro dp un gd outer s R hd hu G hpre ret
  have keep : ∀ b o, (hideAll s.heap W).get? b = some o → s.heap.get? b = some o := fun b o e => of_hideAll _ e
  refine codeAny_call_cells (fd := fnOf name qual params body scope dV kV doc pm an cdv ct) (by show dp < recursionLimit; omega) (keep _ _ (G.X _ _ ho)) rfl (G.T.nolimit.keeps keep) (codeRec_of (G.X.keeps keep) hcd) rfl hbind rfl (kindsX hkind _) (fun s₁ x => ?_) hco hgen hk
  obtain ⟨h₁, tk, rfl, -⟩ := x.done
  have kept := x.toInCall.keep
  have nd : ((cellsFrom (s.heap.objs.size + 1) scope.names []).map (·.1)).Nodup := by rw [cellsFrom_names scope.names _ 0 [] [] rfl]; exact hnd
  obtain ⟨cells, NC, Y⟩ := Cl.news (Nat.le_refl s.heap.objs.size) (fun n c hm => ⟨x.cell n c (lookup_of_mem_nodup nd hm), x.above n c hm⟩)
  have body' := h (dp + 1) (un + 3) gd outer s R (hideAll s.heap W) h₁ s.heap.objs.size tk cells (by omega) (by omega) hpre G (fun b o n e => hideAll_get _ e n) keep (fun b hb => hideAll_none _ hb) (fun b o e => Heap.lt_size e) kept
    ⟨x.toInCall.ns, fun b o e => kept b o (keep b o e), Nat.le_of_eq (hideAll_size _ _)⟩ (fun p hp => ⟨(NC p hp).1, (NC p hp).2.1, hid_none (NC p hp).2.2⟩) Y (fun v h' tk k p => ret v h' tk (fun b o n e => k b o (hideAll_get _ e n)) p)
  exact wpAny_mono body' (fun _ _ q => q) fun _ _ q => q.elim

theorem named {h : Heap} {f : Addr} {o : Obj} (e : h.get? f = some o) : ∃ fo, h.get? f = some fo ∧ fo = o := ⟨o, e, rfl⟩
end
section
variable {M : Model} {A : Around} {E : Value → Shared → Prop} {s : Shared} {h₀ : Heap} {L a : Addr} {m : Str → Option Value} {cn : Str} {cs : Scope} {ccd : Value} {cl : List (Str × Addr)}
  {x : Str} {pos : Pos} {v : Value} {Q : Value → Shared → Prop} {c : Addr} {o : Obj}
/-- a free name whose cell stands below -/
theorem nameF (F : Fr h₀ L s.heap m) (hc : cl.lookup x = some c) (ho : h₀.get? c = some o) (hd : o.data = .cell (some v)) (h : Q v s)
    (hk : cs.kind = .function := by rfl) (hx : (envX cn cs L a ccd cl).kindOf x = some .free := by rfl) (hb : (x == ("__debug__" : Str)) = false := by decide) (hn : (x == ("__classdict__" : Str)) = false := by decide) :
    wpAny M A (eval (.Name x pos) (envX cn cs L a ccd cl)) Q E s := wpAny_Name (wpAny_loadName_free hk hx hc ⟨o, F.keep _ _ ho, hd⟩ h hn) hb
end
end Mine
namespace Mine
/-- the table P of a code object: empty, or with the one code of the def that stands at pos -/
def TabHit (P : Addr) (qual : Str) (pos : Pos) (c' : Addr) (tb : List (Addr × Obj)) : Prop :=
  ∃ oc vs t, tb = [(c', oc), (P, tabObj #[rawInt pos.line, rawInt pos.col, .ref c'])] ∧ oc.data = .fields vs ∧ vs[1]? = some (.str qual t)
def TabLed (P : Addr) (qual : Str) (pos : Pos) (tb : List (Addr × Obj)) : Prop := tb = [(P, tabObj #[])] ∨ ∃ c', TabHit P qual pos c' tb
/-- the table behind a call -/
def TabNext (P : Addr) (qual : Str) (pos : Pos) (h h' : Heap) (tb tb' : List (Addr × Obj)) : Prop :=
  TabLed P qual pos tb' ∧ (∀ p ∈ tb', h'.get? p.1 = some p.2) ∧ (∀ p ∈ tb', p ∈ tb ∨ p.1 = P ∨ h.get? p.1 = none) ∧ (∀ b ∈ tb.map (·.1), b ∈ tb'.map (·.1))
theorem TabLed.has {P : Addr} {qual : Str} {pos : Pos} {tb : List (Addr × Obj)} (h : TabLed P qual pos tb) : ∃ o, (P, o) ∈ tb ∧ ∃ vs, o.data = .fields vs := by
  rcases h with rfl | ⟨c', oc, vs, t, rfl, _⟩
  · exact ⟨_, .head _, _, rfl⟩
  · exact ⟨_, .tail _ (.head _), _, rfl⟩
theorem TabLed.fields {P : Addr} {qual : Str} {pos : Pos} {tb : List (Addr × Obj)} (h : TabLed P qual pos tb) : ∀ p ∈ tb, ∃ vs, p.2.data = .fields vs := by
  rcases h with rfl | ⟨c', oc, vs, t, rfl, hd, _⟩
  · intro p hp; rw [List.mem_singleton.mp hp]; exact ⟨_, rfl⟩
  · intro p hp
    rcases List.mem_cons.mp hp with rfl | hp
    · exact ⟨_, hd⟩
    · rw [List.mem_singleton.mp hp]; exact ⟨_, rfl⟩
section
variable {M : Model} {A : Around} {E : Value → Shared → Prop} {s : Shared} {h₀ : Heap} {L a c P : Addr} {m mg mb : Str → Option Value} {cn : Str} {cs : Scope} {ccd : Value} {cl : List (Str × Addr)} {tb xs : List (Addr × Obj)}
  {p : Program} {loose : List Str} {mean : ExcName → Option Value} {name qual : Str} {params : Arguments} {body : List Stmt} {scope : Scope} {pos : Pos} {firstLine : Nat} {clos : List (Str × Addr)}
theorem nest_any {Q : Value → Shared → Prop} (F : Fr h₀ L s.heap m) (N : News h₀ L s.heap (tb ++ xs)) (T : Top p loose mean mg mb h₀) (C : CodeHd h₀ c P) (hcd : ccd = .ref c) (hT : TabLed P qual pos tb) (hxs : ∀ p ∈ xs, p.1 ≠ P)
    (hcl : closureFor scope (envX cn cs L a ccd cl) = pure clos)
    (h : ∀ f c' ctv doc h' tk tb', Fr h₀ L h' m → News h₀ L h' ((f, fnMade name qual params body scope clos doc ((mg "__name__").getD .none) c' ctv) :: (tb' ++ xs)) → TabHit P qual pos c' tb' → (∀ p ∈ tb', p ∈ tb ∨ p.1 = P ∨ ∀ q ∈ tb ++ xs, q.1 < p.1) → (∀ b ∈ tb.map (·.1), b ∈ tb'.map (·.1)) →
      (∀ q ∈ tb' ++ xs, q.1 < f) → Q (.ref f) { s with heap := h', toks := tk }) :
    wpAny M A (makeFunction name qual params (.stmts body) scope (envX cn cs L a ccd cl) [] [] [] pos firstLine) Q E s := by
  rcases hT with rfl | ⟨c', oc, vs, t, rfl, hd, hv⟩
  · refine nest_K F N T C hcd (UpdF.head hxs) trivial rfl hcl fun f c' oc vs t ctv doc h' tk F' N' hd hv hlt hlt' => ?_
    refine h f c' ctv doc h' tk [(c', oc), (P, tabObj #[rawInt pos.line, rawInt pos.col, .ref c'])] F' ?_ ⟨oc, vs, t, rfl, hd, hv⟩ (fun p hp => ?_) (fun b hb => ?_) (fun q hq => ?_)
    · simpa using N'
    · rcases List.mem_cons.mp hp with rfl | hp
      · exact .inr (.inr fun q hq => hlt q hq)
      · rw [List.mem_singleton.mp hp]; exact .inr (.inl rfl)
    · simp only [List.map_cons, List.map_nil, List.mem_singleton] at hb; rw [hb]; simp
    · rcases List.mem_append.mp hq with hq | hq
      · rcases List.mem_cons.mp hq with rfl | hq
        · exact hlt'
        · rw [List.mem_singleton.mp hq]; exact Nat.lt_trans (hlt (P, tabObj #[]) (.head _)) hlt'
      · exact Nat.lt_trans (hlt q (List.mem_append_right _ hq)) hlt'
  · refine nestHit_K (c' := c') F N T C hcd (.tail _ (.head _)) (by simp [TriplesOk, rawInt]) (by simp [codeAmong, rawInt]) hcl fun f ctv doc h' tk F' N' hlt => ?_
    exact h f c' ctv doc h' tk _ F' N' ⟨oc, vs, t, rfl, hd, hv⟩ (fun p hp => .inl hp) (fun b hb => hb) hlt
end
end Mine
namespace Mine
theorem room_of {w : World} {loose : List Str} {mean : ExcName → Option Value} {mg mb : Str → Option Value} {dp un : Nat} {gd : Option (List Code)} {outer : List Env} {env : Env} {g : Heap} {L : Addr} {m : Str → Option Value} {s : Shared}
    (G : Gr w loose mean mg mb g) (F : Fr g L s.heap m) (hd : dp + 100 < recursionLimit) (hgen : env.scope.isGenerator = false) (hco : env.scope.isCoroutine = false) (hb : env.builtins = builtinsNs) (hg : env.globals = mainGlobals) :
    PylongRoom (model PR w) (mkA dp un gd (env :: outer)) s :=
  PylongRoom.of (G.T.nolimit.keeps F.keep) hd (SeerAt.of (G.S.keeps F.keep) rfl rfl hgen hco hb hg)
theorem news_sub {h₀ h : Heap} {L : Addr} {a b : List (Addr × Obj)} (N : News h₀ L h a) (s : ∀ p ∈ b, p ∈ a) : News h₀ L h b := fun p hp => N p (s p hp)
theorem recLim : recursionLimit = 1000 := rfl
theorem cLim : cLine = 9900 := rfl
end Mine
namespace Mine
/-- a list of ints at D -/
def LInts (h : Heap) (D : Addr) (ds : List Int) : Prop := ∃ vs c, h.get? D = some (W.listOf (List.toArray vs) c) ∧ IntsAre vs ds
def CellAt (h : Heap) (c : Addr) (v : Value) : Prop := ∃ o, h.get? c = some o ∧ o.data = .cell (some v)
theorem CellAt.keeps {h h' : Heap} {c : Addr} {v : Value} (x : CellAt h c v) (k : ∀ o, h.get? c = some o → h'.get? c = some o) : CellAt h' c v := let ⟨o, e, d⟩ := x; ⟨o, k _ e, d⟩
section
variable {M : Model} {A : Around} {E : Value → Shared → Prop} {s : Shared} {h₀ : Heap} {L a : Addr} {m : Str → Option Value} {cn : Str} {cs : Scope} {ccd : Value} {cl : List (Str × Addr)}
  {x : Str} {pos : Pos} {v : Value} {Q : Value → Shared → Prop} {c : Addr}
theorem nameFC (F : Fr h₀ L s.heap m) (hc : cl.lookup x = some c) (ho : CellAt h₀ c v) (h : Q v s)
    (hk : cs.kind = .function := by rfl) (hx : (envX cn cs L a ccd cl).kindOf x = some .free := by rfl) (hb : (x == ("__debug__" : Str)) = false := by decide) (hn : (x == ("__classdict__" : Str)) = false := by decide) :
    wpAny M A (eval (.Name x pos) (envX cn cs L a ccd cl)) Q E s := let ⟨_, e, d⟩ := ho; nameF F hc e d h hk hx hb hn
end
end Mine
namespace Mine
theorem fnAt_of {g h : Heap} {L f : Addr} {m : Str → Option Value} (F : Fr g L h m) (X : FnAt f g) : FnAt f h := let ⟨oc, od, fd, sl, e⟩ := X; ⟨oc, od, fd, sl, F.keep _ _ e⟩
end Mine
end

section
open PySem PySem.W PyProof.Rows PySem.Spec PySem.Calls
set_option Elab.async false
set_option maxRecDepth 100000
set_option maxHeartbeats 800000
namespace Mine
abbrev q91 : Str := Str.ofString "_int2digits.<locals>.inner"
abbrev p91 : Pos := ⟨101, 4, 110, 28⟩
abbrev q98 : Str := Str.ofString "_digits2int.<locals>.inner"
abbrev p98 : Pos := ⟨116, 4, 121, 55⟩

theorem tab_news {g h h' : Heap} {L P : Addr} {m : Str → Option Value} {q : Str} {pos : Pos} {news tb tb' : List (Addr × Obj)} (F : Fr g L h m) (N : News g L h news) (hs : ∀ p ∈ tb, p ∈ news) (hT : TabLed P q pos tb) (hx : TabNext P q pos h h' tb tb') : News g L h' tb' := by
  intro p hp
  refine ⟨hx.2.1 p hp, ?_⟩
  rcases hx.2.2.1 p hp with h1 | h1 | h1
  · exact (N p (hs p h1)).2
  · obtain ⟨o, ho, _⟩ := hT.has
    rw [h1]; exact (N _ (hs _ ho)).2
  · exact ⟨freshL F h1, fresh0 F h1⟩

theorem seq_apart {h : Heap} {P a : Addr} {q : Str} {pos : Pos} {tb : List (Addr × Obj)} {o : Obj} {v : Array Value} {n : Nat} (hT : TabLed P q pos tb) (hh : ∀ p ∈ tb, h.get? p.1 = some p.2) (e : h.get? a = some o) (hd : o.data = .seq v n) : a ∉ tb.map (·.1) := fun hm => by
  obtain ⟨p, hp, rfl⟩ := List.mem_map.mp hm
  obtain ⟨vs, hv⟩ := hT.fields p hp
  rw [hh p hp] at e; cases e
  rw [hd] at hv; cases hv

theorem code_ne_tab {oc : Obj} {vs ps : Array Value} {q : Str} {t : Tok} (hd : oc.data = .fields vs) (hv : vs[1]? = some (.str q t)) (e : oc = tabObj ps) (hp : ps = #[] ∨ ∃ a b c, ps = #[rawInt a, rawInt b, c]) : False := by
  rw [e] at hd
  cases hd
  rcases hp with rfl | ⟨a, b, c, rfl⟩
  · simp at hv
  · simp [rawInt] at hv

theorem tabs_apart {h : Heap} {tb1 tb2 : List (Addr × Obj)} (hT1 : TabLed 86 q91 p91 tb1) (hT2 : TabLed 93 q98 p98 tb2) (h1 : ∀ p ∈ tb1, h.get? p.1 = some p.2) (h2 : ∀ p ∈ tb2, h.get? p.1 = some p.2) : ∀ p ∈ tb1, ∀ r ∈ tb2, p.1 ≠ r.1 := by
  intro p hp r hr e
  have eo : p.2 = r.2 := by
    have := h1 p hp
    rw [e, h2 r hr] at this
    exact (Option.some.inj this).symm
  rcases hT1 with rfl | ⟨c1, oc1, vs1, u1, rfl, hd1, hv1⟩
  · rw [List.mem_singleton.mp hp] at e eo
    rcases hT2 with rfl | ⟨c2, oc2, vs2, u2, rfl, hd2, hv2⟩
    · rw [List.mem_singleton.mp hr] at e; exact absurd (show (86 : Nat) = 93 from e) (by decide)
    · rcases List.mem_cons.mp hr with rfl | hr
      · exact code_ne_tab hd2 hv2 eo.symm (.inl rfl)
      · rw [List.mem_singleton.mp hr] at e; exact absurd (show (86 : Nat) = 93 from e) (by decide)
  · rcases List.mem_cons.mp hp with rfl | hp
    · rcases hT2 with rfl | ⟨c2, oc2, vs2, u2, rfl, hd2, hv2⟩
      · rw [List.mem_singleton.mp hr] at eo
        exact code_ne_tab hd1 hv1 eo (.inl rfl)
      · rcases List.mem_cons.mp hr with rfl | hr
        · have e1 : oc1 = oc2 := eo
          rw [e1, hd2] at hd1; cases hd1
          rw [hv2] at hv1
          have := Option.some.inj hv1
          injection this with h3
          exact absurd h3 (by decide)
        · rw [List.mem_singleton.mp hr] at eo
          exact code_ne_tab hd1 hv1 eo (.inr ⟨_, _, _, rfl⟩)
    · rw [List.mem_singleton.mp hp] at e eo
      rcases hT2 with rfl | ⟨c2, oc2, vs2, u2, rfl, hd2, hv2⟩
      · rw [List.mem_singleton.mp hr] at e; exact absurd (show (86 : Nat) = 93 from e) (by decide)
      · rcases List.mem_cons.mp hr with rfl | hr
        · exact code_ne_tab hd2 hv2 eo.symm (.inr ⟨_, _, _, rfl⟩)
        · rw [List.mem_singleton.mp hr] at e; exact absurd (show (86 : Nat) = 93 from e) (by decide)
end Mine
namespace Mine
theorem led_notL {g h : Heap} {L : Addr} {news tb : List (Addr × Obj)} (N : News g L h news) (hs : ∀ p ∈ tb, p ∈ news) : L ∉ tb.map (·.1) := fun hm => by
  obtain ⟨p, hp, e⟩ := List.mem_map.mp hm
  exact (N p (hs p hp)).2.1 e
theorem led_none {g h : Heap} {L : Addr} {news tb : List (Addr × Obj)} (N : News g L h news) (hs : ∀ p ∈ tb, p ∈ news) : ∀ b ∈ tb.map (·.1), g.get? b = none := fun b hm => by
  obtain ⟨p, hp, e⟩ := List.mem_map.mp hm
  rw [← e]; exact (N p (hs p hp)).2.2
theorem led_get {g h : Heap} {L : Addr} {news tb : List (Addr × Obj)} (N : News g L h news) (hs : ∀ p ∈ tb, p ∈ news) : ∀ p ∈ tb, h.get? p.1 = some p.2 := fun p hp => (N p (hs p hp)).1
theorem not_mem_of {tb : List (Addr × Obj)} {a : Addr} (h : ∀ p ∈ tb, p.1 ≠ a) : a ∉ tb.map (·.1) := fun hm => by
  obtain ⟨p, hp, e⟩ := List.mem_map.mp hm
  exact h p hp e
theorem news_app {g h : Heap} {L : Addr} {a b : List (Addr × Obj)} (N : News g L h a) (N' : News g L h b) : News g L h (a ++ b) := fun p hp => (List.mem_append.mp hp).elim (N p) (N' p)
end Mine
namespace Mine
theorem fresh_entry {g h h0 : Heap} {L a : Addr} {m : Str → Option Value} {news : List (Addr × Obj)} {W : List Addr} (K1 : ∀ b o, b ∉ W → h0.get? b = some o → g.get? b = some o) (F : Fr g L h m) (N : News g L h news) (hW : ∀ b ∈ W, b ∈ news.map (·.1))
    (e : h.get? a = none) : h0.get? a = none := by
  cases q : h0.get? a with
  | none => rfl
  | some o =>
    by_cases hm : a ∈ W
    · obtain ⟨p, hp, rfl⟩ := List.mem_map.mp (hW a hm)
      rw [(N p hp).1] at e; cases e
    · rw [F.keep _ _ (K1 _ _ hm q)] at e; cases e
theorem TabNext.from {P : Addr} {q : Str} {pos : Pos} {g h h0 h1 h2 : Heap} {L L' : Addr} {m : Str → Option Value} {news news' tb tb' : List (Addr × Obj)} {W : List Addr} (K1 : ∀ b o, b ∉ W → h0.get? b = some o → g.get? b = some o) (F : Fr g L h m) (N : News g L h news) (hW : ∀ b ∈ W, b ∈ news.map (·.1))
    (x : TabNext P q pos h h1 tb tb') (N' : News g L' h2 news') (hs : ∀ p ∈ tb', p ∈ news') : TabNext P q pos h0 h2 tb tb' :=
  ⟨x.1, fun p hp => (N' p (hs p hp)).1, fun p hp => (x.2.2.1 p hp).imp id fun y => y.imp id fun z => fresh_entry K1 F N hW z, x.2.2.2⟩
theorem fields_ne {g h : Heap} {L a : Addr} {news tb : List (Addr × Obj)} {o : Obj} {v : Array Value} {n : Nat} (N : News g L h ((a, o) :: news)) (hd : o.data = .seq v n) (hs : ∀ p ∈ tb, p ∈ news) (hf : ∀ p ∈ tb, ∃ vf, p.2.data = .fields vf) : ∀ p ∈ tb, p.1 ≠ a := fun p hp e => by
  obtain ⟨vf, hvf⟩ := hf p hp
  have h1 := (N p (.tail _ (hs p hp))).1
  rw [e, (N _ (.head _)).1] at h1
  have e2 := congrArg Obj.data (Option.some.inj h1)
  rw [hvf, hd] at e2; cases e2
end Mine
namespace Mine
theorem ints_rev : ∀ {vs : List Value} {ns : List Int}, IntsAre vs ns → IntsAre vs.reverse ns.reverse
  | _, _, .nil => .nil
  | _, _, .cons i t h => by rw [List.reverse_cons, List.reverse_cons]; exact ksk_snoc (ints_rev h)
end Mine
end

section
open PySem PySem.W PyProof.Rows PySem.Spec PySem.Calls
set_option Elab.async false
set_option maxRecDepth 100000
set_option maxHeartbeats 800000
namespace Mine
section
variable {prog : Program} {w : World} {A : Around} {E : Value → Shared → Prop} {s : Shared} {env : Env} {g : Heap} {x : Str} {body : List Stmt} {Q : Flow → Shared → Prop}

/-- how a turn may end; fr: the iterator's own part -/
def TurnEnd (g : Heap) (L : Addr) (J : (Str → Option Value) → List (Addr × Obj) → Prop) (bad : List Addr) (fr : List (Addr × Obj)) (s : Shared) (Q : Flow → Shared → Prop) (f : Flow) (s₂ : Shared) : Prop :=
  match f with
  | .ret v => Q (.ret v) s₂
  | .brk => Q .next s₂
  | _ => ∃ h' tk m' news', s₂ = { s with heap := h', toks := tk } ∧ Fr g L h' m' ∧ News g L h' (news' ++ fr) ∧ (∀ p ∈ news', p.1 ∉ bad) ∧ J m' news'

theorem for_go {I : Addr} {fp wr : List Addr} {n : Nat} {P : Nat → Value → Prop} {St : Nat → Heap → Prop} {m : Str → Option Value} {news : List (Addr × Obj)} (J : Nat → (Str → Option Value) → List (Addr × Obj) → Prop)
    (W : Walks prog w A I fp wr n P St) (hLf : env.locals ∉ fp) (hg : ∀ b ∈ wr, g.get? b = none) (F : Fr g env.locals s.heap m) (N : News g env.locals s.heap news) (hst : St 0 s.heap) (hnw : ∀ p ∈ news, p.1 ∉ wr) (hJ : J 0 m news)
    (turn : ∀ i v m₁ news₁ h tk own, i < n → P i v → J i m₁ news₁ → (∀ p ∈ news₁, p.1 ∉ wr) → St (i + 1) h → (∀ p ∈ own, p.1 ∈ fp) → (∀ b ∈ fp, g.get? b = none → ∀ o, h.get? b = some o → (b, o) ∈ own) →
      Fr g env.locals h (fun y => if y = x then some v else m₁ y) → News g env.locals h (news₁ ++ own) →
      wpAny (model prog w) A (execs body env) (TurnEnd g env.locals (J (i + 1)) wr own { s with heap := h, toks := tk } Q) E { s with heap := h, toks := tk })
    (done : ∀ m₁ news₁ h tk, J n m₁ news₁ → (∀ p ∈ news₁, p.1 ∉ wr) → Fr g env.locals h m₁ → News g env.locals h news₁ → Q .next { s with heap := h, toks := tk }) :
    LoopAtV prog w A g env x body Q E (.ref I) s := by
  refine ⟨I, fp, wr, n, P, St, m, news, J, rfl, W, hLf, hg, hnw, hst, F, N, hJ, ?_, fun h' tk m' news' F' N' hn' hj' => done m' news' h' tk hj' hn' F' N'⟩
  rintro i v m₁ news₁ _ own ⟨h, tk, rfl⟩ hi hP hj hn hown _ hall hst' F' N'
  refine wpAny_mono (turn i v m₁ news₁ h tk own hi hP hj hn hst' hown hall F' (fun p hp => N' p (by simp only [List.mem_append] at hp ⊢; exact hp.symm))) (fun f s₂ q => ?_) fun _ _ e => e
  have fin : (∃ h' tk' m' news', s₂ = { ({ s with heap := h, toks := tk } : Shared) with heap := h', toks := tk' } ∧ Fr g env.locals h' m' ∧ News g env.locals h' (news' ++ own) ∧ (∀ p ∈ news', p.1 ∉ wr) ∧ J (i + 1) m' news') →
      LoopStepU g env.locals wr own (J (i + 1)) { s with heap := h, toks := tk } .next s₂ := by
    rintro ⟨h', tk', m', news', e, F', N', hn', hj'⟩
    exact ⟨rfl, h', tk', m', news', e, F', fun p hp => N' p (by simp only [List.mem_append] at hp ⊢; exact hp.symm), hn', hj'⟩
  cases f with
  | ret v => exact .ret q
  | brk => exact .brk q
  | next => exact .next (fin q)
  | cont => exact .cont (fin q)
end
end Mine
namespace Mine
theorem fr_turn {g h : Heap} {L : Addr} {x : Str} {v : Value} {m : Str → Option Value} (F : Fr g L h (fun y => if y = x then some v else m y)) (ps : List (Str × Value)) (hk : ∀ p ∈ ps, m p.1 = some p.2) : Fr g L h (bnd m ((x, v) :: ps)) := by
  have e : bnd m ((x, v) :: ps) = fun y => if y = x then some v else m y := by
    funext y
    show (if y = x then some v else bnd m ps y) = _
    rw [bnd_eq hk]
  rw [e]; exact F
end Mine
end

section
open PySem PySem.W PyProof.Rows PySem.Spec PySem.Calls
set_option Elab.async false
set_option maxRecDepth 100000
set_option maxHeartbeats 8000000
set_option pp.deepTerms false
set_option pp.deepTerms.threshold 3
set_option pp.maxSteps 6000
namespace Mine
local macro_rules | `(tactic| walk_at "binaryOp LShift int int") => `(tactic| refine Stop.go ?_)
local macro_rules | `(tactic| walk_at "binaryOp Mult int int") => `(tactic| refine Stop.go ?_)
local macro_rules | `(tactic| walk_at "call ref") => `(tactic| refine Stop.go ?_)
local macro_rules | `(tactic| walk_at "exec While Compare cons nil") => `(tactic| refine Stop.go ?_)


theorem div3 {w : World} {loose : List Str} {mean : ExcName → Option Value} {mg mb : Str → Option Value} {a12 a3 b b1 b2 : Int} {n : Nat} {t1 t2 t3 t4 t5 t6 : Tok} {d u : Nat} (hd1 : 10 ≤ d) (hu1 : 80 ≤ u)
    (hn : n ≤ 4194304) (h1 : 0 ≤ b1) (h2 : 0 ≤ b2) (h3 : b2 < 2 ^ n) (h1' : b1 < 2 ^ n) (hb : b = b1 * 2 ^ n + b2) (ha0 : 0 ≤ a12) (ha : a12 < b) (h30 : 0 ≤ a3) (h31 : a3 < 2 ^ n)
    (IH : ∀ t1 t4 t6, a12 < b1 * 2 ^ n → Meets w loose mean mg mb 77 [.int a12 t1, .int b1 t4, .int n t6] (d - 1) (u - 3) [] (fun _ => True) (fun h v h' => PairN h v h' (a12 / b1) (a12 % b1))) :
    Meets w loose mean mg mb 84 [.int a12 t1, .int a3 t2, .int b t3, .int b1 t4, .int b2 t5, .int n t6] d u [] (fun _ => True) (fun h v h' => PairN h v h' ((a12 * 2 ^ n + a3) / b) ((a12 * 2 ^ n + a3) % b)) := by
  have Z : (hd.heap_39 w.params).In { objs := #[] } → Challenge.rw_mq0294_01.foot = 11 → True := fun _ _ => trivial
  revert Z; k_fill; intro _
  have hB := pow_pos2 n
  have hb1 := bits_lt h1 h1'
  have hb2 := bits_lt h2 h3
  refine enter (binds := [("a12", .int a12 t1), ("a3", .int a3 t2), ("b", .int b t3), ("b1", .int b1 t4), ("b2", .int b2 t5), ("n", .int n t6)]) [] (by k_is) (by k_is) (fun s => BindsTo.of_eq rfl) (locs rfl) rfl rfl rfl (by decide) (by omega) ?_
  intro dp un gd outer s R g h₁ L tk hd hu _ G K1 K2 K3 hlt K4 F ret
  have X := G.X
  have T := G.T
  have N : News g L h₁ [] := News.nil
  (try dsimp only)
  (try k_fold)
  k_steps
  · rename_i hq
    rw [Int.toNat_natCast, fdiv_pow] at hq
    have h0 := div3_top hq hB h1
    obtain ⟨e1, l1⟩ := div3_case1 hb ha h31 hB
    have hr0 : a12 - b1 * 2 ^ n + b1 < 2 ^ (n + 1) := by
      have := Int.pow_succ 2 n
      have := Int.pow_succ (2 : Int) n
      omega
    have hrb := bits_lt h0 hr0
    have hqb : Builtin.Int.intBits (2 ^ n - 1) ≤ n := bits_lt (by omega) (by omega)
    refine shl (by have : Builtin.Int.intBits 1 = 1 := by decide
                   omega) ?_
    k_steps
    refine shl (by omega) ?_
    k_steps
    refine shl (by omega) ?_
    k_steps
    refine mul_int ?_ (IntMulOk.of_le (by rw [Int.one_mul]; exact hqb) hb2 (by omega))
    rw [or_low h0 h30 h31, Int.one_mul]
    k_steps
    (rename Fr _ _ _ _ => F3); (rename News _ _ _ _ => N3)
    refine While_inv2 (fun k m _ => ∃ q r tq tr, m "q" = some (.int q tq) ∧ m "r" = some (.int r tr) ∧ m "b" = some (.int b t3) ∧ q * b + r = a12 * 2 ^ n + a3 ∧ r < b ∧ k = (-r).toNat) F3 N3
      ⟨_, _, _, _, rfl, rfl, rfl, by rw [Int.one_mul]; exact e1, l1, rfl⟩ ?_ (fun _ _ h => h.elim)
    rintro k m₁ news₁ h₁ tk₁ F₁ N₁ ⟨q, r, tq, tr, m1, m2, m3, e3, l3, hk⟩
    have F₂ := fr_known F₁ [("q", .int q tq), ("r", .int r tr), ("b", .int b t3)] (by simp [m1, m2, m3])
    clear F₁ F3 N3 m1 m2 m3
    k_steps
    · (rename Fr _ _ _ _ => F4); (rename News _ _ _ _ => N4)
      refine ⟨_, _, _, _, _, rfl, F4, N4, ?_, q - 1, r + b, _, _, rfl, rfl, rfl, ?_, ?_, rfl⟩
      · omega
      · have : (q - 1) * b = q * b - b := by grind
        omega
      · omega
    · (rename Fr _ _ _ _ => F4); (rename News _ _ _ _ => N4)
      obtain ⟨p1, p2⟩ := div_of e3 (by omega) l3
      exact ret _ _ _ F4.keep ⟨_, _, _, rfl, by rw [p1, p2]; exact (N4 _ (.head _)).1, fresh_of K1 (fun q => nomatch q) (N4 _ (.head _)).2.2⟩
  · rename_i hq
    rw [Int.toNat_natCast, fdiv_pow] at hq
    have hlt2 := div3_lt hb h3 ha hq hB
    refine use (IH _ _ _ hlt2) (by omega) (by omega) G F N (fun _ q => nomatch q) trivial ?_
    rintro _ h2' tk2 x2 ⟨q1, tq, tr, rfl, e2, n2⟩
    have F2 := fr_ext0 F x2
    have N2 := news_new0 N F x2 e2 n2
    have hb0 : 0 < b1 := by
      rcases Int.lt_or_eq_of_le h1 with h | h
      · exact h
      · rw [← h] at hlt2; omega
    have h0 := Int.emod_nonneg a12 (Int.ne_of_gt hb0)
    have hr1 := Int.emod_lt_of_pos a12 hb0
    have hq0 : 0 ≤ a12 / b1 := Int.ediv_nonneg ha0 h1
    have hq1 : a12 / b1 < 2 ^ n := Int.ediv_lt_of_lt_mul hb0 (by rw [Int.mul_comm]; exact hlt2)
    have hdm : a12 / b1 * b1 + a12 % b1 = a12 := by rw [Int.mul_comm]; exact Int.mul_ediv_add_emod a12 b1
    obtain ⟨e1, l1⟩ := div3_case2 (a12 := a12) (q := a12 / b1) (r := a12 % b1) hb h2 h31 hB hdm hr1 hq0
    have hrb := bits_lt h0 (Int.lt_trans hr1 h1')
    have hqb := bits_lt hq0 hq1
    k_steps
    refine shl (by omega) ?_
    k_steps
    refine mul_int ?_ (IntMulOk.of_le hqb hb2 (by omega))
    rw [or_low h0 h30 h31]
    k_steps
    (rename Fr _ _ _ _ => F3); (rename News _ _ _ _ => N3)
    refine While_inv2 (fun k m _ => ∃ q r tq tr, m "q" = some (.int q tq) ∧ m "r" = some (.int r tr) ∧ m "b" = some (.int b t3) ∧ q * b + r = a12 * 2 ^ n + a3 ∧ r < b ∧ k = (-r).toNat) F3 N3
      ⟨_, _, _, _, rfl, rfl, rfl, e1, l1, rfl⟩ ?_ (fun _ _ h => h.elim)
    rintro k m₁ news₁ h₁ tk₁ F₁ N₁ ⟨q, r, tq, tr, m1, m2, m3, e3, l3, hk⟩
    have F₂ := fr_known F₁ [("q", .int q tq), ("r", .int r tr), ("b", .int b t3)] (by simp [m1, m2, m3])
    clear F₁ F3 N3 m1 m2 m3
    k_steps
    · (rename Fr _ _ _ _ => F4); (rename News _ _ _ _ => N4)
      refine ⟨_, _, _, _, _, rfl, F4, N4, ?_, q - 1, r + b, _, _, rfl, rfl, rfl, ?_, ?_, rfl⟩
      · omega
      · have : (q - 1) * b = q * b - b := by grind
        omega
      · omega
    · (rename Fr _ _ _ _ => F4); (rename News _ _ _ _ => N4)
      obtain ⟨p1, p2⟩ := div_of e3 (by omega) l3
      exact ret _ _ _ F4.keep ⟨_, _, _, rfl, by rw [p1, p2]; exact (N4 _ (.head _)).1, fresh_of K1 (fun q => nomatch q) (N4 _ (.head _)).2.2⟩
end Mine
end

section
open PySem PySem.W PyProof.Rows PySem.Spec PySem.Calls
set_option Elab.async false
set_option maxRecDepth 100000
set_option maxHeartbeats 8000000
set_option pp.deepTerms false
set_option pp.deepTerms.threshold 3
set_option pp.maxSteps 6000
namespace Mine
local macro_rules | `(tactic| walk_at "binaryOp LShift int int") => `(tactic| refine Stop.go ?_)
local macro_rules | `(tactic| walk_at "inplaceOp LShift int int") => `(tactic| refine Stop.go ?_)
local macro_rules | `(tactic| walk_at "binaryOp Mult int int") => `(tactic| refine Stop.go ?_)
local macro_rules | `(tactic| walk_at "call ref") => `(tactic| refine Stop.go ?_)
local macro_rules | `(tactic| walk_at "call builtin:divmod") => `(tactic| refine Stop.go ?_)


theorem div2 {w : World} {loose : List Str} {mean : ExcName → Option Value} {mg mb : Str → Option Value} : ∀ (k : Nat) {a b : Int} {n : Nat} {t1 t2 t3 : Tok}, n ≤ 4000 * 2 ^ k → n ≤ 4000000 → 0 < b → b < 2 ^ n → 0 ≤ a → a < b * 2 ^ n →
    Meets w loose mean mg mb 77 [.int a t1, .int b t2, .int n t3] (2 * k + 130) (6 * k + 90) [] (fun _ => True) (fun h v h' => PairN h v h' (a / b) (a % b)) := by
  intro k
  induction k using Nat.strongRecOn with
  | _ k ih =>
  intro a b n t1 t2 t3 hk hn hb0 hb1 ha0 ha1
  have Z : (hd.heap_39 w.params).In { objs := #[] } → Challenge.rw_mq0294_01.foot = 11 → True := fun _ _ => trivial
  revert Z; k_fill; intro _
  refine enter (binds := [("a", .int a t1), ("b", .int b t2), ("n", .int n t3)]) [] (by k_is) (by k_is) (fun s => BindsTo.of_eq rfl) (locs rfl) rfl rfl rfl (by decide) (by omega) ?_
  intro dp un gd outer s R g h₁ L tk hd hu _ G K1 K2 K3 hlt K4 F ret
  have X := G.X
  have T := G.T
  have N : News g L h₁ [] := News.nil
  (try dsimp only)
  (try k_fold)
  have nonzero : ¬ ((Builtin.Int.intBits a : Int) - (n : Int) ≤ 4000) → ∃ k', k = k' + 1 := by
    intro hx
    cases k with
    | succ k' => exact ⟨k', rfl⟩
    | zero =>
      have : Builtin.Int.intBits a ≤ n + n := bits_lt ha0 (by
        have := Int.mul_lt_mul_of_pos_right hb1 (pow_pos2 n)
        rw [← Int.pow_add] at this; omega)
      omega
  k_steps
  · refine divmod_N F N (Int.ne_of_gt hb0) ?_ (Or.inr (room_of G F (by omega) rfl rfl rfl rfl))
    intro h2 F2 N2
    exact ret _ _ _ F2.keep ⟨_, _, _, rfl, by rw [← Int.fdiv_eq_ediv_of_nonneg _ (Int.le_of_lt hb0), ← Int.fmod_eq_emod_of_nonneg _ (Int.le_of_lt hb0)]; exact (N2 _ (.head _)).1, fresh_of K1 (fun q => nomatch q) (N2 _ (.head _)).2.2⟩
  · rename_i hne _ _ _ _ hq
    obtain ⟨k, rfl⟩ := nonzero hne
    obtain ⟨he, hn2⟩ := half_odd hq
    have hba : Builtin.Int.intBits a ≤ n + n := bits_lt ha0 (by
        have := Int.mul_lt_mul_of_pos_right hb1 (pow_pos2 n)
        rw [← Int.pow_add] at this; omega)
    have hbb : Builtin.Int.intBits b ≤ n := bits_lt (Int.le_of_lt hb0) hb1
    refine ishl (k := 1) (by omega) ?_
    k_steps
    refine ishl (k := 1) (by omega) ?_
    k_steps
    (rename Fr _ _ _ _ => F3); (rename News _ _ _ _ => N3)
    obtain ⟨hf, hhf⟩ : ∃ hf, (n + 1) / 2 = hf := ⟨_, rfl⟩
    rw [hhf] at he hn2
    rw [he] at F3 ⊢
    rw [show ((n : Int) + 1) = ((n + 1 : Nat) : Int) from rfl] at F3
    rw [hn2] at F3
    rw [show (2 : Int) ^ 1 = 2 from rfl] at F3 
    have hpn : (2 : Int) ^ (n + 1) = 2 ^ n * 2 := Int.pow_succ 2 n
    have hBB : (2 : Int) ^ (2 * hf) = 2 ^ hf * 2 ^ hf := by rw [← Int.pow_add]; congr 1; omega
    rw [← hn2] at hBB
    rw [hpn] at hBB
    have hb0' : 0 < b * 2 := by omega
    have hb1' : b * 2 < 2 ^ hf * 2 ^ hf := by rw [← hBB]; omega
    have ha0' : 0 ≤ a * 2 := by omega
    have ha1' : a * 2 < b * 2 * (2 ^ hf * 2 ^ hf) := by
      rw [← hBB]
      have h1 : b * 2 * (2 ^ n * 2) = 4 * (b * 2 ^ n) := by grind
      omega
    have hBB2 : (2 : Int) ^ (2 * hf) = 2 ^ hf * 2 ^ hf := by rw [← hn2, hpn, hBB]
    have hkk : hf ≤ 4000 * 2 ^ k := by rw [Nat.pow_succ] at hk; omega
    have hf4 : hf ≤ 4000000 := by omega
    have hB := pow_pos2 hf
    generalize hea : a * 2 = a' at *
    generalize heb : b * 2 = b' at *
    refine shl (by have : Builtin.Int.intBits 1 = 1 := by decide
                   omega) ?_
    rw [Int.one_mul]
    k_steps
    (rename Fr _ _ _ _ => F4); (rename News _ _ _ _ => N4)
    simp only [Int.toNat_natCast, fdiv_pow, kbt_mask] at F4 ⊢
    simp only [hBB2] at ⊢
    have hBn := Int.ne_of_gt hB
    have hm0 := Int.emod_nonneg b' hBn
    have hm1 := Int.emod_lt_of_pos b' hB
    have hdv0 : 0 ≤ b' / 2 ^ hf := Int.ediv_nonneg (Int.le_of_lt hb0') (Int.le_of_lt hB)
    have hdv1 : b' / 2 ^ hf < 2 ^ hf := hi_lt hB hb1'
    have hbe : b' = b' / 2 ^ hf * 2 ^ hf + b' % 2 ^ hf := by rw [Int.mul_comm]; exact (Int.mul_ediv_add_emod b' _).symm
    have hBB0 : (0 : Int) < 2 ^ hf * 2 ^ hf := Int.mul_pos hB hB
    have sub : ∀ (x : Int) t1 t4 t6, 0 ≤ x → x < b' / 2 ^ hf * 2 ^ hf → Meets w loose mean mg mb 77 [.int x t1, .int (b' / 2 ^ hf) t4, .int hf t6] (2 * k + 131 - 1) (6 * k + 93 - 3) [] (fun _ => True) (fun h v h' => PairN h v h' (x / (b' / 2 ^ hf)) (x % (b' / 2 ^ hf))) := by
      intro x u1 u2 u3 hx hx2
      refine ih k (by omega) hkk hf4 ?_ hdv1 hx hx2
      rcases Int.lt_or_eq_of_le hdv0 with h | h
      · exact h
      · rw [← h] at hx2; omega
    refine use (div3 (d := 2 * k + 131) (u := 6 * k + 93) (by omega) (by omega) (by omega) hdv0 hm0 hm1 hdv1 hbe (Int.ediv_nonneg ha0' (Int.le_of_lt hBB0)) (hi_lt hBB0 ha1') (Int.emod_nonneg _ hBn) (Int.emod_lt_of_pos _ hB)
      (fun u1 u2 u3 => sub _ u1 u2 u3 (Int.ediv_nonneg ha0' (Int.le_of_lt hBB0)))) (by omega) (by omega) G F4 N4 (fun _ q => nomatch q) trivial ?_
    rintro _ h5 tk5 x5 ⟨p5, tq5, tr5, rfl, e5, n5⟩
    have F5 := fr_ext0 F4 x5
    have N5 := news_new0 N4 F4 x5 e5 n5
    clear F4 N4 e5 n5 x5
    obtain ⟨z1, z2, z3, z4, z5, z6, z7, z8, z9⟩ := div2_end (a := a') hB hb0' rfl rfl rfl rfl ha0' ha1'
    k_steps
    (rename Fr _ _ _ _ => F4); (rename News _ _ _ _ => N4)
    simp only [kbt_mask] at F4 ⊢
    refine use (div3 (d := 2 * k + 131) (u := 6 * k + 93) (by omega) (by omega) (by omega) hdv0 hm0 hm1 hdv1 hbe z6 z7 (Int.emod_nonneg _ hBn) (Int.emod_lt_of_pos _ hB)
      (fun u1 u2 u3 => sub _ u1 u2 u3 z6)) (by omega) (by omega) G F4 N4 (fun _ q => nomatch q) trivial ?_
    rintro _ h6 tk6 x6 ⟨p6, tq6, tr6, rfl, e6, n6⟩
    have F6 := fr_ext0 F4 x6
    have N6 := news_new0 N4 F4 x6 e6 n6
    clear F4 N4 e6 n6 x6
    k_steps
    · refine shl (by have := bits_lt z8 z9; omega) ?_
      k_steps
      (rename Fr _ _ _ _ => F7); (rename News _ _ _ _ => N7)
      rw [or_low z8 z4 z5, show Int.toNat 1 = 1 from rfl, fdiv_pow, show (2 : Int) ^ 1 = 2 from rfl] at N7
      rw [← heb, Int.mul_comm b 2, ← hea, Int.mul_comm a 2] at z1
      rw [← heb, Int.mul_comm b 2, ← hea, Int.mul_comm a 2] at z2
      rw [← heb, Int.mul_comm b 2, ← hea, Int.mul_comm a 2] at z3
      obtain ⟨w1, w2⟩ := pad_end hb0 z1 z2 z3
      rw [← hea, Int.mul_comm a 2, ← heb, Int.mul_comm b 2, ← w1, ← w2] at N7
      exact ret _ _ _ F7.keep ⟨_, _, _, rfl, (N7 _ (.head _)).1, fresh_of K1 (fun q => nomatch q) (N7 _ (.head _)).2.2⟩
    · exact absurd ‹_› hq
  · rename_i hne _ _ hq _ _ _
    obtain ⟨k, rfl⟩ := nonzero hne
    obtain ⟨he, hn2⟩ := half_even hq
    (rename Fr _ _ _ _ => F3); (rename News _ _ _ _ => N3)
    rw [he] at F3 ⊢
    generalize n / 2 = hf at *
    subst hn2
    have hB := pow_pos2 hf
    have hBB : (2 : Int) ^ (2 * hf) = 2 ^ hf * 2 ^ hf := by rw [← Int.pow_add]; congr 1; omega
    rw [hBB] at hb1 ha1
    refine shl (by have : Builtin.Int.intBits 1 = 1 := by decide
                   omega) ?_
    rw [Int.one_mul]
    k_steps
    (rename Fr _ _ _ _ => F4); (rename News _ _ _ _ => N4)
    simp only [Int.toNat_natCast, fdiv_pow, kbt_mask] at F4 ⊢
    simp only [hBB] at ⊢
    have hBn := Int.ne_of_gt hB
    have hm0 := Int.emod_nonneg b hBn
    have hm1 := Int.emod_lt_of_pos b hB
    have hdv0 : 0 ≤ b / 2 ^ hf := Int.ediv_nonneg (Int.le_of_lt hb0) (Int.le_of_lt hB)
    have hdv1 : b / 2 ^ hf < 2 ^ hf := hi_lt hB hb1
    have hbe : b = b / 2 ^ hf * 2 ^ hf + b % 2 ^ hf := by rw [Int.mul_comm]; exact (Int.mul_ediv_add_emod b _).symm
    have hBB0 : (0 : Int) < 2 ^ hf * 2 ^ hf := Int.mul_pos hB hB
    have sub : ∀ (x : Int) t1 t4 t6, 0 ≤ x → x < b / 2 ^ hf * 2 ^ hf → Meets w loose mean mg mb 77 [.int x t1, .int (b / 2 ^ hf) t4, .int hf t6] (2 * k + 131 - 1) (6 * k + 93 - 3) [] (fun _ => True) (fun h v h' => PairN h v h' (x / (b / 2 ^ hf)) (x % (b / 2 ^ hf))) := by
      intro x u1 u2 u3 hx hx2
      refine ih k (by omega) (by rw [Nat.pow_succ] at hk; omega) (by omega) ?_ hdv1 hx hx2
      rcases Int.lt_or_eq_of_le hdv0 with h | h
      · exact h
      · rw [← h] at hx2; omega
    refine use (div3 (d := 2 * k + 131) (u := 6 * k + 93) (by omega) (by omega) (by omega) hdv0 hm0 hm1 hdv1 hbe (Int.ediv_nonneg ha0 (Int.le_of_lt hBB0)) (hi_lt hBB0 ha1) (Int.emod_nonneg _ hBn) (Int.emod_lt_of_pos _ hB)
      (fun u1 u2 u3 => sub _ u1 u2 u3 (Int.ediv_nonneg ha0 (Int.le_of_lt hBB0)))) (by omega) (by omega) G F4 N4 (fun _ q => nomatch q) trivial ?_
    rintro _ h5 tk5 x5 ⟨p5, tq5, tr5, rfl, e5, n5⟩
    have F5 := fr_ext0 F4 x5
    have N5 := news_new0 N4 F4 x5 e5 n5
    clear F4 N4 e5 n5 x5
    obtain ⟨z1, z2, z3, z4, z5, z6, z7, z8, z9⟩ := div2_end (a := a) hB hb0 rfl rfl rfl rfl ha0 ha1
    k_steps
    (rename Fr _ _ _ _ => F4); (rename News _ _ _ _ => N4)
    simp only [kbt_mask] at F4 ⊢
    refine use (div3 (d := 2 * k + 131) (u := 6 * k + 93) (by omega) (by omega) (by omega) hdv0 hm0 hm1 hdv1 hbe z6 z7 (Int.emod_nonneg _ hBn) (Int.emod_lt_of_pos _ hB)
      (fun u1 u2 u3 => sub _ u1 u2 u3 z6)) (by omega) (by omega) G F4 N4 (fun _ q => nomatch q) trivial ?_
    rintro _ h6 tk6 x6 ⟨p6, tq6, tr6, rfl, e6, n6⟩
    have F6 := fr_ext0 F4 x6
    have N6 := news_new0 N4 F4 x6 e6 n6
    clear F4 N4 e6 n6 x6
    k_steps
    · exact absurd hq ‹_›
    · refine shl (by have := bits_lt z8 z9; omega) ?_
      k_steps
      (rename Fr _ _ _ _ => F7); (rename News _ _ _ _ => N7)
      rw [or_low z8 z4 z5] at N7
      obtain ⟨w1, w2⟩ := div_of z1 z2 z3
      exact ret _ _ _ F7.keep ⟨_, _, _, rfl, by rw [w1, w2]; exact (N7 _ (.head _)).1, fresh_of K1 (fun q => nomatch q) (N7 _ (.head _)).2.2⟩
end Mine
end

section
open PySem PySem.W PyProof.Rows PySem.Spec PySem.Calls
set_option Elab.async false
set_option maxRecDepth 100000
set_option maxHeartbeats 800000
set_option pp.deepTerms false
set_option pp.deepTerms.threshold 3
set_option pp.maxSteps 6000
namespace Mine
local macro_rules | `(tactic| walk_at "binaryOp LShift int int") => `(tactic| refine Stop.go ?_)
local macro_rules | `(tactic| walk_at "binaryOp Mult ref int") => `(tactic| refine Stop.go ?_)
local macro_rules | `(tactic| walk_at "call ref") => `(tactic| refine Stop.go ?_)
local macro_rules | `(tactic| walk_at "binaryOp FloorDiv int int") => `(tactic| refine Stop.go ?_)
local macro_rules | `(tactic| walk_at "binaryOp RShift int int") => `(tactic| refine Stop.go ?_)
local macro_rules | `(tactic| walk_at "callWith ref") => `(tactic| (k_dflt (refine' callWith_F ?X ?_; (case X => exact fnAt_of (by assumption) (by assumption)); k_whole)))
local macro_rules | `(tactic| walk_at "And") => `(tactic| ((with_reducible show FnAt _ _ ∧ _); k_dflt (refine ⟨fnAt_of (by assumption) (by assumption), ?_⟩); try dsimp only [List.nil_append, List.cons_append]))
local macro_rules | `(tactic| walk_at "setItem ref int") => `(tactic| refine Stop.go ?_)
local macro_rules | `(tactic| walk_at "eval Name") => `(tactic| (kc_free; k_dflt (refine' nameFC ?F ?c ?o ?_ ?hk ?hx ?hb ?hn; (case hx => rfl); (case hk => rfl); (case hb => decide); (case hn => decide); (case F => assumption); (case c => rfl); (case o => assumption); k_whole)))
local macro_rules | `(tactic| walk_at "exec FunctionDef") => `(tactic| refine Stop.go ?_)


theorem int2digits {w : World} {loose : List Str} {mean : ExcName → Option Value} {mg mb : Str → Option Value} {a : Int} {n : Nat} {t1 t2 : Tok} {tb : List (Addr × Obj)} (ha : 0 ≤ a) (hn : 0 < n) (hab : Builtin.Int.intBits a ≤ 4000000) (hn2 : n ≤ 4000000)
    (hT : TabLed 86 q91 p91 tb) :
    Meets w loose mean mg mb 91 [.int a t1, .int n t2] 200 200 (tb.map (·.1)) (fun h => ∀ p ∈ tb, h.get? p.1 = some p.2)
      (fun h v h' => ∃ D cn tb', v = .ref D ∧ h.get? D = none ∧ LInts h' D (digs n a cn) ∧ a < 2 ^ (n * cn) ∧ cn ≤ 4000000 ∧ n * cn ≤ 8000000 ∧ TabNext 86 q91 p91 h h' tb tb') := by
  have Z : (hd.heap_39 w.params).In { objs := #[] } → Challenge.rw_mq0294_01.foot = 11 → True := fun _ _ => trivial
  revert Z; k_fill; intro _
  refine enterC (f := 91) (args := [.int a t1, .int n t2]) (d := 200) (u := 200) (binds := [("a", .int a t1), ("n", .int n t2)]) (tb.map (·.1)) (by k_is) (by k_is) rfl rfl (by decide +kernel) rfl rfl rfl (by omega) ?_
  intro dp un gd outer s R g h₁ L tk cells hd hu hpre G K1 K2 K3 hlt K4 F N0 Y ret
  have X := G.X
  have T := G.T
  k_cells Y
  rename_i o1 o2 o3 d1 d2 d3
  replace d1 : o1.data = .cell none := d1
  replace d2 : o2.data = .cell none := d2
  replace d3 : o3.data = .cell (some (.int n t2)) := d3
  have N : News g L h₁ ([(L + 1 + 1 + 1, o1), (L + 1 + 1, o2), (L + 1, o3)] ++ tb) := by
    intro p hp
    rcases List.mem_append.mp hp with hp | hp
    · exact N0 p hp
    · exact ⟨K4 _ _ (hpre p hp), Nat.ne_of_lt (hlt _ _ (hpre p hp)), K3 _ (List.mem_map_of_mem hp)⟩
  clear N0
  simp only [List.cons_append, List.nil_append] at N
  (try dsimp only)
  (try k_fold)
  k_steps
  (rename Fr _ _ _ _ => F1); (rename News _ _ _ _ => N1)
  refine floordiv_int (by omega) ?_ (Or.inr (room_of G F1 (by rw [recLim] at *; omega) rfl rfl rfl rfl))
  have hc : ((Builtin.Int.intBits a : Int) + n - 1).fdiv n = (((Builtin.Int.intBits a + n - 1) / n : Nat) : Int) := by
    rw [Int.fdiv_eq_ediv_of_nonneg _ (by omega)]
    have : (Builtin.Int.intBits a : Int) + n - 1 = ((Builtin.Int.intBits a + n - 1 : Nat) : Int) := by omega
    rw [this, Int.natCast_ediv]
  rw [hc]
  have hcl : (Builtin.Int.intBits a + n - 1) / n ≤ 4000000 := by
    rw [Nat.div_le_iff_le_mul_add_pred hn]
    have := Nat.le_mul_of_pos_left 4000000 hn
    omega
  have hcb : Builtin.Int.intBits a ≤ n * ((Builtin.Int.intBits a + n - 1) / n) := by
    have h1 := Nat.div_add_mod (Builtin.Int.intBits a + n - 1) n
    have h2 := Nat.mod_lt (Builtin.Int.intBits a + n - 1) hn
    omega
  have hnc : n * ((Builtin.Int.intBits a + n - 1) / n) ≤ 8000000 := by
    have h1 := Nat.div_add_mod (Builtin.Int.intBits a + n - 1) n
    omega
  have hc0 : a = 0 → (Builtin.Int.intBits a + n - 1) / n = 0 := by
    rintro rfl
    rw [show Builtin.Int.intBits 0 = 0 from rfl]
    exact Nat.div_eq_of_lt (by omega)
  have hc1 : a ≠ 0 → 0 < (Builtin.Int.intBits a + n - 1) / n := by
    intro h
    have := (bits_pow_le (x := a) (by omega)).2
    exact Nat.div_pos (by omega) hn
  have hac : a < 2 ^ (n * ((Builtin.Int.intBits a + n - 1) / n)) :=
    Int.lt_of_lt_of_le (lt_bits ha) (by rw [← cast_pow2, ← cast_pow2]; exact Int.ofNat_le.mpr (Nat.pow_le_pow_right (by decide) hcb))
  generalize (Builtin.Int.intBits a + n - 1) / n = cn at *
  refine KM.mul F1 N1 ((N1 _ (.head _)).1 |> fun e => ⟨_, e, rfl, _, rfl⟩) (.cons 0 _ .nil) (by omega) (by omega) (by simp; omega) ?_
  intro D h2 F2 N2 hlt2 hI NN _ hlen _ hpos
  have hNN := hpos (by omega)
  simp only [List.length_cons, List.length_nil] at hNN
  generalize (List.replicate (cn : Int).toNat [Value.int 0 _]).flatten = vs0 at *
  generalize (List.replicate (cn : Int).toNat [(0 : Int)]).flatten = ds0 at *
  have eNN : cn = NN := by omega
  subst eNN
  have hds0 : ds0.length = cn := by omega
  k_lt hlt2
  k_steps
  have htb : ∀ p ∈ tb, p.1 < L := fun p hp => hlt _ _ (hpre p hp)
  have lD : L + 1 + 1 + 1 < D := hlt2.2.1
  refine storeX_C (c := L + 1 + 1) (o := o2) (g := fun o' => (L + 1 + 1, o') :: (D, W.listOf vs0.toArray 0) :: (L + 1 + 1 + 1, o1) :: (L + 1, o3) :: tb) F2
    (news_sub N2 (b := (L + 1 + 1, o2) :: (D, W.listOf vs0.toArray 0) :: (L + 1 + 1 + 1, o1) :: (L + 1, o3) :: tb) (by simp; intro a o h; simp [h])) rfl (UpdF.head ?_) d2 ?_
  · simp only [List.forall_mem_cons]
    exact ⟨by k_ne, by k_ne, by k_ne, fun p hp => by have := ltN (htb p hp); k_ne⟩
  clear F1 N1 F2 N2
  intro h3 o2' F3 N3 d2'
  k_steps
  refine nestDef_K rfl rfl rfl ?_
  refine nest_any (tb := tb) (xs := [(L + 1 + 1, o2'), (D, W.listOf vs0.toArray 0), (L + 1 + 1 + 1, o1), (L + 1, o3)]) (qual := q91) F3 (news_sub N3 (by intro p hp; simp only [List.mem_append, List.mem_cons, List.not_mem_nil, or_false] at hp ⊢; grind)) T G.C2 rfl hT ?_ rfl ?_
  · have h86 : ∃ o, (86, o) ∈ tb := by obtain ⟨o, ho, _⟩ := hT.has; exact ⟨o, ho⟩
    obtain ⟨o86, h86⟩ := h86
    have := ltN (htb _ h86)
    simp only [List.forall_mem_cons, List.not_mem_nil, false_implies, implies_true, and_true]
    exact ⟨by k_ne, by k_ne, by k_ne, by k_ne⟩
  intro f c' ctv doc h4 tk4 tb' F4 N4 hit hnext hincl hltf
  obtain ⟨oc, vsc, tc, rfl, hocd, hocv⟩ := hit
  clear F3 N3
  obtain ⟨fo, hfo, efo⟩ := named (N4 _ (.head _)).1
  dsimp only at hfo
  have inner : ∀ (k : Nat) (x : Int) (Lb Rb : Nat) (ds : List Int) (u1 u2 u3 : Tok), Rb - Lb ≤ 2 ^ k → Lb < Rb → Rb ≤ ds.length → ds.length ≤ cn → 0 ≤ x → x < 2 ^ (n * (Rb - Lb)) →
      Meets w loose mean mg mb f [.int x u1, .int Lb u2, .int Rb u3] (k + 3) (3 * k + 20) [D]
        (fun h => h.get? f = some fo ∧ h.CodeRec (.ref c') q91 ∧ CellAt h (L + 1 + 1 + 1) (.ref f) ∧ CellAt h (L + 1 + 1) (.ref D) ∧ CellAt h (L + 1) (.int n t2) ∧ LInts h D ds)
        (fun _ v h' => v = .none ∧ LInts h' D (ds.take Lb ++ digs n x (Rb - Lb) ++ ds.drop Rb)) := by
    clear F4 N4 hnext hltf hfo h4 tk4
    intro k
    induction k using Nat.strongRecOn with
    | _ k ih =>
    intro x Lb Rb ds u1 u2 u3 hk hLR hRd hdc hx0 hx1
    subst efo
    refine enterX (f := f) (args := [.int x u1, .int Lb u2, .int Rb u3]) (d := k + 3) (u := 3 * k + 20) (binds := [("x", .int x u1), ("L", .int Lb u2), ("R", .int Rb u3)]) [D] (fun h p => ⟨p.1, p.2.1⟩) rfl (fun s => BindsTo.of_eq rfl) (locs rfl) rfl rfl rfl (by decide) (by omega) ?_
    intro dp un gd outer s R g h₁ L' tk hd hu hpre G K1 K2 K3 hlt K4 F ret
    obtain ⟨q1, q2, q3, q4, q5, vs, c, q6, q7⟩ := hpre
    have X := G.X
    have T := G.T
    have cD : ∀ b v, CellAt s.heap b v → CellAt g b v := fun b v ⟨o, e, d⟩ => ⟨o, K1 _ _ (by intro hm; rw [List.mem_singleton.mp hm, q6] at e; cases e; cases d) e, d⟩
    replace q3 := cD _ _ q3
    replace q4 := cD _ _ q4
    replace q5 := cD _ _ q5
    have hfD : f ∉ [D] := fun hm => by rw [List.mem_singleton.mp hm, q6] at q1; have e := congrArg Obj.data (Option.some.inj q1); cases e
    have hFn : FnAt f g := ⟨_, _, _, _, K1 _ _ hfD q1⟩
    have N : News g L' h₁ [(D, W.listOf vs.toArray c)] := fun p hp => by
      rw [List.mem_singleton.mp hp]; exact ⟨K4 _ _ q6, Nat.ne_of_lt (hlt _ _ q6), K3 _ (.head _)⟩
    (try dsimp only)
    (try k_fold)
    k_steps
    · rename_i hq
      obtain rfl : Rb = Lb + 1 := by omega
      rw [Nat.add_sub_cancel_left, Nat.mul_one] at hx1
      refine ksa_set F N (Upd.head (List.forall_mem_nil _)) q7 (by omega) (by omega) (by omega) ?_
      intro h2 F2 N2 hi2 _ _
      k_steps
      refine ret _ _ _ F2.keep ⟨rfl, _, _, (N2 _ (.head _)).1, ?_⟩
      rw [Nat.add_sub_cancel_left, digs_one hx0 hx1, ← set_mid (by omega)]
      exact hi2
    · rename_i hq
      have hM : ((Lb : Int) + Rb).fdiv (2 ^ Int.toNat 1) = (((Lb + Rb) / 2 : Nat) : Int) := by
        rw [show Int.toNat 1 = 1 from rfl, fdiv_pow]; omega
      have hM1 : Lb < (Lb + Rb) / 2 := by omega
      have hM2 : (Lb + Rb) / 2 < Rb := by omega
      have hM3 : Rb ≤ (Lb + Rb) / 2 + ((Lb + Rb) / 2 - Lb) + 1 := by omega
      have hM4 : (Lb + Rb) / 2 - Lb ≤ Rb - (Lb + Rb) / 2 := by omega
      have hk1 : 1 ≤ k := by
        rcases Nat.eq_zero_or_pos k with rfl | h
        · rw [Nat.pow_zero] at hk; omega
        · exact h
      obtain ⟨k, rfl⟩ : ∃ k', k = k' + 1 := ⟨k - 1, by omega⟩
      rw [Nat.pow_succ] at hk
      refine rshift_int (by omega) ?_
      rw [hM]
      generalize (Lb + Rb) / 2 = M at *
      k_steps
      (rename Fr _ _ _ _ => F3); (rename News _ _ _ _ => N3)
      have hS : ((M : Int) - Lb) * n = ((n * (M - Lb) : Nat) : Int) := by
        rw [Int.natCast_mul, Int.mul_comm, Int.natCast_sub (by omega)]
      rw [hS] at F3 ⊢
      have hSc : n * (M - Lb) ≤ 8000000 := Nat.le_trans (Nat.mul_le_mul_left n (by omega)) hnc
      have hSR : n * (Rb - Lb) ≤ 8000000 := Nat.le_trans (Nat.mul_le_mul_left n (by omega)) hnc
      have hSs : n * (Rb - Lb) = n * (M - Lb) + n * (Rb - M) := by rw [← Nat.mul_add]; congr 1; omega
      have hdig := digs_add n (M - Lb) (Rb - M) x
      rw [show M - Lb + (Rb - M) = Rb - Lb by omega] at hdig
      rw [hSs] at hx1
      generalize hsh : n * (M - Lb) = sh at *
      refine rshift_int (by omega) ?_
      rw [Int.toNat_natCast, fdiv_pow]
      k_steps
      have hB := pow_pos2 sh
      have hup0 : 0 ≤ x / 2 ^ sh := Int.ediv_nonneg hx0 (Int.le_of_lt hB)
      have hup1 : x / 2 ^ sh < 2 ^ (n * (Rb - M)) := Int.ediv_lt_of_lt_mul hB (by rw [← Int.pow_add, Nat.add_comm]; exact hx1)
      refine shl (by have := bits_lt hup0 hup1; omega) ?_
      k_steps
      (rename Fr _ _ _ _ => F4); (rename News _ _ _ _ => N4)
      rw [xor_high hx0] at F4 ⊢
      have hlo0 : 0 ≤ x % 2 ^ sh := Int.emod_nonneg _ (Int.ne_of_gt hB)
      have hlo1 : x % 2 ^ sh < 2 ^ sh := Int.emod_lt_of_pos _ hB
      have hcr : ∀ (h : Heap), (∀ b o, g.get? b = some o → h.get? b = some o) → ∀ c v o, h.get? D = some (W.listOf (List.toArray v) c) → IntsAre v o → 
          h.get? f = some _ ∧ h.CodeRec (.ref c') q91 ∧ CellAt h (L + 1 + 1 + 1) (.ref f) ∧ CellAt h (L + 1 + 1) (.ref D) ∧ CellAt h (L + 1) (.int n t2) ∧ LInts h D o := fun h kp c v o e i =>
        ⟨kp _ _ (K1 _ _ hfD q1), by
          obtain ⟨a1, a2, a3, a4, a5, a6, a7, a8⟩ := q2
          exact ⟨a1, a2, a3, a4, a5, kp _ _ (K1 _ _ (fun hm => by rw [List.mem_singleton.mp hm, q6] at a6; have e := Option.some.inj a6; subst e; cases a7) a6), a7, a8⟩, q3.keeps (kp _), q4.keeps (kp _), q5.keeps (kp _), v, c, e, i⟩
      have hDL : L' ∉ [D] := fun hm => by have := hlt _ _ q6; rw [List.mem_singleton.mp hm] at this; exact Nat.lt_irrefl _ this
      have hDn : g.get? D = none := K3 _ (.head _)
      have A1 := fun u1 u2 u3 => ih k (by omega) (x % 2 ^ sh) Lb M ds u1 u2 u3 (by omega) hM1 (by omega) hdc hlo0 (by rw [hsh]; exact hlo1)
      refine use (A1 _ _ _) (by omega) (by omega) G F4 N4 (fun b hb => by simpa using hb) (hcr _ F4.keep _ _ _ (N4 _ (.head _)).1 q7) ?_
      rintro _ h5 tk5 x5 ⟨rfl, vs5, c5, e5, i5⟩
      have F5 := fr_ext F4 x5 hDL K3
      have N5 : News g L' h5 [(D, W.listOf vs5.toArray c5)] := fun p hp => by
        rw [List.mem_singleton.mp hp]; exact ⟨e5, fun q => hDL (by rw [← (q : D = L')]; exact .head _), hDn⟩
      clear F4 N4 x5 e5
      k_steps
      (rename Fr _ _ _ _ => F4); (rename News _ _ _ _ => N4)
      have hl5 : (List.take Lb ds ++ digs n (x % 2 ^ sh) (M - Lb) ++ List.drop M ds).length = ds.length := by
        rw [List.length_append, List.length_append, digs_length, List.length_take, List.length_drop]; omega
      have A2 := fun u1 u2 u3 => ih k (by omega) (x / 2 ^ sh) M Rb _ u1 u2 u3 (by omega) hM2 (by rw [hl5]; omega) (by rw [hl5]; omega) hup0 hup1
      refine use (A2 _ _ _) (by omega) (by omega) G F4 N4 (fun b hb => by simpa using hb) (hcr _ F4.keep _ _ _ (N4 _ (.head _)).1 i5) ?_
      rintro _ h6 tk6 x6 ⟨rfl, vs6, c6, e6, i6⟩
      have F6 := fr_ext F4 x6 hDL K3
      k_steps
      refine ret _ _ _ F6.keep ⟨rfl, _, _, e6, ?_⟩
      rw [take_mid (by omega) (digs_length _ _ _) (by omega), drop_mid (by omega) (digs_length _ _ _) (by omega) (by omega)] at i6
      rw [hdig, ← List.append_assoc]
      exact i6
  have hlf : f ∉ tb.map (·.1) ∧ L + 1 + 1 + 1 < f := ⟨fun hm => by
      obtain ⟨p, hp, e⟩ := List.mem_map.mp hm
      have h1 := htb p hp
      have h2 := hltf (L + 1, o3) (by simp)
      rw [e] at h1; exact absurd (ltN h1) (by have := ltN h2; omega), ltN (hltf (L + 1 + 1 + 1, o1) (by simp))⟩
  simp only [List.cons_append, List.nil_append] at N4
  refine storeX_C (c := L + 1 + 1 + 1) (o := o1) (g := fun o' => (L + 1 + 1 + 1, o') :: (L + 1 + 1, o2') :: (D, W.listOf vs0.toArray 0) :: (L + 1, o3) :: (f, fo) :: [(c', oc), (86, tabObj #[rawInt p91.line, rawInt p91.col, .ref c'])]) F4
    (news_sub N4 (b := (L + 1 + 1 + 1, o1) :: (L + 1 + 1, o2') :: (D, W.listOf vs0.toArray 0) :: (L + 1, o3) :: (f, fo) :: [(c', oc), (86, tabObj #[rawInt p91.line, rawInt p91.col, .ref c'])]) (by
      subst efo; intro p hp; simp only [List.mem_cons, List.not_mem_nil, or_false] at hp ⊢; grind)) rfl (UpdF.head ?_) d1 ?_
  · obtain ⟨o86, h86, _⟩ := hT.has
    have h86L := ltN (htb _ h86)
    have hm1 := (N4 (c', oc) (by simp)).1
    have hm2 := (N4 (L + 1 + 1 + 1, o1) (by simp)).1
    simp only [List.forall_mem_cons, List.not_mem_nil, false_implies, implies_true, and_true]
    refine ⟨by k_ne, by k_ne, by k_ne, ?_, ?_, by k_ne⟩
    · have := ltN hlf.2
      k_ne
    · intro e
      dsimp only at hm1 hm2 e
      rw [e, hm2] at hm1
      have e2 := congrArg Obj.data (Option.some.inj hm1)
      rw [hocd, d1] at e2; cases e2
  intro h5 o1' F5 N5 d1'
  clear F4 N4
  subst efo
  have C2 := G.C2
  have hfin : ∀ (h' : Heap) (tk : Nat) (ds : List Int), (∀ b o, g.get? b = some o → h'.get? b = some o) → LInts h' D ds → ds = digs n a cn → h'.get? c' = some oc → h'.get? 86 = some (tabObj #[rawInt p91.line, rawInt p91.col, .ref c']) → g.get? D = none →
      R (.ok (.ret (.ref D))) { s with heap := h', toks := tk } := by
    intro h' tk ds kp li e1 e2 e3 hg
    subst e1
    refine ret _ _ _ kp ⟨D, cn, [(c', oc), (86, tabObj #[rawInt p91.line, rawInt p91.col, .ref c'])], rfl, ?_, li, hac, hcl, hnc, .inr ⟨c', oc, vsc, tc, rfl, hocd, hocv⟩, ?_, ?_, hincl⟩
    · refine fresh_of K1 (fun hm => ?_) hg
      obtain ⟨p, hp, e⟩ := List.mem_map.mp hm
      have h1 := htb p hp
      rw [e] at h1; exact absurd (ltN h1) (by omega)
    · intro p hp
      simp only [List.mem_cons, List.not_mem_nil, or_false] at hp
      rcases hp with rfl | rfl
      · exact e2
      · exact e3
    · intro p hp
      rcases hnext p hp with h | h | h
      · exact .inl h
      · exact .inr (.inl h)
      · refine .inr (.inr ?_)
        cases q : s.heap.get? p.1 with
        | none => rfl
        | some o => exact absurd (ltN (hlt _ _ q)) (by have := ltN (h (L + 1, o3) (by simp)); omega)
  have hDL : L ∉ [D] := fun hm => by
    have e := List.mem_singleton.mp hm
    have := ltN lD
    rw [← e] at this; omega
  have n0 := (N5 _ (.head _)).1
  have n1 := (N5 _ (.tail _ (.head _))).1
  have n2 := (N5 _ (.tail _ (.tail _ (.head _)))).1
  have n3 := (N5 _ (.tail _ (.tail _ (.tail _ (.head _))))).1
  have n4 := (N5 _ (.tail _ (.tail _ (.tail _ (.tail _ (.head _)))))).1
  have n5 := (N5 _ (.tail _ (.tail _ (.tail _ (.tail _ (.tail _ (.head _))))))).1
  have n6 := (N5 _ (.tail _ (.tail _ (.tail _ (.tail _ (.tail _ (.tail _ (.head _)))))))).1
  have hDn : g.get? D = none := (N5 _ (.tail _ (.tail _ (.head _)))).2.2
  dsimp only at n0 n1 n2 n3 n4 n5 n6
  k_steps
  · rename_i ha1
    have A1 := fun u1 u2 u3 => inner 22 a 0 cn ds0 u1 u2 u3 (by omega) (hc1 ha1) (by omega) (by omega) ha hac
    have hvl : vs0.length = cn := by rw [hI.length]; exact hds0
    refine use (A1 _ _ _) (by omega) (by omega) G F5 N5 (fun b hb => by rw [List.mem_singleton.mp hb]; simp) ⟨n4, ⟨c', oc, vsc, tc, rfl, n5, hocd, hocv⟩, ⟨o1', n0, d1'⟩, ⟨o2', n1, d2'⟩, ⟨o3, n3, d3⟩, vs0, _, n2, hI⟩ ?_
    rintro _ h6 tk6 x6 ⟨rfl, vs6, c6, e6, i6⟩
    have F6 := fr_ext F5 x6 hDL (fun b hb => by rw [List.mem_singleton.mp hb]; exact hDn)
    have N6 : News g L h6 [(L + 1 + 1, o2')] := fun p hp => by
      rw [List.mem_singleton.mp hp]
      exact ⟨x6 _ _ (fun hm => by have e := List.mem_singleton.mp hm; exact absurd e (by k_ne)) n1, (N5 _ (.tail _ (.head _))).2⟩
    have n5' := x6 _ _ (show c' ∉ [D] from fun hm => by
      have e := List.mem_singleton.mp hm
      rw [e, n2] at n5
      have e2 := congrArg Obj.data (Option.some.inj n5)
      rw [hocd] at e2; cases e2) n5
    have n6' := x6 _ _ (show 86 ∉ [D] from fun hm => by
      have e := List.mem_singleton.mp hm
      rw [e, n2] at n6
      have e2 := congrArg Obj.data (Option.some.inj n6)
      cases e2) n6
    clear F5 N5
    k_steps
    refine hfin _ _ _ F6.keep ⟨vs6, _, e6, i6⟩ ?_ n5' n6' hDn
    rw [List.take_zero, List.nil_append, Nat.sub_zero, List.drop_of_length_le (by omega), List.append_nil]
  · rename_i ha1
    refine hfin _ _ ds0 F5.keep ⟨vs0, _, n2, hI⟩ ?_ n5 n6 hDn
    have e0 : cn = 0 := hc0 ha1
    rw [e0, digs]
    exact List.length_eq_zero_iff.mp (by omega)
end Mine
end

section
open PySem PySem.W PyProof.Rows PySem.Spec PySem.Calls
set_option Elab.async false
set_option maxRecDepth 100000
set_option maxHeartbeats 800000
set_option pp.deepTerms false
set_option pp.deepTerms.threshold 3
set_option pp.maxSteps 6000
namespace Mine
local macro_rules | `(tactic| walk_at "binaryOp LShift int int") => `(tactic| refine Stop.go ?_)
local macro_rules | `(tactic| walk_at "call ref") => `(tactic| refine Stop.go ?_)
local macro_rules | `(tactic| walk_at "binaryOp RShift int int") => `(tactic| refine Stop.go ?_)
local macro_rules | `(tactic| walk_at "subscriptTail") => `(tactic| refine Stop.go ?_)
local macro_rules | `(tactic| walk_at "callWith ref") => `(tactic| (k_dflt (refine' callWith_F ?X ?_; (case X => exact fnAt_of (by assumption) (by assumption)); k_whole)))
local macro_rules | `(tactic| walk_at "And") => `(tactic| ((with_reducible show FnAt _ _ ∧ _); k_dflt (refine ⟨fnAt_of (by assumption) (by assumption), ?_⟩); try dsimp only [List.nil_append, List.cons_append]))
local macro_rules | `(tactic| walk_at "eval Name") => `(tactic| (kc_free; k_dflt (refine' nameFC ?F ?c ?o ?_ ?hk ?hx ?hb ?hn; (case hx => rfl); (case hk => rfl); (case hb => decide); (case hn => decide); (case F => assumption); (case c => rfl); (case o => assumption); k_whole)))
local macro_rules | `(tactic| walk_at "exec FunctionDef") => `(tactic| refine Stop.go ?_)


theorem digits2int {w : World} {loose : List Str} {mean : ExcName → Option Value} {mg mb : Str → Option Value} {D : Addr} {ds : List Int} {n : Nat} {t2 : Tok} {tb : List (Addr × Obj)} (hnc : n * ds.length ≤ 16000000) (hdl : ds.length ≤ 4000000) (hn2 : n ≤ 4000000)
    (hds : ∀ v ∈ ds, 0 ≤ v ∧ v < 2 ^ n) (hT : TabLed 93 q98 p98 tb) :
    Meets w loose mean mg mb 98 [.ref D, .int n t2] 200 200 (tb.map (·.1)) (fun h => (∀ p ∈ tb, h.get? p.1 = some p.2) ∧ LInts h D ds)
      (fun h v h' => ∃ t tb', v = .int (undig n ds) t ∧ TabNext 93 q98 p98 h h' tb tb') := by
  have Z : (hd.heap_39 w.params).In { objs := #[] } → Challenge.rw_mq0294_01.foot = 11 → True := fun _ _ => trivial
  revert Z; k_fill; intro _
  refine enterC (f := 98) (args := [.ref D, .int n t2]) (d := 200) (u := 200) (binds := [("digits", .ref D), ("n", .int n t2)]) (tb.map (·.1)) (by k_is) (by k_is) rfl rfl (by decide +kernel) rfl rfl rfl (by omega) ?_
  intro dp un gd outer s R g h₁ L tk cells hd hu hpre G K1 K2 K3 hlt K4 F N0 Y ret
  obtain ⟨hpre, vs, c, hD, hI⟩ := hpre
  have hDtb : D ∉ tb.map (·.1) := fun hm => by
    obtain ⟨p, hp, e⟩ := List.mem_map.mp hm
    obtain ⟨v, hv⟩ := hT.fields p hp
    have h1 := hpre p hp
    rw [e, hD] at h1
    have e2 := congrArg Obj.data (Option.some.inj h1)
    rw [hv] at e2; cases e2
  have hDg := K1 _ _ hDtb hD
  have X := G.X
  have T := G.T
  k_cells Y
  rename_i o1 o2 o3 d1 d2 d3
  replace d1 : o1.data = .cell none := d1
  replace d2 : o2.data = .cell (some (.int n t2)) := d2
  replace d3 : o3.data = .cell (some (.ref D)) := d3
  have htb : ∀ p ∈ tb, p.1 < L := fun p hp => hlt _ _ (hpre p hp)
  have N : News g L h₁ ([(L + 1 + 1 + 1, o1), (L + 1 + 1, o2), (L + 1, o3)] ++ tb) := by
    intro p hp
    rcases List.mem_append.mp hp with hp | hp
    · exact N0 p hp
    · exact ⟨K4 _ _ (hpre p hp), Nat.ne_of_lt (hlt _ _ (hpre p hp)), K3 _ (List.mem_map_of_mem hp)⟩
  clear N0
  simp only [List.cons_append, List.nil_append] at N
  (try dsimp only)
  (try k_fold)
  k_steps
  refine nestDef_K rfl rfl rfl ?_
  obtain ⟨o86, h86, _⟩ := hT.has
  have h86L := ltN (htb _ h86)
  refine nest_any (tb := tb) (xs := [(L + 1 + 1 + 1, o1), (L + 1 + 1, o2), (L + 1, o3)]) (qual := q98) F (news_sub N (by intro p hp; simp only [List.mem_append, List.mem_cons, List.not_mem_nil, or_false] at hp ⊢; grind)) T G.C1 rfl hT ?_ rfl ?_
  · simp only [List.forall_mem_cons, List.not_mem_nil, false_implies, implies_true, and_true]
    exact ⟨by k_ne, by k_ne, by k_ne⟩
  intro f c' ctv doc h4 tk4 tb' F4 N4 hit hnext hincl hltf
  obtain ⟨oc, vsc, tc, rfl, hocd, hocv⟩ := hit
  clear F N
  obtain ⟨fo, hfo, efo⟩ := named (N4 _ (.head _)).1
  dsimp only at hfo
  have inner : ∀ (k : Nat) (Lb Rb : Nat) (u2 u3 : Tok), Rb - Lb ≤ 2 ^ k → Lb < Rb → Rb ≤ ds.length →
      Meets w loose mean mg mb f [.int Lb u2, .int Rb u3] (k + 3) (3 * k + 20) []
        (fun h => h.get? f = some fo ∧ h.CodeRec (.ref c') q98 ∧ CellAt h (L + 1 + 1 + 1) (.ref f) ∧ CellAt h (L + 1) (.ref D) ∧ CellAt h (L + 1 + 1) (.int n t2) ∧ h.get? D = some (W.listOf vs.toArray c))
        (fun _ v h' => ∃ t, v = .int (undig n ((ds.drop Lb).take (Rb - Lb))) t) := by
    clear F4 N4 hnext hltf hfo h4 tk4
    intro k
    induction k using Nat.strongRecOn with
    | _ k ih =>
    intro Lb Rb u2 u3 hk hLR hRd
    subst efo
    refine enterX (f := f) (args := [.int Lb u2, .int Rb u3]) (d := k + 3) (u := 3 * k + 20) (binds := [("L", .int Lb u2), ("R", .int Rb u3)]) [] (fun h p => ⟨p.1, p.2.1⟩) rfl (fun s => BindsTo.of_eq rfl) (locs rfl) rfl rfl rfl (by decide) (by omega) ?_
    intro dp un gd outer s R g h₁ L' tk hd hu hpre G K1 K2 K3 hlt K4 F ret
    obtain ⟨q1, q2, q3, q4, q5, q6⟩ := hpre
    have X := G.X
    have T := G.T
    have cD : ∀ b v, CellAt s.heap b v → CellAt g b v := fun b v ⟨o, e, d⟩ => ⟨o, K1 _ _ (fun hm => nomatch hm) e, d⟩
    replace q3 := cD _ _ q3
    replace q4 := cD _ _ q4
    replace q5 := cD _ _ q5
    have hFn : FnAt f g := ⟨_, _, _, _, K1 _ _ (fun hm => nomatch hm) q1⟩
    have q6' := K1 _ _ (fun hm => nomatch hm) q6
    have N : News g L' h₁ [] := News.nil
    (try dsimp only)
    (try k_fold)
    k_steps
    · rename_i hq
      obtain rfl : Rb = Lb + 1 := by omega
      refine item_anyK ⟨_, F.keep _ _ q6', rfl, _, rfl⟩ hI (by omega) (by omega) (by omega) ?_
      intro t9
      k_steps
      refine ret _ _ _ F.keep ⟨t9, ?_⟩
      rw [Nat.add_sub_cancel_left, seg_one (by omega), undig, undig, Int.toNat_natCast, Int.mul_zero, Int.add_zero]
    · rename_i hq
      have hM : ((Lb : Int) + Rb).fdiv (2 ^ Int.toNat 1) = (((Lb + Rb) / 2 : Nat) : Int) := by
        rw [show Int.toNat 1 = 1 from rfl, fdiv_pow]; omega
      have hM1 : Lb < (Lb + Rb) / 2 := by omega
      have hM2 : (Lb + Rb) / 2 < Rb := by omega
      have hM3 : Rb ≤ (Lb + Rb) / 2 + ((Lb + Rb) / 2 - Lb) + 1 := by omega
      have hM4 : (Lb + Rb) / 2 - Lb ≤ Rb - (Lb + Rb) / 2 := by omega
      have hk1 : 1 ≤ k := by
        rcases Nat.eq_zero_or_pos k with rfl | h
        · rw [Nat.pow_zero] at hk; omega
        · exact h
      obtain ⟨k, rfl⟩ : ∃ k', k = k' + 1 := ⟨k - 1, by omega⟩
      rw [Nat.pow_succ] at hk
      refine rshift_int (by omega) ?_
      rw [hM]
      generalize (Lb + Rb) / 2 = M at *
      k_steps
      (rename Fr _ _ _ _ => F3); (rename News _ _ _ _ => N3)
      have hS : ((M : Int) - Lb) * n = ((n * (M - Lb) : Nat) : Int) := by
        rw [Int.natCast_mul, Int.mul_comm, Int.natCast_sub (by omega)]
      rw [hS] at F3
      have hSc : n * (M - Lb) ≤ 16000000 := Nat.le_trans (Nat.mul_le_mul_left n (by omega)) hnc
      have hSR : n * (Rb - M) ≤ 16000000 := Nat.le_trans (Nat.mul_le_mul_left n (by omega)) hnc
      have hcr : ∀ (h : Heap), (∀ b o, g.get? b = some o → h.get? b = some o) → 
          h.get? f = some _ ∧ h.CodeRec (.ref c') q98 ∧ CellAt h (L + 1 + 1 + 1) (.ref f) ∧ CellAt h (L + 1) (.ref D) ∧ CellAt h (L + 1 + 1) (.int n t2) ∧ h.get? D = some (W.listOf vs.toArray c) := fun h kp =>
        ⟨kp _ _ (K1 _ _ (fun hm => nomatch hm) q1), by
          obtain ⟨a1, a2, a3, a4, a5, a6, a7, a8⟩ := q2
          exact ⟨a1, a2, a3, a4, a5, kp _ _ (K1 _ _ (fun hm => nomatch hm) a6), a7, a8⟩, q3.keeps (kp _), q4.keeps (kp _), q5.keeps (kp _), kp _ _ q6'⟩
      have A1 := fun u1 u2 => ih k (by omega) M Rb u1 u2 (by omega) hM2 (by omega)
      refine use (A1 _ _) (by omega) (by omega) G F3 N3 (fun b hb => nomatch hb) (hcr _ F3.keep) ?_
      rintro _ h5 tk5 x5 ⟨t5, rfl⟩
      have F5 := fr_ext0 F3 x5
      have N5 := news_ext0 N3 x5
      clear F3 N3
      k_steps
      have hr1 := undig_range n ((ds.drop M).take (Rb - M)) (fun v hv => hds v (seg_mem hv))
      rw [seg_len (by omega) (by omega)] at hr1
      refine shl (by have := bits_lt hr1.1 hr1.2; omega) ?_
      k_steps
      (rename Fr _ _ _ _ => F3); (rename News _ _ _ _ => N3)
      have A2 := fun u1 u2 => ih k (by omega) Lb M u1 u2 (by omega) hM1 (by omega)
      refine use (A2 _ _) (by omega) (by omega) G F3 N3 (fun b hb => nomatch hb) (hcr _ F3.keep) ?_
      rintro _ h6 tk6 x6 ⟨t6, rfl⟩
      have F6 := fr_ext0 F3 x6
      have N6 := news_ext0 N3 x6
      clear F3 N3
      k_steps
      have hval : undig n ((ds.drop M).take (Rb - M)) * 2 ^ (n * (M - Lb)) + undig n ((ds.drop Lb).take (M - Lb)) = undig n ((ds.drop Lb).take (Rb - Lb)) := by
        rw [seg_cut (Nat.le_of_lt hM1) (Nat.le_of_lt hM2), undig_append, seg_len (by omega) (by omega), Int.add_comm, Int.mul_comm]
      rw [hval]
      exact ret _ _ _ F6.keep ⟨_, rfl⟩
  have hlf : L + 1 + 1 + 1 < f := ltN (hltf (L + 1 + 1 + 1, o1) (by simp))
  simp only [List.cons_append, List.nil_append] at N4
  refine storeX_C (c := L + 1 + 1 + 1) (o := o1) (g := fun o' => (L + 1 + 1 + 1, o') :: (L + 1 + 1, o2) :: (L + 1, o3) :: (f, fo) :: [(c', oc), (93, tabObj #[rawInt p98.line, rawInt p98.col, .ref c'])]) F4
    (news_sub N4 (b := (L + 1 + 1 + 1, o1) :: (L + 1 + 1, o2) :: (L + 1, o3) :: (f, fo) :: [(c', oc), (93, tabObj #[rawInt p98.line, rawInt p98.col, .ref c'])]) (by
      subst efo; intro p hp; simp only [List.mem_cons, List.not_mem_nil, or_false] at hp ⊢; grind)) rfl (UpdF.head ?_) d1 ?_
  · have hm1 := (N4 (c', oc) (by simp)).1
    have hm2 := (N4 (L + 1 + 1 + 1, o1) (by simp)).1
    simp only [List.forall_mem_cons, List.not_mem_nil, false_implies, implies_true, and_true]
    refine ⟨by k_ne, by k_ne, ?_, ?_, by k_ne⟩
    · have := ltN hlf
      k_ne
    · intro e
      dsimp only at hm1 hm2 e
      rw [e, hm2] at hm1
      have e2 := congrArg Obj.data (Option.some.inj hm1)
      rw [hocd, d1] at e2; cases e2
  intro h5 o1' F5 N5 d1'
  clear F4 N4
  subst efo
  have C1 := G.C1
  have hfin : ∀ (h' : Heap) (tk : Nat) (x : Int) (t : Tok), (∀ b o, g.get? b = some o → h'.get? b = some o) → x = undig n ds → h'.get? c' = some oc → h'.get? 93 = some (tabObj #[rawInt p98.line, rawInt p98.col, .ref c']) →
      R (.ok (.ret (.int x t))) { s with heap := h', toks := tk } := by
    intro h' tk x t kp e1 e2 e3
    subst e1
    refine ret _ _ _ kp ⟨_, [(c', oc), (93, tabObj #[rawInt p98.line, rawInt p98.col, .ref c'])], rfl, .inr ⟨c', oc, vsc, tc, rfl, hocd, hocv⟩, ?_, ?_, hincl⟩
    · intro p hp
      simp only [List.mem_cons, List.not_mem_nil, or_false] at hp
      rcases hp with rfl | rfl
      · exact e2
      · exact e3
    · intro p hp
      rcases hnext p hp with h | h | h
      · exact .inl h
      · exact .inr (.inl h)
      · refine .inr (.inr ?_)
        cases q : s.heap.get? p.1 with
        | none => rfl
        | some o => exact absurd (ltN (hlt _ _ q)) (by have := ltN (h (L + 1, o3) (by simp)); omega)
  have n0 := (N5 _ (.head _)).1
  have n1 := (N5 _ (.tail _ (.head _))).1
  have n2 := (N5 _ (.tail _ (.tail _ (.head _)))).1
  have n3 := (N5 _ (.tail _ (.tail _ (.tail _ (.head _))))).1
  have n4 := (N5 _ (.tail _ (.tail _ (.tail _ (.tail _ (.head _)))))).1
  have n5 := (N5 _ (.tail _ (.tail _ (.tail _ (.tail _ (.tail _ (.head _))))))).1
  dsimp only at n0 n1 n2 n3 n4 n5
  have hlist : g.IsList D vs.toArray := ⟨_, hDg, rfl, _, rfl⟩
  k_steps
  · rename_i ha1
    have A1 := fun u1 u2 => inner 22 0 ds.length u1 u2 (by omega) ha1 (Nat.le_refl _)
    refine use (A1 _ _) (by omega) (by omega) G F5 N5 (fun b hb => nomatch hb) ⟨n3, ⟨c', oc, vsc, tc, rfl, n4, hocd, hocv⟩, ⟨o1', n0, d1'⟩, ⟨o3, n2, d3⟩, ⟨o2, n1, d2⟩, F5.keep _ _ hDg⟩ ?_
    rintro _ h6 tk6 x6 ⟨t6, rfl⟩
    have F6 := fr_ext0 F5 x6
    have n4' := x6 _ _ (fun hm => nomatch hm) n4
    have n5' := x6 _ _ (fun hm => nomatch hm) n5
    clear F5 N5
    k_steps
    refine hfin _ _ _ _ F6.keep ?_ n4' n5'
    rw [List.drop_zero, Nat.sub_zero, List.take_length]
  · rename_i ha1
    have e : ds = [] := List.length_eq_zero_iff.mp (by omega)
    refine hfin _ _ _ _ F5.keep ?_ n4 n5
    rw [e, undig]
end Mine
end

section
open PySem PySem.W PyProof.Rows PySem.Spec PySem.Calls
set_option Elab.async false
set_option maxRecDepth 100000
set_option maxHeartbeats 800000
set_option pp.deepTerms false
set_option pp.deepTerms.threshold 3
set_option pp.maxSteps 6000
namespace Mine
local macro_rules | `(tactic| walk_at "binaryOp LShift int int") => `(tactic| refine Stop.go ?_)
local macro_rules | `(tactic| walk_at "call ref") => `(tactic| refine Stop.go ?_)
local macro_rules | `(tactic| walk_at "exec For") => `(tactic| refine Stop.go ?_)
local macro_rules | `(tactic| walk_at "exec For Name Call cons nil") => `(tactic| refine Stop.go ?_)
local macro_rules | `(tactic| walk_at "pyIter ref") => `(tactic| refine Stop.go ?_)
local macro_rules | `(tactic| walk_at "call type:reversed") => `(tactic| refine Stop.go ?_)
local macro_rules | `(tactic| walk_at "call builtin:list.append") => `(tactic| refine Stop.go ?_)
local macro_rules | `(tactic| walk_at "call builtin:list.reverse") => `(tactic| refine Stop.go ?_)

theorem divmod_pos {w : World} {loose : List Str} {mean : ExcName → Option Value} {mg mb : Str → Option Value} {a b : Int} {t1 t2 : Tok} {tb1 tb2 : List (Addr × Obj)} (ha : 0 ≤ a) (hb : 0 < b)
    (hab : Builtin.Int.intBits a ≤ 2000000) (hbb : Builtin.Int.intBits b ≤ 2000000) (hT1 : TabLed 86 q91 p91 tb1) (hT2 : TabLed 93 q98 p98 tb2) :
    Meets w loose mean mg mb 105 [.int a t1, .int b t2] 400 300 ((tb1 ++ tb2).map (·.1)) (fun h => ∀ p ∈ tb1 ++ tb2, h.get? p.1 = some p.2)
      (fun h v h' => PairN h v h' (a / b) (a % b) ∧ (∃ tb1', TabNext 86 q91 p91 h h' tb1 tb1') ∧ (∃ tb2', TabNext 93 q98 p98 h h' tb2 tb2')) := by
  have Z : (hd.heap_39 w.params).In { objs := #[] } → Challenge.rw_mq0294_01.foot = 11 → True := fun _ _ => trivial
  revert Z; k_fill; intro _
  refine enter (f := 105) (args := [.int a t1, .int b t2]) (d := 400) (u := 300) (binds := [("a", .int a t1), ("b", .int b t2)]) ((tb1 ++ tb2).map (·.1)) (by k_is) (by k_is) (fun s => BindsTo.of_eq rfl) (locs rfl) rfl rfl rfl (by decide) (by omega) ?_
  intro dp un gd outer s R g h₁ L tk hd hu hpre G K1 K2 K3 hlt K4 F ret
  have X := G.X
  have T := G.T
  have N : News g L h₁ (tb1 ++ tb2) := fun p hp => ⟨K4 _ _ (hpre p hp), Nat.ne_of_lt (hlt _ _ (hpre p hp)), K3 _ (List.mem_map_of_mem hp)⟩
  (try dsimp only)
  (try k_fold)
  k_steps
  (rename Fr _ _ _ _ => F1); (rename News _ _ _ _ => N1)
  have s1 : ∀ p ∈ tb1, p ∈ tb1 ++ tb2 := fun p hp => List.mem_append_left _ hp
  have s2 : ∀ p ∈ tb2, p ∈ tb1 ++ tb2 := fun p hp => List.mem_append_right _ hp
  obtain ⟨hbp, hbn⟩ := bits_pow_le hb
  have hbl := lt_bits (Int.le_of_lt hb)
  refine use (int2digits (a := a) (n := Builtin.Int.intBits b) (tb := tb1) ha hbn (by omega) (by omega) hT1) (by omega) (by omega) G F1 N1 (fun b hb => by rw [List.map_append]; exact List.mem_append_left _ hb) (led_get N1 s1) ?_
  rintro _ h2 tk2 x2 ⟨D, cn, tb1', rfl, hDn, ⟨vs, c, hDl, hI⟩, hac, hcn, hncn, hTn⟩
  have F2 := fr_ext F1 x2 (led_notL N1 s1) (led_none N1 s1)
  have N2 : News g L h2 ((D, W.listOf vs.toArray c) :: (tb1' ++ tb2)) :=
    news_cons (news_app (tab_news F1 N1 s1 hT1 hTn) (news_ext (news_sub N1 s2) x2 fun p hp => not_mem_of fun r hr => tabs_apart hT1 hT2 (led_get N1 s1) (led_get N1 s2) r hr p hp)) hDl (freshL F1 hDn) (fresh0 F1 hDn)
  have hTf1 := fun h' (news' : List (Addr × Obj)) (N' : News g L h' news') hs => TabNext.from K1 F1 N1 (fun b hb => hb) hTn N' hs
  generalize hnb : Builtin.Int.intBits b = n at *
  k_steps
  (rename Fr _ _ _ _ => F3); (rename News _ _ _ _ => N3)
  rename_i ql0 _ hlq _
  have hT1' := hTn.1
  have nD := (N3 _ (.tail _ (.head _))).1
  have nQ := (N3 _ (.head _)).1
  dsimp only at nD nQ
  have lDQ : D < ql0 := ltN hlq.1
  have hQD : ql0 ≠ D := Nat.ne_of_gt hlq.1
  have stb : ∀ p ∈ tb1' ++ tb2, p ∈ (ql0, W.listOf #[] 0) :: (D, W.listOf vs.toArray c) :: (tb1' ++ tb2) := fun p hp => .tail _ (.tail _ hp)
  refine For_invV g rfl rfl ?_ (fun _ => rfl) (fun _ _ h => h.elim)
  k_steps
  refine krv_reversed F3 N3 ⟨_, nD, rfl, _, rfl⟩ ?_
  intro I h4 F4 N4 hlI
  k_steps
  have nI := (N4 _ (.head _)).1
  dsimp only at nI
  have lQI : ql0 < I := hlI _ (.head _)
  have lDI : D < I := hlI _ (.tail _ (.head _))
  refine wpAny_pyIter_revIter ⟨_, nI, rfl, rfl⟩ ?_
  have hvl : vs.length = cn := by rw [hI.length, digs_length]
  refine for_go (news := (ql0, W.listOf #[] 0) :: (tb1' ++ tb2)) (fun i m news => ∃ (ql : List Int) (vq : List Value) (cq : Nat) (tr tn : Tok) (rr : Int), news = (ql0, W.listOf vq.toArray cq) :: (tb1' ++ tb2) ∧ IntsAre vq ql ∧ ql.length = i ∧ (∀ v ∈ ql, 0 ≤ v ∧ v < 2 ^ n) ∧
      undig n ql.reverse = a / 2 ^ (n * (cn - i)) / b ∧ rr = a / 2 ^ (n * (cn - i)) % b ∧ m "r" = some (.int rr tr) ∧ m "q_digits" = some (.ref ql0) ∧ m "b" = some (.int b t2) ∧ m "n" = some (.int n tn))
    (Walks.listRev rfl I D (Nat.ne_of_lt lDI) vs.toArray) ?_ ?_ F4 (news_sub N4 ?_) ⟨Nat.zero_le _, ⟨_, nI, rfl, ?_⟩, ⟨_, (N4 _ (.tail _ (.tail _ (.head _)))).1, rfl, _, rfl⟩⟩ ?_ ?_ ?_ ?_
  · intro hm
    rcases List.mem_cons.mp hm with e | hm
    · exact (N4 _ (.head _)).2.1 e.symm
    · exact (N4 _ (.tail _ (.tail _ (.head _)))).2.1 (List.mem_singleton.mp hm).symm
  · intro b hb; rw [List.mem_singleton.mp hb]; exact (N4 _ (.head _)).2.2
  · intro p hp
    rcases List.mem_cons.mp hp with rfl | hp
    · exact .tail _ (.head _)
    · exact .tail _ (.tail _ (.tail _ hp))
  · simp [revObj]
  · intro p hp hm
    have := hlI p (by
      rcases List.mem_cons.mp hp with rfl | hp
      · exact .head _
      · exact .tail _ (.tail _ hp))
    rw [List.mem_singleton.mp hm] at this; exact Nat.lt_irrefl _ this
  · have h0 : a / 2 ^ (n * (cn - 0)) = 0 := by rw [Nat.sub_zero]; exact Int.ediv_eq_zero_of_lt ha hac
    refine ⟨[], [], 0, _, _, 0, rfl, .nil, rfl, (fun v hv => nomatch hv), ?_, ?_, rfl, rfl, rfl, rfl⟩
    · rw [h0]; simp [undig]
    · rw [h0, Int.zero_emod]
  · rintro i v m₁ _ h5 tk5 own hi hP ⟨ql, vq, cq, tr, tn, rr, rfl, hq1, hq2, hq3, hq4, hrr, m1, m2, m3, m4⟩ hnb5 hst5 hown hall F5 N5
    have hin : i < cn := by simpa [hvl] using hi
    have hvi : ∃ td, v = .int (a / 2 ^ (n * (cn - 1 - i)) % 2 ^ n) td := by
      have h1 := digs_get n cn a (cn - 1 - i) (by omega)
      obtain ⟨t, ht⟩ := hI.get (cn - 1 - i) _ h1
      have hP' : vs[cn - 1 - i]? = some v := by simpa [hvl] using hP
      rw [ht] at hP'; exact ⟨t, (Option.some.inj hP').symm⟩
    obtain ⟨td, rfl⟩ := hvi
    have F6 : Fr g L h5 _ := fr_turn F5 [("r", .int rr tr), ("q_digits", .ref ql0), ("b", .int b t2), ("n", .int n tn)] (by simp [m1, m2, m3, m4])
    replace N5 : News g L h5 _ := N5
    have hB := pow_pos2 n
    have hr0 := Int.emod_nonneg (a / 2 ^ (n * (cn - i))) (Int.ne_of_gt hb)
    have hr1 := Int.emod_lt_of_pos (a / 2 ^ (n * (cn - i))) hb
    have hd0 := Int.emod_nonneg (a / 2 ^ (n * (cn - 1 - i))) (Int.ne_of_gt hB)
    have hd1 := Int.emod_lt_of_pos (a / 2 ^ (n * (cn - 1 - i))) hB
    obtain ⟨hs1, hs2⟩ := top_step (n := n) (a := a) hb hin
    obtain ⟨hp0, hp1⟩ := top_pre hr0 hr1 hd0 hd1
    generalize a / 2 ^ (n * (cn - 1 - i)) % 2 ^ n = dg at *
    rw [← hrr] at hr0 hr1 hs1 hs2 hp0 hp1
    clear F5 hP
    k_steps
    refine shl (by have := bits_lt hr0 (Int.lt_trans hr1 hbl); omega) ?_
    k_steps
    (rename Fr _ _ _ _ => F7); (rename News _ _ _ _ => N7)
    refine use (div2 9 (a := rr * 2 ^ n + dg) (b := b) (n := n) (by omega) (by omega) hb hbl hp0 hp1) (by omega) (by omega) G F7 N7 (fun _ q => nomatch q) trivial ?_
    rintro _ h8 tk8 x8 ⟨p8, tq8, tr8, rfl, e8, n8⟩
    have F8 := fr_ext0 F7 x8
    have N8 := news_new0 N7 F7 x8 e8 n8
    clear F7 N7
    k_steps
    (rename Fr _ _ _ _ => F9); (rename News _ _ _ _ => N9)
    have N9' : News g L _ ((ql0, W.listOf vq.toArray cq) :: (tb1' ++ tb2 ++ own)) := news_sub N9 (by intro p hp; simp only [List.mem_append, List.mem_cons] at hp ⊢; grind)
    have hne : ∀ p ∈ tb1' ++ tb2 ++ own, p.1 ≠ ql0 := by
      intro p hp e
      rcases List.mem_append.mp hp with hp | hp
      · obtain ⟨vf, hvf⟩ : ∃ vf, p.2.data = .fields vf := by
          rcases List.mem_append.mp hp with hp | hp
          · exact hT1'.fields p hp
          · exact hT2.fields p hp
        have h1 := (N9' p (.tail _ (List.mem_append_left _ hp))).1
        rw [e, (N9' _ (.head _)).1] at h1
        have e2 := congrArg Obj.data (Option.some.inj h1)
        rw [hvf] at e2; cases e2
      · rcases List.mem_cons.mp (hown p hp) with h1 | h1
        · rw [h1] at e; rw [e] at lQI; exact Nat.lt_irrefl _ lQI
        · rw [List.mem_singleton.mp h1] at e; exact hQD e.symm
    have hqd0 : 0 ≤ (rr * 2 ^ n + dg) / b := Int.ediv_nonneg hp0 (Int.le_of_lt hb)
    have hqd1 : (rr * 2 ^ n + dg) / b < 2 ^ n := Int.ediv_lt_of_lt_mul hb (by rw [Int.mul_comm (2 ^ n) b]; exact hp1)
    refine append_K F9 N9' (Upd.head hne) ?_ (by rw [List.size_toArray, hq1.length, hq2, sizeLine_eq]; omega)
    intro h10 F10 N10
    rw [List.push_toArray] at N10
    clear F9 N9 N9'
    k_steps
    refine ⟨_, _, _, (ql0, W.listOf (vq ++ [Value.int ((rr * 2 ^ n + dg) / b) tq8]).toArray (cq + 1)) :: (tb1' ++ tb2), rfl, F10, by rw [List.cons_append]; exact N10, ?_, ql ++ [(rr * 2 ^ n + dg) / b], _, _, _, _, _, rfl, ksk_snoc hq1, ?_, ?_, ?_, hs2.symm, rfl, rfl, rfl, rfl⟩
    · intro p hp
      rcases List.mem_cons.mp hp with rfl | hp
      · intro hm; exact absurd (List.mem_singleton.mp hm : ql0 = I) (Nat.ne_of_lt lQI)
      · exact hnb5 p (.tail _ hp)
    · rw [List.length_append, hq2]; rfl
    · intro v hv
      rcases List.mem_append.mp hv with hv | hv
      · exact hq3 v hv
      · rw [List.mem_singleton.mp hv]; exact ⟨hqd0, hqd1⟩
    · rw [List.reverse_append, List.reverse_singleton, List.singleton_append, undig, hq4, hs1]
  · rintro m₁ _ h5 tk5 ⟨ql, vq, cq, tr, tn, rr, rfl, hq1, hq2, hq3, hq4, hrr, m1, m2, m3, m4⟩ hnb5 F5 N5
    have F6 : Fr g L h5 _ := fr_known F5 [("r", .int rr tr), ("q_digits", .ref ql0), ("b", .int b t2), ("n", .int n tn)] (by simp [m1, m2, m3, m4])
    replace N5 : News g L h5 _ := N5
    have hlen : vs.toArray.size = cn := by rw [List.size_toArray, hvl]
    rw [hlen] at hq2 hq4 hrr
    rw [Nat.sub_self, Nat.mul_zero, Int.pow_zero, Int.ediv_one] at hq4 hrr
    clear F5
    k_steps
    have hf12 : ∀ p ∈ tb1' ++ tb2, ∃ vf, p.2.data = .fields vf := fun p hp => (List.mem_append.mp hp).elim (hT1'.fields p) (hT2.fields p)
    refine kl_reverse F6 N5 (by simp : vq.toArray.toList.reverse = vq.reverse) (Upd.head (fields_ne N5 rfl (fun p hp => hp) hf12)) (by rw [List.toList_toArray, hq1.length, hq2, sizeLine_eq]; omega) ?_
    intro h7 F7 N7
    have hqr : IntsAre vq.reverse ql.reverse := ints_rev hq1
    clear F6 N5
    k_steps
    (rename Fr _ _ _ _ => F8); (rename News _ _ _ _ => N8)
    have hnl : n * ql.reverse.length ≤ 16000000 := by rw [List.length_reverse, hq2]; omega
    have s2' : ∀ p ∈ tb2, p ∈ (ql0, W.listOf vq.reverse.toArray cq) :: (tb1' ++ tb2) := fun p hp => .tail _ (List.mem_append_right _ hp)
    refine use (digits2int (D := ql0) (ds := ql.reverse) (n := n) (tb := tb2) hnl (by rw [List.length_reverse]; omega) (by omega) (fun v hv => hq3 v (List.mem_reverse.mp hv)) hT2) (by omega) (by omega) G F8 N8
      (fun b hb => by obtain ⟨p, hp, e⟩ := List.mem_map.mp hb; exact List.mem_map.mpr ⟨p, s2' p hp, e⟩) ⟨led_get N8 s2', _, _, (N8 _ (.head _)).1, hqr⟩ ?_
    rintro _ h9 tk9 x9 ⟨tq, tb2', rfl, hTn2⟩
    have F9 := fr_ext F8 x9 (led_notL N8 s2') (led_none N8 s2')
    have N9 : News g L h9 (tb1' ++ tb2') := news_app (news_ext (news_sub N8 fun p hp => .tail _ (List.mem_append_left _ hp)) x9 fun p hp => not_mem_of fun r hr => (tabs_apart hT1' hT2 (led_get N8 fun p hp => .tail _ (List.mem_append_left _ hp)) (led_get N8 s2') p hp r hr).symm) (tab_news F8 N8 s2' hT2 hTn2)
    have hW8 : ∀ b ∈ (tb1 ++ tb2).map (·.1), b ∈ ((ql0, W.listOf vq.reverse.toArray cq) :: (tb1' ++ tb2)).map (·.1) := by
      intro b hb
      rw [List.map_append] at hb
      rw [List.map_cons, List.map_append]
      rcases List.mem_append.mp hb with hb | hb
      · exact .tail _ (List.mem_append_left _ (hTn.2.2.2 b hb))
      · exact .tail _ (List.mem_append_right _ hb)
    have hTf2 := fun h' (news' : List (Addr × Obj)) (N' : News g L h' news') hs => TabNext.from K1 F8 N8 hW8 hTn2 N' hs
    clear F8 N8
    k_steps
    (rename Fr _ _ _ _ => F10); (rename News _ _ _ _ => N10)
    have hW9 : ∀ b ∈ (tb1 ++ tb2).map (·.1), b ∈ (tb1' ++ tb2').map (·.1) := by
      intro b hb
      rw [List.map_append] at hb ⊢
      rcases List.mem_append.mp hb with hb | hb
      · exact List.mem_append_left _ (hTn.2.2.2 b hb)
      · exact List.mem_append_right _ (hTn2.2.2.2 b hb)
    have hfr10 := fresh_of K1 (fun hm => not_mem_of (fields_ne N10 rfl (fun p hp => hp) (fun p hp => (List.mem_append.mp hp).elim (hT1'.fields p) (hTn2.1.fields p))) (hW9 _ hm)) (N10 _ (.head _)).2.2
    refine ret _ _ _ F10.keep ⟨⟨_, _, _, rfl, by rw [← hq4, ← hrr]; exact (N10 _ (.head _)).1, hfr10⟩, ⟨tb1', hTf1 _ _ N10 fun p hp => .tail _ (List.mem_append_left _ hp)⟩, ⟨tb2', hTf2 _ _ N10 fun p hp => .tail _ (List.mem_append_right _ hp)⟩⟩
end Mine
end

section
open PySem PySem.W PyProof.Rows PySem.Spec PySem.Calls
set_option Elab.async false
set_option maxRecDepth 100000
set_option maxHeartbeats 800000
set_option pp.deepTerms false
set_option pp.deepTerms.threshold 3
set_option pp.maxSteps 6000
namespace Mine
local macro_rules | `(tactic| walk_at "call ref") => `(tactic| refine Stop.go ?_)

/-- what int_divmod answers: a new pair, the tables grown -/
def DmPost (x y : Int) (tb1 tb2 : List (Addr × Obj)) (h : Heap) (v : Value) (h' : Heap) : Prop :=
  PairN h v h' x y ∧ (∃ tb1', TabNext 86 q91 p91 h h' tb1 tb1') ∧ (∃ tb2', TabNext 93 q98 p98 h h' tb2 tb2')

theorem DmPost.from {x' y' : Int} {g h h0 h1 h2 : Heap} {L : Addr} {m : Str → Option Value} {tb1 tb2 tb1' tb2' news' : List (Addr × Obj)} {W : List Addr} {v : Value} (K1 : ∀ b o, b ∉ W → h0.get? b = some o → g.get? b = some o) (F : Fr g L h m) (N : News g L h (tb1 ++ tb2)) (hW : ∀ b ∈ W, b ∈ (tb1 ++ tb2).map (·.1))
    (n1 : TabNext 86 q91 p91 h h1 tb1 tb1') (n2 : TabNext 93 q98 p98 h h1 tb2 tb2') (N' : News g L h2 news') (s1 : ∀ p ∈ tb1', p ∈ news') (s2 : ∀ p ∈ tb2', p ∈ news') (hp : PairN h0 v h2 x' y') : DmPost x' y' tb1 tb2 h0 v h2 :=
  ⟨hp, ⟨tb1', TabNext.from K1 F N hW n1 N' s1⟩, ⟨tb2', TabNext.from K1 F N hW n2 N' s2⟩⟩

theorem tabs_both {g h h' : Heap} {L : Addr} {m : Str → Option Value} {news tb1 tb2 tb1' tb2' : List (Addr × Obj)} (F : Fr g L h m) (N : News g L h news) (s1 : ∀ p ∈ tb1, p ∈ news) (s2 : ∀ p ∈ tb2, p ∈ news) (hT1 : TabLed 86 q91 p91 tb1) (hT2 : TabLed 93 q98 p98 tb2)
    (n1 : TabNext 86 q91 p91 h h' tb1 tb1') (n2 : TabNext 93 q98 p98 h h' tb2 tb2') : News g L h' (tb1' ++ tb2') := news_app (tab_news F N s1 hT1 n1) (tab_news F N s2 hT2 n2)

theorem idm_pos {w : World} {loose : List Str} {mean : ExcName → Option Value} {mg mb : Str → Option Value} {a b : Int} {t1 t2 : Tok} {tb1 tb2 : List (Addr × Obj)} (ha : 0 ≤ a) (hb : 0 < b)
    (hab : Builtin.Int.intBits a ≤ 2000000) (hbb : Builtin.Int.intBits b ≤ 2000000) (hT1 : TabLed 86 q91 p91 tb1) (hT2 : TabLed 93 q98 p98 tb2) :
    Meets w loose mean mg mb 112 [.int a t1, .int b t2] 402 310 ((tb1 ++ tb2).map (·.1)) (fun h => ∀ p ∈ tb1 ++ tb2, h.get? p.1 = some p.2) (DmPost (a / b) (a % b) tb1 tb2) := by
  have Z : (hd.heap_39 w.params).In { objs := #[] } → Challenge.rw_mq0294_01.foot = 11 → True := fun _ _ => trivial
  revert Z; k_fill; intro _
  refine enter (f := 112) (args := [.int a t1, .int b t2]) (d := 402) (u := 310) (binds := [("a", .int a t1), ("b", .int b t2)]) ((tb1 ++ tb2).map (·.1)) (by k_is) (by k_is) (fun s => BindsTo.of_eq rfl) (locs rfl) rfl rfl rfl (by decide) (by omega) ?_
  intro dp un gd outer s R g h₁ L tk hd hu hpre G K1 K2 K3 hlt K4 F ret
  have X := G.X
  have T := G.T
  have N : News g L h₁ (tb1 ++ tb2) := fun p hp => ⟨K4 _ _ (hpre p hp), Nat.ne_of_lt (hlt _ _ (hpre p hp)), K3 _ (List.mem_map_of_mem hp)⟩
  have hpre' : ∀ p ∈ tb1 ++ tb2, h₁.get? p.1 = some p.2 := fun p hp => (N p hp).1
  (try dsimp only)
  (try k_fold)
  k_steps
  · exfalso; omega
  have s1 : ∀ p ∈ tb1, p ∈ tb1 ++ tb2 := fun p hp => List.mem_append_left _ hp
  have s2 : ∀ p ∈ tb2, p ∈ tb1 ++ tb2 := fun p hp => List.mem_append_right _ hp
  refine use (divmod_pos (a := a) (b := b) (tb1 := tb1) (tb2 := tb2) ha hb hab hbb hT1 hT2) (by omega) (by omega) G F N (fun b hb => hb) hpre' ?_
  rintro v h2 tk2 x2 ⟨⟨p2, tq, tr, rfl, e2, n2⟩, ⟨tb1', hn1⟩, ⟨tb2', hn2⟩⟩
  have F2 := fr_ext F x2 (led_notL N fun p hp => hp) (led_none N fun p hp => hp)
  have N2 := tabs_both F N s1 s2 hT1 hT2 hn1 hn2
  exact ret _ _ _ F2.keep (DmPost.from K1 F N (fun b hb => hb) hn1 hn2 N2 (fun p hp => List.mem_append_left _ hp) (fun p hp => List.mem_append_right _ hp) ⟨p2, tq, tr, rfl, e2, fresh_entry K1 F N (fun b hb => hb) n2⟩)

theorem neg_end {a b q r : Int} (hb : 0 < b) (hq : q = (-a - 1) / b) (hr : r = (-a - 1) % b) : -q - 1 = a / b ∧ b + (-r - 1) = a % b := by
  have h1 := Int.mul_ediv_add_emod (-a - 1) b
  have h2 := Int.emod_nonneg (-a - 1) (Int.ne_of_gt hb)
  have h3 := Int.emod_lt_of_pos (-a - 1) hb
  rw [← hq, ← hr] at h1
  rw [← hr] at h2 h3
  obtain ⟨e1, e2⟩ := div_of (a := a) (b := b) (q := -q - 1) (r := b + (-r - 1)) (by
    have : (-q - 1) * b = -(b * q) - b := by grind
    omega) (by omega) (by omega)
  exact ⟨e1.symm, e2.symm⟩

theorem idm {w : World} {loose : List Str} {mean : ExcName → Option Value} {mg mb : Str → Option Value} {a b : Int} {t1 t2 : Tok} {tb1 tb2 : List (Addr × Obj)} (hb : 0 < b)
    (hab : Builtin.Int.intBits a ≤ 1900000) (hbb : Builtin.Int.intBits b ≤ 1900000) (hT1 : TabLed 86 q91 p91 tb1) (hT2 : TabLed 93 q98 p98 tb2) :
    Meets w loose mean mg mb 112 [.int a t1, .int b t2] 410 320 ((tb1 ++ tb2).map (·.1)) (fun h => ∀ p ∈ tb1 ++ tb2, h.get? p.1 = some p.2) (DmPost (a / b) (a % b) tb1 tb2) := by
  by_cases ha : 0 ≤ a
  · intro dp un gd outer s R hd hu G hpre ret
    exact idm_pos ha hb (by omega) (by omega) hT1 hT2 dp un gd outer s R (by omega) (by omega) G hpre ret
  have Z : (hd.heap_39 w.params).In { objs := #[] } → Challenge.rw_mq0294_01.foot = 11 → True := fun _ _ => trivial
  revert Z; k_fill; intro _
  refine enter (f := 112) (args := [.int a t1, .int b t2]) (d := 410) (u := 320) (binds := [("a", .int a t1), ("b", .int b t2)]) ((tb1 ++ tb2).map (·.1)) (by k_is) (by k_is) (fun s => BindsTo.of_eq rfl) (locs rfl) rfl rfl rfl (by decide) (by omega) ?_
  intro dp un gd outer s R g h₁ L tk hd hu hpre G K1 K2 K3 hlt K4 F ret
  have X := G.X
  have T := G.T
  have N : News g L h₁ (tb1 ++ tb2) := fun p hp => ⟨K4 _ _ (hpre p hp), Nat.ne_of_lt (hlt _ _ (hpre p hp)), K3 _ (List.mem_map_of_mem hp)⟩
  have hpre' : ∀ p ∈ tb1 ++ tb2, h₁.get? p.1 = some p.2 := fun p hp => (N p hp).1
  (try dsimp only)
  (try k_fold)
  k_steps
  · exfalso; omega
  have s1 : ∀ p ∈ tb1, p ∈ tb1 ++ tb2 := fun p hp => List.mem_append_left _ hp
  have s2 : ∀ p ∈ tb2, p ∈ tb1 ++ tb2 := fun p hp => List.mem_append_right _ hp
  have hnb : Builtin.Int.intBits (-a - 1) ≤ 2000000 := by
    have := intBits_sub_le (intBits_neg_le hab) (show Builtin.Int.intBits 1 ≤ 1 from by decide)
    omega
  unfold Builtin.bitNot
  refine use (idm_pos (a := -a - 1) (b := b) (tb1 := tb1) (tb2 := tb2) (by omega) hb hnb (by omega) hT1 hT2) (by omega) (by omega) G F N (fun b hb => hb) hpre' ?_
  rintro v h2 tk2 x2 ⟨⟨p2, tq, tr, rfl, e2, n2⟩, ⟨tb1', hn1⟩, ⟨tb2', hn2⟩⟩
  have F2 := fr_ext F x2 (led_notL N fun p hp => hp) (led_none N fun p hp => hp)
  have N2 := tabs_both F N s1 s2 hT1 hT2 hn1 hn2
  have N3 := news_cons N2 e2 (freshL F n2) (fresh0 F n2)
  have fin := fun h2 v (news' : List (Addr × Obj)) (N' : News g L h2 news') c1 c2 (hp : PairN s.heap v h2 (a / b) (a % b)) => DmPost.from K1 F N (fun b hb => hb) hn1 hn2 N' c1 c2 hp
  have hW2 : ∀ b ∈ (tb1 ++ tb2).map (·.1), b ∈ (tb1' ++ tb2').map (·.1) := by
    intro b hb
    rw [List.map_append] at hb ⊢
    rcases List.mem_append.mp hb with hb | hb
    · exact List.mem_append_left _ (hn1.2.2.2 b hb)
    · exact List.mem_append_right _ (hn2.2.2.2 b hb)
  clear N2
  k_steps
  (rename Fr _ _ _ _ => F4); (rename News _ _ _ _ => N4)
  obtain ⟨z1, z2⟩ := neg_end (a := a) hb rfl rfl
  unfold Builtin.bitNot at N4
  rw [z1, z2] at N4
  refine ret _ _ _ F4.keep (fin _ _ _ N4 (fun p hp => .tail _ (.tail _ (List.mem_append_left _ hp))) (fun p hp => .tail _ (.tail _ (List.mem_append_right _ hp))) ⟨_, _, _, rfl, (N4 _ (.head _)).1, ?_⟩)
  refine fresh_of K1 (fun hm => ?_) (N4 _ (.head _)).2.2
  exact not_mem_of (fields_ne N4 rfl (fun p hp => .tail _ hp) (fun p hp => (List.mem_append.mp hp).elim (hn1.1.fields p) (hn2.1.fields p))) (hW2 _ hm)
end Mine
end

section
open PySem PySem.W PyProof.Rows PySem.Spec PySem.Calls
set_option Elab.async false
set_option maxRecDepth 100000
set_option maxHeartbeats 800000
namespace Mine
/-- hour, place, number -/
abbrev T3 : Type := Int × Int × Int
def tlt (t u : T3) : Bool := if t.1 = u.1 then (if t.2.1 = u.2.1 then decide (t.2.2 < u.2.2) else decide (t.2.1 < u.2.1)) else decide (t.1 < u.1)
abbrev trO (t : T3) (u1 u2 u3 : Tok) : Obj := tupO [.int t.1 u1, .int t.2.1 u2, .int t.2.2 u3]
def IsT (h : Heap) (v : Value) (t : T3) : Prop := ∃ a u1 u2 u3, v = .ref a ∧ h.get? a = some (trO t u1 u2 u3)
theorem IsT.keeps {h h' : Heap} {v : Value} {t : T3} (x : IsT h v t) (k : ∀ b o, h.get? b = some o → h'.get? b = some o) : IsT h' v t := let ⟨a, u1, u2, u3, e, g⟩ := x; ⟨a, u1, u2, u3, e, k _ _ g⟩
section
variable {w : World} {A : Around} {E : Value → Shared → Prop} {s : Shared} {a b : Addr} {t u : T3} {t1 t2 t3 u1 u2 u3 : Tok}
theorem tuple_lt_tree {P : PySem.Fin → Shared → Prop} (ha : s.heap.get? a = some (trO t t1 t2 t3)) (hb : s.heap.get? b = some (trO u u1 u2 u3)) (h : P (.done (.ret (.bool (tlt t u)))) s) :
    wpAny (model PR w) A (Builtin.«tuple.__lt__» ⟨[.ref a, .ref b], []⟩) P E s := by
  apply wpAny_bind (m := isInstance (.ref b) (.type "tuple"))
  apply wpAny_isInstance (show s.TypeIs (.ref b) "tuple" from ⟨_, hb, rfl⟩) isSubtype_tuple_tuple
  simp only [Bool.not_true, Bool.false_eq_true, if_false]
  refine wpAny_bind (wpAny_tupleItemsOf ha rfl ?_)
  refine wpAny_bind (wpAny_tupleItemsOf hb rfl ?_)
  refine wpAny_bind ?_
  simp only [List.toList_toArray, List.zip_cons_cons, List.zip_nil_right, List.forIn_cons, List.forIn_nil]
  refine wpAny_bind (wpAny_bind (wpAny_eqBool_int ?_))
  unfold tlt at h
  by_cases e1 : t.1 = u.1
  · rw [if_pos e1] at h
    simp only [e1, beq_self_eq_true, Bool.not_true, Bool.false_eq_true, if_false]
    refine wpAny_pure ?_
    dsimp only
    refine wpAny_bind (wpAny_bind (wpAny_eqBool_int ?_))
    by_cases e2 : t.2.1 = u.2.1
    · rw [if_pos e2] at h
      simp only [e2, beq_self_eq_true, Bool.not_true, Bool.false_eq_true, if_false]
      refine wpAny_pure ?_
      dsimp only
      refine wpAny_bind (wpAny_bind (wpAny_eqBool_int ?_))
      by_cases e3 : t.2.2 = u.2.2
      · simp only [e3, beq_self_eq_true, Bool.not_true, Bool.false_eq_true, if_false]
        refine wpAny_pure ?_
        dsimp only
        refine wpAny_pure ?_
        dsimp only
        refine wpAny_pure ?_
        have : decide (t.2.2 < u.2.2) = false := by simp; omega
        rw [this] at h
        exact h
      · have e3' : (t.2.2 == u.2.2) = false := by simpa using e3
        simp only [e3', Bool.not_false, if_true]
        exact wpAny_bind (wpAny_rule (wpAny_bind (wpAny_lt_int (wpAny_bind (wpAny_pure (wpAny_pure (wpAny_pure (wpAny_pure h))))))))
    · rw [if_neg e2] at h
      have e2' : (t.2.1 == u.2.1) = false := by simpa using e2
      simp only [e2', Bool.not_false, if_true]
      exact wpAny_bind (wpAny_rule (wpAny_bind (wpAny_lt_int (wpAny_bind (wpAny_pure (wpAny_pure (wpAny_pure (wpAny_pure h))))))))
  · rw [if_neg e1] at h
    have e1' : (t.1 == u.1) = false := by simpa using e1
    simp only [e1', Bool.not_false, if_true]
    exact wpAny_bind (wpAny_rule (wpAny_bind (wpAny_lt_int (wpAny_bind (wpAny_pure (wpAny_pure (wpAny_pure (wpAny_pure h))))))))

theorem lt_trip {Q : Value → Shared → Prop} (hu : A.units < cLine) (ha : s.heap.get? a = some (trO t t1 t2 t3)) (hb : s.heap.get? b = some (trO u u1 u2 u3)) (h : Q (.bool (tlt t u)) s) :
    wpAny (model PR w) A (compareOp .Lt (.ref a) (.ref b)) Q E s := by
  refine cmp_ofLt (wpAny_richCompare_same_room (op := .Lt) (T := "tuple") ⟨_, ha, rfl⟩ ⟨_, hb, rfl⟩ F.slot_tuple_lt
    (wpAny_call_entry F.slot_tuple_lt ⟨_, ha, rfl⟩ F.entry_tuple_lt (tuple_lt_tree ha hb ⟨_, rfl, (fun e => nomatch e), h⟩) (F.args_tuple_lt_2 _ _)) hu)
end
end Mine
namespace Mine
def TsAre (h : Heap) (vs : List Value) (ts : List T3) : Prop := vs.length = ts.length ∧ ∀ (i : Nat) v t, vs[i]? = some v → ts[i]? = some t → IsT h v t
theorem TsAre.keeps {h h' : Heap} {vs : List Value} {ts : List T3} (x : TsAre h vs ts) (k : ∀ b o, h.get? b = some o → h'.get? b = some o) : TsAre h' vs ts := ⟨x.1, fun i v t a b => (x.2 i v t a b).keeps k⟩
theorem TsAre.get {h : Heap} {vs : List Value} {ts : List T3} (x : TsAre h vs ts) {i : Nat} (hi : i < ts.length) : ∃ v, vs[i]? = some v ∧ IsT h v (ts.getD i (0, 0, 0)) := by
  have hv : i < vs.length := by rw [x.1]; exact hi
  refine ⟨vs[i], List.getElem?_eq_getElem hv, x.2 i _ _ (List.getElem?_eq_getElem hv) ?_⟩
  rw [List.getD_eq_getElem?_getD, List.getElem?_eq_getElem hi]; rfl
theorem TsAre.set {h : Heap} {vs : List Value} {ts : List T3} (x : TsAre h vs ts) {v : Value} {t : T3} (k : Nat) (hv : IsT h v t) : TsAre h (vs.set k v) (ts.set k t) := by
  refine ⟨by rw [List.length_set, List.length_set]; exact x.1, fun i v' t' h1 h2 => ?_⟩
  rw [List.getElem?_set] at h1 h2
  by_cases e : k = i
  · subst e
    rw [if_pos rfl] at h1 h2
    by_cases hl : k < vs.length
    · rw [if_pos hl] at h1
      rw [if_pos (by rw [← x.1]; exact hl)] at h2
      cases h1; cases h2; exact hv
    · rw [if_neg hl] at h1; cases h1
  · rw [if_neg e] at h1 h2
    exact x.2 i v' t' h1 h2
section
variable {w : World} {A : Around} {E : Value → Shared → Prop} {s : Shared} {h₀ : Heap} {L D : Addr} {m : Str → Option Value} {rest : List (Addr × Obj)} {vs : List Value} {c k : Nat} {t : Tok} {v : Value}
theorem setT {Q : Unit → Shared → Prop} (F : Fr h₀ L s.heap m) (N : News h₀ L s.heap ((D, W.listOf vs.toArray c) :: rest)) (hne : ∀ p ∈ rest, p.1 ≠ D) (hk : k < vs.length) (hfit : k < 4000000)
    (h : ∀ h', Fr h₀ L h' m → News h₀ L h' ((D, W.listOf (vs.set k v).toArray c) :: rest) → Q () { s with heap := h' }) :
    wpAny (model PR w) A (setItem (.ref D) (.int (k : Int) t) v) Q E s := by
  have z := N (D, W.listOf vs.toArray c) (.head _)
  refine ki_setAt z.1 (Int.natCast_nonneg _) (by omega) (by rw [List.size_toArray]; omega) (h _ (F.change (Heap.SameBut.update ..) z.2.1 z.2.2) (ki_turn (pre := []) _ N (fun _ hp => nomatch hp) hne ?_ ?_))
  · rw [Int.toNat_natCast]
    apply Array.toList_inj.mp
    simp
  · simp
theorem getT {value slice : Expr} {x : Value} {Q : Value → Shared → Prop} (N : News h₀ L s.heap ((D, W.listOf vs.toArray c) :: rest)) (hfit : k < 4000000) (hx : vs[k]? = some x) (h : Q x s)
    (hs : subscripted slice false (.ref D) (.int (k : Int) t) = operate [.ref D, .int (k : Int) t] (getItem (.ref D) (.int (k : Int) t)) := by with_unfolding_all rfl) (hg : ∀ r, letTemporaryGo value (.ref D) r = pure () := by intro _; with_unfolding_all rfl) :
    wpAny (model PR w) A (subscriptTail value slice (.ref D) (.int (k : Int) t)) Q E s :=
  kim_list N (.head _) rfl rfl (Int.natCast_nonneg _) (by omega) (by rw [Int.toNat_natCast]; exact hx) h hs hg
end
/-- sift down (towards the root), pure -/
def sdn (lt : T3 → T3 → Bool) (new : T3) (start : Nat) : Nat → Nat → List T3 → List T3
  | 0, pos, ts => ts.set pos new
  | f + 1, pos, ts => if start < pos then
      (if lt new (ts.getD ((pos - 1) / 2) (0, 0, 0)) = true then sdn lt new start f ((pos - 1) / 2) (ts.set pos (ts.getD ((pos - 1) / 2) (0, 0, 0))) else ts.set pos new)
    else ts.set pos new
theorem sdn_stop {lt : T3 → T3 → Bool} {new : T3} {start f pos : Nat} {ts : List T3} (h : ¬ start < pos) : sdn lt new start f pos ts = ts.set pos new := by
  cases f with
  | zero => rfl
  | succ f => rw [sdn, if_neg h]
theorem sdn_step {lt : T3 → T3 → Bool} {new : T3} {start f pos : Nat} {ts : List T3} (h : start < pos) (hf : pos ≤ f) :
    sdn lt new start f pos ts = if lt new (ts.getD ((pos - 1) / 2) (0, 0, 0)) = true then sdn lt new start (f - 1) ((pos - 1) / 2) (ts.set pos (ts.getD ((pos - 1) / 2) (0, 0, 0))) else ts.set pos new := by
  cases f with
  | zero => omega
  | succ f => rw [sdn, if_pos h]; rfl
/-- sift up (to a leaf), pure -/
def sup (lt : T3 → T3 → Bool) (endp : Nat) : Nat → Nat → List T3 → Nat × List T3
  | 0, pos, ts => (pos, ts)
  | f + 1, pos, ts => if 2 * pos + 1 < endp then
      (if 2 * pos + 1 + 1 < endp ∧ lt (ts.getD (2 * pos + 1) (0, 0, 0)) (ts.getD (2 * pos + 1 + 1) (0, 0, 0)) = false then sup lt endp f (2 * pos + 1 + 1) (ts.set pos (ts.getD (2 * pos + 1 + 1) (0, 0, 0)))
       else sup lt endp f (2 * pos + 1) (ts.set pos (ts.getD (2 * pos + 1) (0, 0, 0))))
    else (pos, ts)
theorem sup_stop {lt : T3 → T3 → Bool} {endp f pos : Nat} {ts : List T3} (h : ¬ 2 * pos + 1 < endp) : sup lt endp f pos ts = (pos, ts) := by
  cases f with
  | zero => rfl
  | succ f => rw [sup, if_neg h]
theorem sup_step {lt : T3 → T3 → Bool} {endp f pos : Nat} {ts : List T3} (h : 2 * pos + 1 < endp) (hf : endp - pos ≤ f) :
    sup lt endp f pos ts = if 2 * pos + 1 + 1 < endp ∧ lt (ts.getD (2 * pos + 1) (0, 0, 0)) (ts.getD (2 * pos + 1 + 1) (0, 0, 0)) = false then sup lt endp (f - 1) (2 * pos + 1 + 1) (ts.set pos (ts.getD (2 * pos + 1 + 1) (0, 0, 0)))
       else sup lt endp (f - 1) (2 * pos + 1) (ts.set pos (ts.getD (2 * pos + 1) (0, 0, 0))) := by
  cases f with
  | zero => omega
  | succ f => rw [sup, if_pos h]; rfl
def sift (lt : T3 → T3 → Bool) (ts : List T3) (pos : Nat) : List T3 :=
  let r := sup lt ts.length ts.length pos ts
  sdn lt (ts.getD pos (0, 0, 0)) pos r.1 r.1 (r.2.set r.1 (ts.getD pos (0, 0, 0)))
end Mine
namespace Mine
theorem getD_set_self {α : Type} {l : List α} {k : Nat} {x d : α} (h : k < l.length) : (l.set k x).getD k d = x := by
  rw [List.getD_eq_getElem?_getD, List.getElem?_set_self h]; rfl
end Mine
namespace Mine
theorem IsT.back {g h : Heap} {v : Value} {t t0 : T3} (k : ∀ b o, g.get? b = some o → h.get? b = some o) (x : IsT h v t) (y : IsT g v t0) : IsT g v t := by
  obtain ⟨a, u1, u2, u3, rfl, e⟩ := x
  obtain ⟨a', w1, w2, w3, e2, e3⟩ := y
  cases e2
  have := Option.some.inj ((k _ _ e3).symm.trans e)
  exact ⟨a, u1, u2, u3, rfl, by rw [e3, this]⟩
theorem TsAre.back {g h : Heap} {vs vs0 : List Value} {ts ts0 : List T3} (k : ∀ b o, g.get? b = some o → h.get? b = some o) (x : TsAre h vs ts) (y : TsAre g vs0 ts0) (hs : ∀ v ∈ vs, v ∈ vs0) : TsAre g vs ts := by
  refine ⟨x.1, fun i v t h1 h2 => ?_⟩
  obtain ⟨j, hj, e⟩ := List.mem_iff_getElem.mp (hs v (List.mem_of_getElem? h1))
  have hj' : j < ts0.length := by rw [← y.1]; exact hj
  exact (x.2 i v t h1 h2).back k (y.2 j v ts0[j] (by rw [List.getElem?_eq_getElem hj, e]) (List.getElem?_eq_getElem hj'))
end Mine
end

section
open PySem PySem.W PyProof.Rows PySem.Spec PySem.Calls
set_option Elab.async false
set_option maxRecDepth 100000
set_option maxHeartbeats 800000
set_option pp.deepTerms false
set_option pp.deepTerms.threshold 3
set_option pp.maxSteps 6000
namespace Mine
local macro_rules | `(tactic| walk_at "subscriptTail") => `(tactic| refine Stop.go ?_)
local macro_rules | `(tactic| walk_at "setItem ref int") => `(tactic| refine Stop.go ?_)
local macro_rules | `(tactic| walk_at "compareOp Lt ref ref") => `(tactic| refine Stop.go ?_)
local macro_rules | `(tactic| walk_at "compareOp Lt ref") => `(tactic| refine Stop.go ?_)
local macro_rules | `(tactic| walk_at "exec While Compare cons nil") => `(tactic| refine Stop.go ?_)
local macro_rules | `(tactic| walk_at "exec While") => `(tactic| refine Stop.go ?_)

/-- the list at D holds the triples ts -/
def LTs (h : Heap) (D : Addr) (ts : List T3) : Prop := ∃ vs c, h.get? D = some (W.listOf (List.toArray vs) c) ∧ TsAre h vs ts

/-- the list at D behind a call: the triples ts, all its items were in it before -/
def LTsP (h h' : Heap) (D : Addr) (ts : List T3) : Prop := ∃ vs c, h'.get? D = some (W.listOf (List.toArray vs) c) ∧ TsAre h' vs ts ∧ ∀ vs0 c0, h.get? D = some (W.listOf (List.toArray vs0) c0) → ∀ v ∈ vs, v ∈ vs0
theorem sub_set {vs vs0 : List Value} {k : Nat} {x : Value} (h : ∀ v ∈ vs, v ∈ vs0) (hx : x ∈ vs0) : ∀ v ∈ vs.set k x, v ∈ vs0 := fun v hv => (List.mem_or_eq_of_mem_set hv).elim (h v) (fun e => e ▸ hx)
theorem listOf_inj {vs vs0 : List Value} {c c0 : Nat} (h : some (W.listOf (List.toArray vs) c) = some (W.listOf (List.toArray vs0) c0)) : vs = vs0 := by
  have e := congrArg Obj.data (Option.some.inj h)
  injection e with e1
  simpa using e1
theorem IsT.off {h g : Heap} {v : Value} {t : T3} {D : Addr} {vs : List Value} {c : Nat} (K1 : ∀ b o, b ∉ [D] → h.get? b = some o → g.get? b = some o) (e : h.get? D = some (W.listOf (List.toArray vs) c)) (x : IsT h v t) : IsT g v t := by
  obtain ⟨a, u1, u2, u3, rfl, hg⟩ := x
  refine ⟨a, u1, u2, u3, rfl, K1 _ _ (fun hm => ?_) hg⟩
  rw [List.mem_singleton.mp hm, e] at hg
  have := congrArg Obj.cls (Option.some.inj hg)
  injection this with h1
  exact absurd h1 (by decide)
theorem TsAre.off {h g : Heap} {D : Addr} {vs vs' : List Value} {ts : List T3} {c : Nat} (K1 : ∀ b o, b ∉ [D] → h.get? b = some o → g.get? b = some o) (e : h.get? D = some (W.listOf (List.toArray vs') c)) (x : TsAre h vs ts) : TsAre g vs ts :=
  ⟨x.1, fun i v t a b => (x.2 i v t a b).off K1 e⟩

theorem siftdown {w : World} {loose : List Str} {mean : ExcName → Option Value} {mg mb : Str → Option Value} {D : Addr} {ts : List T3} {start pos : Nat} {t2 t3 : Tok} (hpos : pos < ts.length) (hlen : ts.length ≤ 100) :
    Meets w loose mean mg mb 49 [.ref D, .int start t2, .int pos t3] 10 60 [D] (fun h => LTs h D ts) (fun h v h' => v = .none ∧ LTsP h h' D (sdn tlt (ts.getD pos (0, 0, 0)) start pos pos ts)) := by
  have Z : (hd.heap_39 w.params).In { objs := #[] } → Challenge.rw_mq0294_01.foot = 11 → True := fun _ _ => trivial
  revert Z; k_fill; intro _
  refine enter (f := 49) (args := [.ref D, .int start t2, .int pos t3]) (d := 10) (u := 60) (binds := [("heap", .ref D), ("startpos", .int start t2), ("pos", .int pos t3)]) [D] (by k_is) (by k_is) (fun s => BindsTo.of_eq rfl) (locs rfl) rfl rfl rfl (by decide) (by omega) ?_
  intro dp un gd outer s R g h₁ L tk hd hu hpre G K1 K2 K3 hlt K4 F ret
  obtain ⟨vs, c, hD, hT⟩ := hpre
  have hTg := hT.off K1 hD
  have X := G.X
  have T := G.T
  have N : News g L h₁ [(D, W.listOf vs.toArray c)] := fun p hp => by
    rw [List.mem_singleton.mp hp]; exact ⟨K4 _ _ hD, Nat.ne_of_lt (hlt _ _ hD), K3 _ (.head _)⟩
  obtain ⟨v0, hv0, a0, u1, u2, u3, rfl, hg0⟩ := hTg.get hpos
  (try dsimp only)
  (try k_fold)
  k_steps
  refine getT (k := pos) N (by omega) hv0 ?_
  k_steps
  (rename Fr _ _ _ _ => F1); (rename News _ _ _ _ => N1)
  generalize hnew : ts.getD pos (0, 0, 0) = new at *
  refine While_inv2 (fun k m news => ∃ (p : Nat) (tp : Tok) (vs' : List Value) (ts' : List T3) (f : Nat), news = [(D, W.listOf vs'.toArray c)] ∧ TsAre g vs' ts' ∧ (∀ v ∈ vs', v ∈ vs) ∧ ts'.length = ts.length ∧ p < ts.length ∧ p ≤ f ∧ k = p ∧ sdn tlt new start f p ts' = sdn tlt new start pos pos ts ∧
      m "pos" = some (.int p tp) ∧ m "heap" = some (.ref D) ∧ m "startpos" = some (.int start t2) ∧ m "newitem" = some (.ref a0)) F1 N1 ⟨pos, _, vs, ts, pos, rfl, hTg, fun v hv => hv, rfl, hpos, Nat.le_refl _, rfl, rfl, rfl, rfl, rfl, rfl⟩ ?_ (fun _ _ h => h.elim)
  rintro k m₁ _ h2 tk2 F2 N2 ⟨p, tp, vs', ts', f, rfl, hT', hsv, hl', hp, hpf, rfl, hs, m1, m2, m3, m4⟩
  have F3 := fr_known F2 [("pos", .int k tp), ("heap", .ref D), ("startpos", .int start t2), ("newitem", .ref a0)] (by simp [m1, m2, m3, m4])
  clear F2 F1 N1
  k_steps
  · rename_i hsp
    have hsp' : start < k := by omega
    (rename Fr _ _ _ _ => F4); (rename News _ _ _ _ => N4)
    have hpp : ((k : Int) - 1).fdiv (2 ^ Int.toNat 1) = (((k - 1) / 2 : Nat) : Int) := by
      rw [show Int.toNat 1 = 1 from rfl, fdiv_pow]; omega
    rw [hpp] at F4 ⊢
    obtain ⟨v1, hv1, a1, y1, y2, y3, rfl, hg1⟩ := hT'.get (i := (k - 1) / 2) (by omega)
    refine getT (k := (k - 1) / 2) N4 (by omega) hv1 ?_
    rw [sdn_step hsp' hpf] at hs
    k_steps
    (rename Fr _ _ _ _ => F5); (rename News _ _ _ _ => N5)
    refine lt_trip (by rw [cLim] at *; show un < 9900; omega) (F5.keep _ _ hg0) (F5.keep _ _ hg1) ?_
    k_steps
    · rename_i hlt1
      rw [if_pos hlt1] at hs
      refine setT (k := k) F5 N5 (List.forall_mem_nil _) (by rw [hT'.1]; omega) (by omega) ?_
      intro h6 F6 N6
      k_steps
      (rename Fr _ _ _ _ => F7); (rename News _ _ _ _ => N7)
      exact ⟨_, _, _, _, (k - 1) / 2, rfl, F7, N7, by omega, (k - 1) / 2, _, _, _, f - 1, rfl, hT'.set k ⟨a1, y1, y2, y3, rfl, hg1⟩, sub_set hsv (hsv _ (List.mem_of_getElem? hv1)), by rw [List.length_set]; exact hl', by omega, by omega, rfl, hs, rfl, rfl, rfl, rfl⟩
    · rename_i hlt1
      rw [if_neg (by rw [hlt1]; decide)] at hs
      k_steps
      dsimp only [WhileStep2]
      k_steps
      refine setT (k := k) F5 N5 (List.forall_mem_nil _) (by rw [hT'.1]; omega) (by omega) ?_
      intro h6 F6 N6
      k_steps
      refine ret _ _ _ F6.keep ⟨rfl, _, _, (N6 _ (.head _)).1, ?_, fun vs0 c0 e0 => by rw [← listOf_inj (hD.symm.trans e0)]; exact sub_set hsv (List.mem_of_getElem? hv0)⟩
      rw [← hs]
      exact (hT'.set k ⟨a0, u1, u2, u3, rfl, hg0⟩).keeps F6.keep
  · rename_i hsp
    refine setT (k := k) F3 N2 (List.forall_mem_nil _) (by rw [hT'.1]; omega) (by omega) ?_
    intro h6 F6 N6
    k_steps
    refine ret _ _ _ F6.keep ⟨rfl, _, _, (N6 _ (.head _)).1, ?_, fun vs0 c0 e0 => by rw [← listOf_inj (hD.symm.trans e0)]; exact sub_set hsv (List.mem_of_getElem? hv0)⟩
    rw [← hs, sdn_stop (by omega)]
    exact (hT'.set k ⟨a0, u1, u2, u3, rfl, hg0⟩).keeps F6.keep
/-- the other order -/
def tgt (t u : T3) : Bool := tlt u t
theorem siftdownMax {w : World} {loose : List Str} {mean : ExcName → Option Value} {mg mb : Str → Option Value} {D : Addr} {ts : List T3} {start pos : Nat} {t2 t3 : Tok} (hpos : pos < ts.length) (hlen : ts.length ≤ 100) :
    Meets w loose mean mg mb 63 [.ref D, .int start t2, .int pos t3] 10 60 [D] (fun h => LTs h D ts) (fun h v h' => v = .none ∧ LTsP h h' D (sdn tgt (ts.getD pos (0, 0, 0)) start pos pos ts)) := by
  have Z : (hd.heap_39 w.params).In { objs := #[] } → Challenge.rw_mq0294_01.foot = 11 → True := fun _ _ => trivial
  revert Z; k_fill; intro _
  refine enter (f := 63) (args := [.ref D, .int start t2, .int pos t3]) (d := 10) (u := 60) (binds := [("heap", .ref D), ("startpos", .int start t2), ("pos", .int pos t3)]) [D] (by k_is) (by k_is) (fun s => BindsTo.of_eq rfl) (locs rfl) rfl rfl rfl (by decide) (by omega) ?_
  intro dp un gd outer s R g h₁ L tk hd hu hpre G K1 K2 K3 hlt K4 F ret
  obtain ⟨vs, c, hD, hT⟩ := hpre
  have hTg := hT.off K1 hD
  have X := G.X
  have T := G.T
  have N : News g L h₁ [(D, W.listOf vs.toArray c)] := fun p hp => by
    rw [List.mem_singleton.mp hp]; exact ⟨K4 _ _ hD, Nat.ne_of_lt (hlt _ _ hD), K3 _ (.head _)⟩
  obtain ⟨v0, hv0, a0, u1, u2, u3, rfl, hg0⟩ := hTg.get hpos
  (try dsimp only)
  (try k_fold)
  k_steps
  refine getT (k := pos) N (by omega) hv0 ?_
  k_steps
  (rename Fr _ _ _ _ => F1); (rename News _ _ _ _ => N1)
  generalize hnew : ts.getD pos (0, 0, 0) = new at *
  refine While_inv2 (fun k m news => ∃ (p : Nat) (tp : Tok) (vs' : List Value) (ts' : List T3) (f : Nat), news = [(D, W.listOf vs'.toArray c)] ∧ TsAre g vs' ts' ∧ (∀ v ∈ vs', v ∈ vs) ∧ ts'.length = ts.length ∧ p < ts.length ∧ p ≤ f ∧ k = p ∧ sdn tgt new start f p ts' = sdn tgt new start pos pos ts ∧
      m "pos" = some (.int p tp) ∧ m "heap" = some (.ref D) ∧ m "startpos" = some (.int start t2) ∧ m "newitem" = some (.ref a0)) F1 N1 ⟨pos, _, vs, ts, pos, rfl, hTg, fun v hv => hv, rfl, hpos, Nat.le_refl _, rfl, rfl, rfl, rfl, rfl, rfl⟩ ?_ (fun _ _ h => h.elim)
  rintro k m₁ _ h2 tk2 F2 N2 ⟨p, tp, vs', ts', f, rfl, hT', hsv, hl', hp, hpf, rfl, hs, m1, m2, m3, m4⟩
  have F3 := fr_known F2 [("pos", .int k tp), ("heap", .ref D), ("startpos", .int start t2), ("newitem", .ref a0)] (by simp [m1, m2, m3, m4])
  clear F2 F1 N1
  k_steps
  · rename_i hsp
    have hsp' : start < k := by omega
    (rename Fr _ _ _ _ => F4); (rename News _ _ _ _ => N4)
    have hpp : ((k : Int) - 1).fdiv (2 ^ Int.toNat 1) = (((k - 1) / 2 : Nat) : Int) := by
      rw [show Int.toNat 1 = 1 from rfl, fdiv_pow]; omega
    rw [hpp] at F4 ⊢
    obtain ⟨v1, hv1, a1, y1, y2, y3, rfl, hg1⟩ := hT'.get (i := (k - 1) / 2) (by omega)
    refine getT (k := (k - 1) / 2) N4 (by omega) hv1 ?_
    rw [sdn_step hsp' hpf] at hs
    k_steps
    (rename Fr _ _ _ _ => F5); (rename News _ _ _ _ => N5)
    refine lt_trip (by rw [cLim] at *; show un < 9900; omega) (F5.keep _ _ hg1) (F5.keep _ _ hg0) ?_
    k_steps
    · rename_i hlt1
      rw [if_pos (show tgt _ _ = true from hlt1)] at hs
      refine setT (k := k) F5 N5 (List.forall_mem_nil _) (by rw [hT'.1]; omega) (by omega) ?_
      intro h6 F6 N6
      k_steps
      (rename Fr _ _ _ _ => F7); (rename News _ _ _ _ => N7)
      exact ⟨_, _, _, _, (k - 1) / 2, rfl, F7, N7, by omega, (k - 1) / 2, _, _, _, f - 1, rfl, hT'.set k ⟨a1, y1, y2, y3, rfl, hg1⟩, sub_set hsv (hsv _ (List.mem_of_getElem? hv1)), by rw [List.length_set]; exact hl', by omega, by omega, rfl, hs, rfl, rfl, rfl, rfl⟩
    · rename_i hlt1
      rw [if_neg (by rw [show tgt _ _ = false from hlt1]; decide)] at hs
      k_steps
      dsimp only [WhileStep2]
      k_steps
      refine setT (k := k) F5 N5 (List.forall_mem_nil _) (by rw [hT'.1]; omega) (by omega) ?_
      intro h6 F6 N6
      k_steps
      refine ret _ _ _ F6.keep ⟨rfl, _, _, (N6 _ (.head _)).1, ?_, fun vs0 c0 e0 => by rw [← listOf_inj (hD.symm.trans e0)]; exact sub_set hsv (List.mem_of_getElem? hv0)⟩
      rw [← hs]
      exact (hT'.set k ⟨a0, u1, u2, u3, rfl, hg0⟩).keeps F6.keep
  · rename_i hsp
    refine setT (k := k) F3 N2 (List.forall_mem_nil _) (by rw [hT'.1]; omega) (by omega) ?_
    intro h6 F6 N6
    k_steps
    refine ret _ _ _ F6.keep ⟨rfl, _, _, (N6 _ (.head _)).1, ?_, fun vs0 c0 e0 => by rw [← listOf_inj (hD.symm.trans e0)]; exact sub_set hsv (List.mem_of_getElem? hv0)⟩
    rw [← hs, sdn_stop (by omega)]
    exact (hT'.set k ⟨a0, u1, u2, u3, rfl, hg0⟩).keeps F6.keep
end Mine
end

section
open PySem PySem.W PyProof.Rows PySem.Spec PySem.Calls
set_option Elab.async false
set_option maxRecDepth 100000
set_option maxHeartbeats 800000
set_option pp.deepTerms false
set_option pp.deepTerms.threshold 3
set_option pp.maxSteps 6000
namespace Mine
local macro_rules | `(tactic| walk_at "subscriptTail") => `(tactic| refine Stop.go ?_)
local macro_rules | `(tactic| walk_at "setItem ref int") => `(tactic| refine Stop.go ?_)
local macro_rules | `(tactic| walk_at "compareOp Lt ref ref") => `(tactic| refine Stop.go ?_)
local macro_rules | `(tactic| walk_at "compareOp Lt ref") => `(tactic| refine Stop.go ?_)
local macro_rules | `(tactic| walk_at "exec While Compare cons nil") => `(tactic| refine Stop.go ?_)
local macro_rules | `(tactic| walk_at "exec While") => `(tactic| refine Stop.go ?_)
local macro_rules | `(tactic| walk_at "call builtin:len") => `(tactic| refine Stop.go ?_)
local macro_rules | `(tactic| walk_at "call ref") => `(tactic| refine Stop.go ?_)

theorem siftup {w : World} {loose : List Str} {mean : ExcName → Option Value} {mg mb : Str → Option Value} {D : Addr} {ts : List T3} {pos : Nat} {t3 : Tok} (hpos : pos < ts.length) (hlen : ts.length ≤ 100) :
    Meets w loose mean mg mb 56 [.ref D, .int pos t3] 20 90 [D] (fun h => LTs h D ts) (fun h v h' => v = .none ∧ LTsP h h' D (sift tlt ts pos)) := by
  have Z : (hd.heap_39 w.params).In { objs := #[] } → Challenge.rw_mq0294_01.foot = 11 → True := fun _ _ => trivial
  revert Z; k_fill; intro _
  refine enter (f := 56) (args := [.ref D, .int pos t3]) (d := 20) (u := 90) (binds := [("heap", .ref D), ("pos", .int pos t3)]) [D] (by k_is) (by k_is) (fun s => BindsTo.of_eq rfl) (locs rfl) rfl rfl rfl (by decide) (by omega) ?_
  intro dp un gd outer s R g h₁ L tk hd hu hpre G K1 K2 K3 hlt K4 F ret
  obtain ⟨vs, c, hD, hT⟩ := hpre
  have hTg := hT.off K1 hD
  have X := G.X
  have T := G.T
  have N : News g L h₁ [(D, W.listOf vs.toArray c)] := fun p hp => by
    rw [List.mem_singleton.mp hp]; exact ⟨K4 _ _ hD, Nat.ne_of_lt (hlt _ _ hD), K3 _ (.head _)⟩
  obtain ⟨v0, hv0, a0, u1, u2, u3, rfl, hg0⟩ := hTg.get hpos
  have hlist : h₁.IsList D vs.toArray := ⟨_, K4 _ _ hD, rfl, _, rfl⟩
  (try dsimp only)
  (try k_fold)
  k_steps
  refine KM.len_K (n := ts.length) N (.head _) (by rw [List.size_toArray]; exact hTg.1) (by omega) ?_
  k_steps
  (rename Fr _ _ _ _ => F0); (rename News _ _ _ _ => N0)
  refine getT (k := pos) N0 (by omega) hv0 ?_
  k_steps
  (rename Fr _ _ _ _ => F1); (rename News _ _ _ _ => N1)
  have hc0 : (2 * (pos : Int) + 1) = ((2 * pos + 1 : Nat) : Int) := by omega
  rw [hc0] at F1
  refine While_inv2 (fun k m news => ∃ (p : Nat) (tp tc te : Tok) (vs' : List Value) (ts' : List T3) (f : Nat), news = [(D, W.listOf vs'.toArray c)] ∧ TsAre g vs' ts' ∧ (∀ v ∈ vs', v ∈ vs) ∧ ts'.length = ts.length ∧ p < ts.length ∧ ts.length - p ≤ f ∧ k = ts.length - p ∧ sup tlt ts.length f p ts' = sup tlt ts.length ts.length pos ts ∧
      m "pos" = some (.int p tp) ∧ m "childpos" = some (.int ((2 * p + 1 : Nat) : Int) tc) ∧ m "endpos" = some (.int ts.length te) ∧ m "heap" = some (.ref D) ∧ m "startpos" = some (.int pos t3) ∧ m "newitem" = some (.ref a0)) F1 N1 ⟨pos, _, _, _, vs, ts, ts.length, rfl, hTg, fun v hv => hv, rfl, hpos, by omega, rfl, rfl, rfl, rfl, rfl, rfl, rfl, rfl⟩ ?_ (fun _ _ h => h.elim)
  rintro k m₁ _ h2 tk2 F2 N2 ⟨p, tp, tc, te, vs', ts', f, rfl, hT', hsv, hl', hp, hpf, rfl, hs, m1, m2, m3, m4, m5, m6⟩
  have F3 := fr_known F2 [("pos", .int p tp), ("childpos", .int ((2 * p + 1 : Nat) : Int) tc), ("endpos", .int ts.length te), ("heap", .ref D), ("startpos", .int pos t3), ("newitem", .ref a0)] (by simp [m1, m2, m3, m4, m5, m6])
  clear F2 F1 N1
  k_steps
  · rename_i hc1 _ hr1
    have hr : (((2 * p + 1 : Nat) : Int) + 1) = ((2 * p + 1 + 1 : Nat) : Int) := by omega
    (rename Fr _ _ _ _ => F4); (rename News _ _ _ _ => N4)
    rw [hr] at F4
    obtain ⟨v1, hv1, a1, y1, y2, y3, rfl, hg1⟩ := hT'.get (i := 2 * p + 1) (by omega)
    obtain ⟨v3, hv3, a3, x1, x2, x3, rfl, hg3⟩ := hT'.get (i := 2 * p + 1 + 1) (by omega)
    refine getT (k := 2 * p + 1) N4 (by omega) hv1 ?_
    k_steps
    refine getT (k := 2 * p + 1 + 1) N4 (by omega) hv3 ?_
    k_steps
    refine lt_trip (by rw [cLim] at *; show un < 9900; omega) (F4.keep _ _ hg1) (F4.keep _ _ hg3) ?_
    k_steps
    · rename_i hb1
      obtain ⟨v2, hv2, a2, z1, z2, z3, rfl, hg2⟩ := hT'.get (i := 2 * p + 1) (by omega)
      (rename Fr _ _ _ _ => F5); (rename News _ _ _ _ => N5)
      refine getT (k := 2 * p + 1) N5 (by omega) hv2 ?_
      k_steps
      (rename Fr _ _ _ _ => F6); (rename News _ _ _ _ => N6)
      refine setT (k := p) F6 N6 (List.forall_mem_nil _) (by rw [hT'.1]; omega) (by omega) ?_
      intro h7 F7 N7
      k_steps
      (rename Fr _ _ _ _ => F8); (rename News _ _ _ _ => N8)
      have hc2 : (2 * ((2 * p + 1 : Nat) : Int) + 1) = ((2 * (2 * p + 1) + 1 : Nat) : Int) := by omega
      rw [hc2] at F8
      rw [sup_step (by omega) hpf, if_neg (fun h => by rw [hb1] at h; cases h.2)] at hs
      exact ⟨_, _, _, _, ts.length - (2 * p + 1), rfl, F8, N8, by omega, 2 * p + 1, _, _, _, _, _, f - 1, rfl, hT'.set p ⟨a2, z1, z2, z3, rfl, hg2⟩, sub_set hsv (hsv _ (List.mem_of_getElem? hv2)), by rw [List.length_set]; exact hl', by omega, by omega, rfl, hs, rfl, rfl, rfl, rfl, rfl, rfl⟩
    · (rename tlt _ _ = false => hb1)
      obtain ⟨v2, hv2, a2, z1, z2, z3, rfl, hg2⟩ := hT'.get (i := 2 * p + 1 + 1) (by omega)
      (rename Fr _ _ _ _ => F5); (rename News _ _ _ _ => N5)
      refine getT (k := 2 * p + 1 + 1) N5 (by omega) hv2 ?_
      k_steps
      (rename Fr _ _ _ _ => F6); (rename News _ _ _ _ => N6)
      refine setT (k := p) F6 N6 (List.forall_mem_nil _) (by rw [hT'.1]; omega) (by omega) ?_
      intro h7 F7 N7
      k_steps
      (rename Fr _ _ _ _ => F8); (rename News _ _ _ _ => N8)
      have hc2 : (2 * ((2 * p + 1 + 1 : Nat) : Int) + 1) = ((2 * (2 * p + 1 + 1) + 1 : Nat) : Int) := by omega
      rw [hc2] at F8
      rw [sup_step (by omega) hpf, if_pos ⟨by omega, hb1⟩] at hs
      exact ⟨_, _, _, _, ts.length - (2 * p + 1 + 1), rfl, F8, N8, by omega, 2 * p + 1 + 1, _, _, _, _, _, f - 1, rfl, hT'.set p ⟨a2, z1, z2, z3, rfl, hg2⟩, sub_set hsv (hsv _ (List.mem_of_getElem? hv2)), by rw [List.length_set]; exact hl', by omega, by omega, rfl, hs, rfl, rfl, rfl, rfl, rfl, rfl⟩
  · rename_i hc1 _ hr1
    obtain ⟨v2, hv2, a2, z1, z2, z3, rfl, hg2⟩ := hT'.get (i := 2 * p + 1) (by omega)
    (rename Fr _ _ _ _ => F5); (rename News _ _ _ _ => N5)
    refine getT (k := 2 * p + 1) N5 (by omega) hv2 ?_
    k_steps
    (rename Fr _ _ _ _ => F6); (rename News _ _ _ _ => N6)
    refine setT (k := p) F6 N6 (List.forall_mem_nil _) (by rw [hT'.1]; omega) (by omega) ?_
    intro h7 F7 N7
    k_steps
    (rename Fr _ _ _ _ => F8); (rename News _ _ _ _ => N8)
    have hc2 : (2 * ((2 * p + 1 : Nat) : Int) + 1) = ((2 * (2 * p + 1) + 1 : Nat) : Int) := by omega
    rw [hc2] at F8
    rw [sup_step (by omega) hpf, if_neg (by omega)] at hs
    exact ⟨_, _, _, _, ts.length - (2 * p + 1), rfl, F8, N8, by omega, 2 * p + 1, _, _, _, _, _, f - 1, rfl, hT'.set p ⟨a2, z1, z2, z3, rfl, hg2⟩, sub_set hsv (hsv _ (List.mem_of_getElem? hv2)), by rw [List.length_set]; exact hl', by omega, by omega, rfl, hs, rfl, rfl, rfl, rfl, rfl, rfl⟩
  · rename_i hc1
    have hpl : p < ts'.length := by omega
    refine setT (k := p) F3 N2 (List.forall_mem_nil _) (by rw [hT'.1]; omega) (by omega) ?_
    intro h6 F6 N6
    clear F3 N2
    k_steps
    (rename Fr _ _ _ _ => F7); (rename News _ _ _ _ => N7)
    rw [sup_stop (by omega)] at hs
    have n7 := (N7 _ (.head _)).1
    have hT6 := hT'.set p ⟨a0, u1, u2, u3, rfl, hg0⟩
    refine use (siftdown (D := D) (ts := ts'.set p (ts.getD pos (0, 0, 0))) (start := pos) (pos := p) (by rw [List.length_set]; exact hpl) (by rw [List.length_set]; omega)) (by omega) (by omega) G F7 N7 (fun b hb => by rw [List.mem_singleton.mp hb]; simp) ⟨_, _, (N7 _ (.head _)).1, hT6.keeps F7.keep⟩ ?_
    rintro _ h8 tk8 x8 ⟨rfl, vs8, c8, e8, hl8, hs8⟩
    have F8 := fr_ext F7 x8 (fun hm => (N7 _ (.head _)).2.1 (List.mem_singleton.mp hm).symm) K3
    k_steps
    refine ret _ _ _ F8.keep ⟨rfl, vs8, c8, e8, ?_, fun vs0 c0 e0 v hv => ?_⟩
    · rw [getD_set_self hpl] at hl8
      unfold sift
      rw [← hs]
      exact hl8
    · rw [← listOf_inj (hD.symm.trans e0)]
      exact sub_set hsv (List.mem_of_getElem? hv0) v (hs8 _ _ n7 v hv)
end Mine
end

section
open PySem PySem.W PyProof.Rows PySem.Spec PySem.Calls
set_option Elab.async false
set_option maxRecDepth 100000
set_option maxHeartbeats 800000
set_option pp.deepTerms false
set_option pp.deepTerms.threshold 3
set_option pp.maxSteps 6000
namespace Mine
local macro_rules | `(tactic| walk_at "subscriptTail") => `(tactic| refine Stop.go ?_)
local macro_rules | `(tactic| walk_at "setItem ref int") => `(tactic| refine Stop.go ?_)
local macro_rules | `(tactic| walk_at "compareOp Lt ref ref") => `(tactic| refine Stop.go ?_)
local macro_rules | `(tactic| walk_at "compareOp Lt ref") => `(tactic| refine Stop.go ?_)
local macro_rules | `(tactic| walk_at "exec While Compare cons nil") => `(tactic| refine Stop.go ?_)
local macro_rules | `(tactic| walk_at "exec While") => `(tactic| refine Stop.go ?_)
local macro_rules | `(tactic| walk_at "call builtin:len") => `(tactic| refine Stop.go ?_)
local macro_rules | `(tactic| walk_at "call ref") => `(tactic| refine Stop.go ?_)

theorem siftupMax {w : World} {loose : List Str} {mean : ExcName → Option Value} {mg mb : Str → Option Value} {D : Addr} {ts : List T3} {pos : Nat} {t3 : Tok} (hpos : pos < ts.length) (hlen : ts.length ≤ 100) :
    Meets w loose mean mg mb 70 [.ref D, .int pos t3] 20 90 [D] (fun h => LTs h D ts) (fun h v h' => v = .none ∧ LTsP h h' D (sift tgt ts pos)) := by
  have Z : (hd.heap_39 w.params).In { objs := #[] } → Challenge.rw_mq0294_01.foot = 11 → True := fun _ _ => trivial
  revert Z; k_fill; intro _
  refine enter (f := 70) (args := [.ref D, .int pos t3]) (d := 20) (u := 90) (binds := [("heap", .ref D), ("pos", .int pos t3)]) [D] (by k_is) (by k_is) (fun s => BindsTo.of_eq rfl) (locs rfl) rfl rfl rfl (by decide) (by omega) ?_
  intro dp un gd outer s R g h₁ L tk hd hu hpre G K1 K2 K3 hlt K4 F ret
  obtain ⟨vs, c, hD, hT⟩ := hpre
  have hTg := hT.off K1 hD
  have X := G.X
  have T := G.T
  have N : News g L h₁ [(D, W.listOf vs.toArray c)] := fun p hp => by
    rw [List.mem_singleton.mp hp]; exact ⟨K4 _ _ hD, Nat.ne_of_lt (hlt _ _ hD), K3 _ (.head _)⟩
  obtain ⟨v0, hv0, a0, u1, u2, u3, rfl, hg0⟩ := hTg.get hpos
  have hlist : h₁.IsList D vs.toArray := ⟨_, K4 _ _ hD, rfl, _, rfl⟩
  (try dsimp only)
  (try k_fold)
  k_steps
  refine KM.len_K (n := ts.length) N (.head _) (by rw [List.size_toArray]; exact hTg.1) (by omega) ?_
  k_steps
  (rename Fr _ _ _ _ => F0); (rename News _ _ _ _ => N0)
  refine getT (k := pos) N0 (by omega) hv0 ?_
  k_steps
  (rename Fr _ _ _ _ => F1); (rename News _ _ _ _ => N1)
  have hc0 : (2 * (pos : Int) + 1) = ((2 * pos + 1 : Nat) : Int) := by omega
  rw [hc0] at F1
  refine While_inv2 (fun k m news => ∃ (p : Nat) (tp tc te : Tok) (vs' : List Value) (ts' : List T3) (f : Nat), news = [(D, W.listOf vs'.toArray c)] ∧ TsAre g vs' ts' ∧ (∀ v ∈ vs', v ∈ vs) ∧ ts'.length = ts.length ∧ p < ts.length ∧ ts.length - p ≤ f ∧ k = ts.length - p ∧ sup tgt ts.length f p ts' = sup tgt ts.length ts.length pos ts ∧
      m "pos" = some (.int p tp) ∧ m "childpos" = some (.int ((2 * p + 1 : Nat) : Int) tc) ∧ m "endpos" = some (.int ts.length te) ∧ m "heap" = some (.ref D) ∧ m "startpos" = some (.int pos t3) ∧ m "newitem" = some (.ref a0)) F1 N1 ⟨pos, _, _, _, vs, ts, ts.length, rfl, hTg, fun v hv => hv, rfl, hpos, by omega, rfl, rfl, rfl, rfl, rfl, rfl, rfl, rfl⟩ ?_ (fun _ _ h => h.elim)
  rintro k m₁ _ h2 tk2 F2 N2 ⟨p, tp, tc, te, vs', ts', f, rfl, hT', hsv, hl', hp, hpf, rfl, hs, m1, m2, m3, m4, m5, m6⟩
  have F3 := fr_known F2 [("pos", .int p tp), ("childpos", .int ((2 * p + 1 : Nat) : Int) tc), ("endpos", .int ts.length te), ("heap", .ref D), ("startpos", .int pos t3), ("newitem", .ref a0)] (by simp [m1, m2, m3, m4, m5, m6])
  clear F2 F1 N1
  k_steps
  · rename_i hc1 _ hr1
    have hr : (((2 * p + 1 : Nat) : Int) + 1) = ((2 * p + 1 + 1 : Nat) : Int) := by omega
    (rename Fr _ _ _ _ => F4); (rename News _ _ _ _ => N4)
    rw [hr] at F4
    obtain ⟨v1, hv1, a1, y1, y2, y3, rfl, hg1⟩ := hT'.get (i := 2 * p + 1) (by omega)
    obtain ⟨v3, hv3, a3, x1, x2, x3, rfl, hg3⟩ := hT'.get (i := 2 * p + 1 + 1) (by omega)
    refine getT (k := 2 * p + 1 + 1) N4 (by omega) hv3 ?_
    k_steps
    refine getT (k := 2 * p + 1) N4 (by omega) hv1 ?_
    k_steps
    refine lt_trip (by rw [cLim] at *; show un < 9900; omega) (F4.keep _ _ hg3) (F4.keep _ _ hg1) ?_
    k_steps
    · rename_i hb1
      obtain ⟨v2, hv2, a2, z1, z2, z3, rfl, hg2⟩ := hT'.get (i := 2 * p + 1) (by omega)
      (rename Fr _ _ _ _ => F5); (rename News _ _ _ _ => N5)
      refine getT (k := 2 * p + 1) N5 (by omega) hv2 ?_
      k_steps
      (rename Fr _ _ _ _ => F6); (rename News _ _ _ _ => N6)
      refine setT (k := p) F6 N6 (List.forall_mem_nil _) (by rw [hT'.1]; omega) (by omega) ?_
      intro h7 F7 N7
      k_steps
      (rename Fr _ _ _ _ => F8); (rename News _ _ _ _ => N8)
      have hc2 : (2 * ((2 * p + 1 : Nat) : Int) + 1) = ((2 * (2 * p + 1) + 1 : Nat) : Int) := by omega
      rw [hc2] at F8
      rw [sup_step (by omega) hpf, if_neg (fun h => by rw [show tgt _ _ = true from hb1] at h; cases h.2)] at hs
      exact ⟨_, _, _, _, ts.length - (2 * p + 1), rfl, F8, N8, by omega, 2 * p + 1, _, _, _, _, _, f - 1, rfl, hT'.set p ⟨a2, z1, z2, z3, rfl, hg2⟩, sub_set hsv (hsv _ (List.mem_of_getElem? hv2)), by rw [List.length_set]; exact hl', by omega, by omega, rfl, hs, rfl, rfl, rfl, rfl, rfl, rfl⟩
    · (rename tlt _ _ = false => hb1)
      obtain ⟨v2, hv2, a2, z1, z2, z3, rfl, hg2⟩ := hT'.get (i := 2 * p + 1 + 1) (by omega)
      (rename Fr _ _ _ _ => F5); (rename News _ _ _ _ => N5)
      refine getT (k := 2 * p + 1 + 1) N5 (by omega) hv2 ?_
      k_steps
      (rename Fr _ _ _ _ => F6); (rename News _ _ _ _ => N6)
      refine setT (k := p) F6 N6 (List.forall_mem_nil _) (by rw [hT'.1]; omega) (by omega) ?_
      intro h7 F7 N7
      k_steps
      (rename Fr _ _ _ _ => F8); (rename News _ _ _ _ => N8)
      have hc2 : (2 * ((2 * p + 1 + 1 : Nat) : Int) + 1) = ((2 * (2 * p + 1 + 1) + 1 : Nat) : Int) := by omega
      rw [hc2] at F8
      rw [sup_step (by omega) hpf, if_pos ⟨by omega, show tgt _ _ = false from hb1⟩] at hs
      exact ⟨_, _, _, _, ts.length - (2 * p + 1 + 1), rfl, F8, N8, by omega, 2 * p + 1 + 1, _, _, _, _, _, f - 1, rfl, hT'.set p ⟨a2, z1, z2, z3, rfl, hg2⟩, sub_set hsv (hsv _ (List.mem_of_getElem? hv2)), by rw [List.length_set]; exact hl', by omega, by omega, rfl, hs, rfl, rfl, rfl, rfl, rfl, rfl⟩
  · rename_i hc1 _ hr1
    obtain ⟨v2, hv2, a2, z1, z2, z3, rfl, hg2⟩ := hT'.get (i := 2 * p + 1) (by omega)
    (rename Fr _ _ _ _ => F5); (rename News _ _ _ _ => N5)
    refine getT (k := 2 * p + 1) N5 (by omega) hv2 ?_
    k_steps
    (rename Fr _ _ _ _ => F6); (rename News _ _ _ _ => N6)
    refine setT (k := p) F6 N6 (List.forall_mem_nil _) (by rw [hT'.1]; omega) (by omega) ?_
    intro h7 F7 N7
    k_steps
    (rename Fr _ _ _ _ => F8); (rename News _ _ _ _ => N8)
    have hc2 : (2 * ((2 * p + 1 : Nat) : Int) + 1) = ((2 * (2 * p + 1) + 1 : Nat) : Int) := by omega
    rw [hc2] at F8
    rw [sup_step (by omega) hpf, if_neg (by omega)] at hs
    exact ⟨_, _, _, _, ts.length - (2 * p + 1), rfl, F8, N8, by omega, 2 * p + 1, _, _, _, _, _, f - 1, rfl, hT'.set p ⟨a2, z1, z2, z3, rfl, hg2⟩, sub_set hsv (hsv _ (List.mem_of_getElem? hv2)), by rw [List.length_set]; exact hl', by omega, by omega, rfl, hs, rfl, rfl, rfl, rfl, rfl, rfl⟩
  · rename_i hc1
    have hpl : p < ts'.length := by omega
    refine setT (k := p) F3 N2 (List.forall_mem_nil _) (by rw [hT'.1]; omega) (by omega) ?_
    intro h6 F6 N6
    clear F3 N2
    k_steps
    (rename Fr _ _ _ _ => F7); (rename News _ _ _ _ => N7)
    rw [sup_stop (by omega)] at hs
    have n7 := (N7 _ (.head _)).1
    have hT6 := hT'.set p ⟨a0, u1, u2, u3, rfl, hg0⟩
    refine use (siftdownMax (D := D) (ts := ts'.set p (ts.getD pos (0, 0, 0))) (start := pos) (pos := p) (by rw [List.length_set]; exact hpl) (by rw [List.length_set]; omega)) (by omega) (by omega) G F7 N7 (fun b hb => by rw [List.mem_singleton.mp hb]; simp) ⟨_, _, (N7 _ (.head _)).1, hT6.keeps F7.keep⟩ ?_
    rintro _ h8 tk8 x8 ⟨rfl, vs8, c8, e8, hl8, hs8⟩
    have F8 := fr_ext F7 x8 (fun hm => (N7 _ (.head _)).2.1 (List.mem_singleton.mp hm).symm) K3
    k_steps
    refine ret _ _ _ F8.keep ⟨rfl, vs8, c8, e8, ?_, fun vs0 c0 e0 v hv => ?_⟩
    · rw [getD_set_self hpl] at hl8
      unfold sift
      rw [← hs]
      exact hl8
    · rw [← listOf_inj (hD.symm.trans e0)]
      exact sub_set hsv (List.mem_of_getElem? hv0) v (hs8 _ _ n7 v hv)
end Mine
end

section
open PySem PySem.W PyProof.Rows PySem.Spec PySem.Calls
set_option Elab.async false
set_option maxRecDepth 100000
set_option maxHeartbeats 800000
namespace Mine
section
variable {prog : Program} {w : World} {A : Around} {E : Value → Shared → Prop} {s : Shared} {r : Addr} {b : Int} {t u v : Tok}
abbrev rangeIt (x left step : Int) : Obj := { cls := .type "range_iterator", data := .fields #[rawInt x, rawInt left, rawInt step] }
theorem call_range_reversed {n : Int} {Q : Value → Shared → Prop} (hr : IsRange s.heap r 0 b 1 t u v) (hn : Builtin.Range.rangeSize 0 b 1 = n)
    (hs : (Builtin.Range.rangeFitsLong 0 && Builtin.Range.rangeFitsLong b && Builtin.Range.rangeFitsLong 1 && Builtin.Range.rangeFitsLong (-1) && Builtin.Range.rangeFitsLong (0 - 1) && Builtin.Range.rangeFitsLong n) = true)
    (h : Q (.ref s.heap.objs.size) { s with heap := s.heap.push (rangeIt (0 + (n - 1) * 1) n (-1)) }) : wpAny (model prog w) A (call (.builtin "range.__reversed__") [.ref r]) Q E s := by
  refine wpAny_call_entry F.slot_range_reversed ⟨_, hr, rfl⟩ F.entry_range_reversed ?_ (F.args_range_reversed_1 _)
  unfold Builtin.«range.__reversed__»
  refine wpAny_bind (wpAny_of_eq (a := Value.ref r) rfl ?_)
  refine wpAny_bind ?_
  unfold Builtin.Range.rangeFields
  refine wpAny_bind (wpAny_field (i := 0) (x := .int 0 t) hr rfl rfl ?_)
  refine wpAny_bind (wpAny_pure ?_)
  refine wpAny_bind (wpAny_field (i := 1) (x := .int b u) hr rfl rfl ?_)
  refine wpAny_bind (wpAny_pure ?_)
  refine wpAny_bind (wpAny_field (i := 2) (x := .int 1 v) hr rfl rfl ?_)
  refine wpAny_bind (wpAny_pure ?_)
  refine wpAny_pure ?_
  dsimp only
  rw [hn, hs]
  simp only [Bool.not_true, Bool.false_eq_true, if_false, if_true]
  exact wpAny_bind (wpAny_newObj_type (wpAny_pure ⟨_, rfl, h⟩) (by size_fits))

theorem sub_ri_reversed : isSubtype (.type "range_iterator") (.type "reversed") = pure false := by rw [isSubtype_type]; kernel_rfl

theorem code_reversed_range {n : Int} {Q₁ : Value → Shared → Prop} (hr : IsRange s.heap r 0 b 1 t u v) (hn : Builtin.Range.rangeSize 0 b 1 = n)
    (hs : (Builtin.Range.rangeFitsLong 0 && Builtin.Range.rangeFitsLong b && Builtin.Range.rangeFitsLong 1 && Builtin.Range.rangeFitsLong (-1) && Builtin.Range.rangeFitsLong (0 - 1) && Builtin.Range.rangeFitsLong n) = true)
    (h : Q₁ (.ref s.heap.objs.size) { s with heap := s.heap.push (rangeIt (0 + (n - 1) * 1) n (-1)) }) :
    codeAny (model prog w) A (.call (.builtin "reversed.__new__") ⟨[.type "reversed", .ref r], []⟩) (wants Q₁ E) s := by
  have back : ∀ {B : Around} {Q : Value → Shared → Prop}, Q (.ref s.heap.objs.size) { s with heap := s.heap.push (rangeIt (0 + (n - 1) * 1) n (-1)) } → wpAny (model prog w) B (call (.builtin "range.__reversed__") [.ref r]) Q E s := fun q => call_range_reversed hr hn hs q
  have isr : s.TypeIs (.ref r) "range" := ⟨_, hr, rfl⟩
  have there : (Value.builtin "range.__reversed__" == Value.none) = false := rfl
  apply codeAny_of_tree
  apply wpAny_bind
  apply wpAny_of_eq (F.newCall_reversed_1 _)
  apply wpAny_pure
  refine And.intro (plainId_quiet F.plain_reversed_new _) (codeAny_builtin F.entry_reversed_new ?_)
  rw [Around.under_plainId F.plain_reversed_new _]
  unfold Builtin.«reversed.__new__»
  apply wpAny_bind
  apply wpAny_of_eq (newClass_reversed _)
  dsimp only
  apply wpAny_bind
  apply wpAny_of_eq (a := ()) (by kernel_rfl)
  apply wpAny_bind
  apply wpAny_of_eq (a := ()) (by kernel_rfl)
  apply wpAny_bind
  apply wpAny_specialOf (T := "range") isr F.slot_range_reversed.lookup
  dsimp only
  apply wpAny_bind
  apply wpAny_of_eq (F.slot_range_reversed.bind _)
  dsimp only
  simp only [there, Bool.false_eq_true, if_false]
  apply wpAny_bind
  apply wpAny_rule
  apply wpAny_bind
  exact back (wpAny_pure h)

theorem call_reversed_range {n : Int} {Q : Value → Shared → Prop} (hr : IsRange s.heap r 0 b 1 t u v) (hn : Builtin.Range.rangeSize 0 b 1 = n)
    (hs : (Builtin.Range.rangeFitsLong 0 && Builtin.Range.rangeFitsLong b && Builtin.Range.rangeFitsLong 1 && Builtin.Range.rangeFitsLong (-1) && Builtin.Range.rangeFitsLong (0 - 1) && Builtin.Range.rangeFitsLong n) = true)
    (h : Q (.ref s.heap.objs.size) { s with heap := s.heap.push (rangeIt (0 + (n - 1) * 1) n (-1)) }) : wpAny (model prog w) A (call (.type "reversed") [.ref r]) Q E s := by
  have made := code_reversed_range (prog := prog) (w := w) (A := A.in1) (E := E) (Q₁ := fun v' s₁ => v' = .ref s.heap.objs.size ∧ s₁ = { s with heap := s.heap.push (rangeIt (0 + (n - 1) * 1) n (-1)) }) hr hn hs ⟨rfl, rfl⟩
  have type' : ∀ s₁ : Shared, s₁ = { s with heap := s.heap.push (rangeIt (0 + (n - 1) * 1) n (-1)) } → s₁.TypeIs (.ref s.heap.objs.size) "range_iterator" := fun s₁ e => by rw [e]; exact ⟨_, Heap.get?_push_size _ rfl, rfl⟩
  exact callType_other (by decide +kernel) F.create_reversed ⟨_, _, F.mro_reversed⟩ F.made_reversed sub_ri_reversed (F.typeCall_reversed_1 _) made fun v' s₁ q => by rw [q.1]; exact ⟨type' s₁ q.2, q.2 ▸ h⟩
end
end Mine
namespace Mine
section
variable {w : World} {A : Around} {E : Value → Shared → Prop} {s : Shared} {env : Env} {g : Heap} {x : Str} {body : List Stmt} {Q : Flow → Shared → Prop}
/-- how a turn ends: on, with the ledger news' beside the iterator; or out -/
def REnd (g : Heap) (L : Addr) (J : (Str → Option Value) → List (Addr × Obj) → Prop) (io : Addr × Obj) (s : Shared) (Q : Flow → Shared → Prop) (f : Flow) (s₂ : Shared) : Prop :=
  match f with
  | .ret v => Q (.ret v) s₂
  | .brk => Q .next s₂
  | _ => ∃ h' tk m' news', s₂ = { s with heap := h', toks := tk } ∧ Fr g L h' m' ∧ News g L h' (io :: news') ∧ J m' news'
theorem for_rit {I : Addr} {a c : Int} {k : Nat} {m : Str → Option Value} {news : List (Addr × Obj)} (J : Nat → (Str → Option Value) → List (Addr × Obj) → Prop) (hh : A.handled = none)
    (hI : IsRangeIter s.heap I a k c) (hIL : I ≠ env.locals) (hIg : g.get? I = none) (F : Fr g env.locals s.heap m) (N : News g env.locals s.heap news) (hJ : J 0 m news)
    (hJc : ∀ i m news, J i m news → ∀ p ∈ news, p.2.cls ≠ .type "range_iterator")
    (turn : ∀ i tv m₁ news₁ h tk (oI : Obj), i < k → J i m₁ news₁ → oI.cls = .type "range_iterator" → (∀ p ∈ news₁, p.1 ≠ I) →
      Fr g env.locals h (fun y => if y = x then some (.int (a + i * c) tv) else m₁ y) → News g env.locals h ((I, oI) :: news₁) →
      wpAny (model PR w) A (execs body env) (REnd g env.locals (J (i + 1)) (I, oI) { s with heap := h, toks := tk } Q) E { s with heap := h, toks := tk })
    (done : ∀ m₁ news₁ h tk, J k m₁ news₁ → Fr g env.locals h m₁ → News g env.locals h news₁ → Q .next { s with heap := h, toks := tk }) :
    LoopAtV PR w A g env x body Q E (.ref I) s := by
  have hcls : ∀ (h : Heap) (oI : Obj) news', h.get? I = some oI → oI.cls = .type "range_iterator" → News g env.locals h news' → (∀ p ∈ news', p.2.cls ≠ .type "range_iterator") → ∀ p ∈ news', p.1 ∉ [I] := by
    intro h oI news' e hc N' hn p hp hm
    have h1 := (N' p hp).1
    rw [List.mem_singleton.mp hm, e] at h1
    exact hn p hp ((Option.some.inj h1) ▸ hc)
  refine for_go J (Walks.range hh I a c k) (fun hm => hIL (List.mem_singleton.mp hm).symm) (fun b hb => by rw [List.mem_singleton.mp hb]; exact hIg) F N (by simpa using hI) (hcls _ _ _ hI rfl N (hJc _ _ _ hJ)) hJ ?_ (fun m₁ news₁ h tk hj _ F' N' => done m₁ news₁ h tk hj F' N')
  rintro i v m₁ news₁ h tk own hi ⟨tv, rfl⟩ hj hn hst hown hall F' N'
  obtain ⟨oI, e, hoc⟩ : ∃ oI, h.get? I = some oI ∧ oI.cls = .type "range_iterator" := ⟨_, hst, rfl⟩
  have hown' : ∀ p ∈ own, p = (I, oI) := fun p hp => by
    have h1 := (N' p (List.mem_append_right _ hp)).1
    have h2 := List.mem_singleton.mp (hown p hp)
    rw [h2, e] at h1
    exact Prod.ext h2 (Option.some.inj h1).symm
  have hmem := hall I (.head _) hIg _ e
  have NI := N' _ (List.mem_append_right _ hmem)
  refine wpAny_mono (turn i tv m₁ news₁ h tk oI hi hj hoc (fun p hp q => hn p hp (by rw [q]; exact .head _)) F' (fun p hp => (List.mem_cons.mp hp).elim (fun q => by rw [q]; exact NI) fun q => N' p (List.mem_append_left _ q))) (fun f s₂ q => ?_) fun _ _ z => z
  have fin : (∃ h' tk' m' news', s₂ = { ({ s with heap := h, toks := tk } : Shared) with heap := h', toks := tk' } ∧ Fr g env.locals h' m' ∧ News g env.locals h' ((I, oI) :: news') ∧ J (i + 1) m' news') →
      ∃ h' tk' m' news', s₂ = { ({ s with heap := h, toks := tk } : Shared) with heap := h', toks := tk' } ∧ Fr g env.locals h' m' ∧ News g env.locals h' (news' ++ own) ∧ (∀ p ∈ news', p.1 ∉ [I]) ∧ J (i + 1) m' news' := by
    rintro ⟨h', tk', m', news', e2, F2, N2, j2⟩
    refine ⟨h', tk', m', news', e2, F2, fun p hp => ?_, hcls _ _ _ (N2 _ (.head _)).1 hoc (fun p hp => N2 p (.tail _ hp)) (hJc _ _ _ j2), j2⟩
    rcases List.mem_append.mp hp with hp | hp
    · exact N2 p (.tail _ hp)
    · rw [hown' p hp]; exact N2 _ (.head _)
  cases f with
  | ret v => exact q
  | brk => exact q
  | next => exact fin q
  | cont => exact fin q
end
end Mine
end

section
open PySem PySem.W PyProof.Rows PySem.Spec PySem.Calls
set_option Elab.async false
set_option maxRecDepth 100000
set_option maxHeartbeats 800000
set_option pp.deepTerms false
set_option pp.deepTerms.threshold 3
set_option pp.maxSteps 6000
namespace Mine
local macro_rules | `(tactic| walk_at "subscriptTail") => `(tactic| refine Stop.go ?_)
local macro_rules | `(tactic| walk_at "setItem ref int") => `(tactic| refine Stop.go ?_)
local macro_rules | `(tactic| walk_at "call builtin:len") => `(tactic| refine Stop.go ?_)
local macro_rules | `(tactic| walk_at "call ref") => `(tactic| refine Stop.go ?_)
local macro_rules | `(tactic| walk_at "binaryOp FloorDiv int int") => `(tactic| refine Stop.go ?_)
local macro_rules | `(tactic| walk_at "call type:range") => `(tactic| refine Stop.go ?_)
local macro_rules | `(tactic| walk_at "call type:reversed") => `(tactic| refine Stop.go ?_)
local macro_rules | `(tactic| walk_at "pyIter ref") => `(tactic| refine Stop.go ?_)
local macro_rules | `(tactic| walk_at "exec For Name Call cons nil") => `(tactic| refine Stop.go ?_)
local macro_rules | `(tactic| walk_at "setItem ref int ref") => `(tactic| refine Stop.go ?_)

/-- behind a replace: the top goes out, the list is ts', its items old or the new one -/
def HrPost (D : Addr) (v : Value) (top : T3) (ts' : List T3) (h : Heap) (r : Value) (h' : Heap) : Prop :=
  ∃ vs' c', h'.get? D = some (W.listOf (List.toArray vs') c') ∧ TsAre h' vs' ts' ∧ IsT h' r top ∧ ∀ vs0 c0, h.get? D = some (W.listOf (List.toArray vs0) c0) → r ∈ vs0 ∧ ∀ v' ∈ vs', v' ∈ vs0 ∨ v' = v

theorem heapreplace {w : World} {loose : List Str} {mean : ExcName → Option Value} {mg mb : Str → Option Value} {D : Addr} {ts : List T3} {v : Value} {t : T3} (hpos : 0 < ts.length) (hlen : ts.length ≤ 100) :
    Meets w loose mean mg mb 21 [.ref D, v] 30 120 [D] (fun h => LTs h D ts ∧ IsT h v t) (HrPost D v (ts.getD 0 (0, 0, 0)) (sift tlt (ts.set 0 t) 0)) := by
  have Z : (hd.heap_39 w.params).In { objs := #[] } → Challenge.rw_mq0294_01.foot = 11 → True := fun _ _ => trivial
  revert Z; k_fill; intro _
  refine enter (f := 21) (args := [.ref D, v]) (d := 30) (u := 120) (binds := [("heap", .ref D), ("item", v)]) [D] (by k_is) (by k_is) (fun s => BindsTo.of_eq rfl) (locs rfl) rfl rfl rfl (by decide) (by omega) ?_
  intro dp un gd outer s R g h₁ L tk hd hu hpre G K1 K2 K3 hlt K4 F ret
  obtain ⟨⟨vs, c, hD, hT⟩, hv⟩ := hpre
  have hTg := hT.off K1 hD
  have hvg := hv.off K1 hD
  obtain ⟨av, w1, w2, w3, rfl, hgv⟩ := hvg
  have X := G.X
  have T := G.T
  have N : News g L h₁ [(D, W.listOf vs.toArray c)] := fun p hp => by
    rw [List.mem_singleton.mp hp]; exact ⟨K4 _ _ hD, Nat.ne_of_lt (hlt _ _ hD), K3 _ (.head _)⟩
  obtain ⟨v0, hv0, a0, u1, u2, u3, rfl, hg0⟩ := hTg.get hpos
  (try dsimp only)
  (try k_fold)
  k_steps
  refine getT (k := 0) N (by omega) hv0 ?_
  k_steps
  (rename Fr _ _ _ _ => F1); (rename News _ _ _ _ => N1)
  refine setT (k := 0) F1 N1 (List.forall_mem_nil _) (by rw [hTg.1]; omega) (by omega) ?_
  intro h2 F2 N2
  clear F1 N1
  k_steps
  have hT2 := hTg.set 0 ⟨av, w1, w2, w3, rfl, hgv⟩
  refine use (siftup (D := D) (ts := ts.set 0 t) (pos := 0) (by rw [List.length_set]; exact hpos) (by rw [List.length_set]; omega)) (by omega) (by omega) G F2 N2 (fun b hb => by rw [List.mem_singleton.mp hb]; simp) ⟨_, _, (N2 _ (.head _)).1, hT2.keeps F2.keep⟩ ?_
  have n2 := (N2 _ (.head _)).1
  rintro _ h8 tk8 x8 ⟨rfl, vs8, c8, e8, hl8, hs8⟩
  have F8 := fr_ext F2 x8 (fun hm => (N2 _ (.head _)).2.1 (List.mem_singleton.mp hm).symm) K3
  have N8 : News g L h8 [] := News.nil
  clear F2 N2
  k_steps
  refine ret _ _ _ F8.keep ⟨vs8, c8, e8, hl8, ⟨a0, u1, u2, u3, rfl, F8.keep _ _ hg0⟩, fun vs0 c0 e0 => ?_⟩
  rw [← listOf_inj (hD.symm.trans e0)]
  exact ⟨List.mem_of_getElem? hv0, fun v' hv' => (List.mem_or_eq_of_mem_set (hs8 _ _ n2 v' hv')).imp id id⟩

/-- heapify, pure -/
def hfy (lt : T3 → T3 → Bool) (ts : List T3) : List T3 := if ts.length < 4 then sift lt ts 0 else sift lt (sift lt ts 1) 0

/-- the turns of heapify -/
def hst (lt : T3 → T3 → Bool) (k : Nat) (ts : List T3) : Nat → List T3
  | 0 => ts
  | i + 1 => sift lt (hst lt k ts i) (k - 1 - i)
theorem sdn_length {lt : T3 → T3 → Bool} {new : T3} {start : Nat} : ∀ (f pos : Nat) (ts : List T3), (sdn lt new start f pos ts).length = ts.length
  | 0, pos, ts => by rw [sdn, List.length_set]
  | f + 1, pos, ts => by
    rw [sdn]
    split
    · split
      · rw [sdn_length f, List.length_set]
      · rw [List.length_set]
    · rw [List.length_set]
theorem sup_length {lt : T3 → T3 → Bool} {endp : Nat} : ∀ (f pos : Nat) (ts : List T3), (sup lt endp f pos ts).2.length = ts.length
  | 0, pos, ts => rfl
  | f + 1, pos, ts => by
    rw [sup]
    split
    · split <;> rw [sup_length f, List.length_set]
    · rfl
theorem sift_length {lt : T3 → T3 → Bool} {ts : List T3} {pos : Nat} : (sift lt ts pos).length = ts.length := by
  unfold sift
  rw [sdn_length, List.length_set, sup_length]
theorem hst_length {lt : T3 → T3 → Bool} {k : Nat} {ts : List T3} : ∀ i, (hst lt k ts i).length = ts.length
  | 0 => rfl
  | i + 1 => by rw [hst, sift_length, hst_length i]

theorem heapify {w : World} {loose : List Str} {mean : ExcName → Option Value} {mg mb : Str → Option Value} {D : Addr} {ts : List T3} (h2 : 2 ≤ ts.length) (h4 : ts.length ≤ 4) :
    Meets w loose mean mg mb 28 [.ref D] 30 120 [D] (fun h => LTs h D ts) (fun h r h' => r = .none ∧ LTsP h h' D (hfy tlt ts)) := by
  have Z : (hd.heap_39 w.params).In { objs := #[] } → Challenge.rw_mq0294_01.foot = 11 → True := fun _ _ => trivial
  revert Z; k_fill; intro _
  refine enter (f := 28) (args := [.ref D]) (d := 30) (u := 120) (binds := [("x", .ref D)]) [D] (by k_is) (by k_is) (fun s => BindsTo.of_eq rfl) (locs rfl) rfl rfl rfl (by decide) (by omega) ?_
  intro dp un gd outer s R g h₁ L tk hd hu hpre G K1 K2 K3 hlt K4 F ret
  obtain ⟨vs, c, hD, hT⟩ := hpre
  have hTg := hT.off K1 hD
  have X := G.X
  have T := G.T
  have N : News g L h₁ [(D, W.listOf vs.toArray c)] := fun p hp => by
    rw [List.mem_singleton.mp hp]; exact ⟨K4 _ _ hD, Nat.ne_of_lt (hlt _ _ hD), K3 _ (.head _)⟩
  (try dsimp only)
  (try k_fold)
  k_steps
  refine KM.len_K (n := ts.length) N (.head _) (by rw [List.size_toArray]; exact hTg.1) (by omega) ?_
  k_steps
  (rename Fr _ _ _ _ => F1); (rename News _ _ _ _ => N1)
  obtain ⟨k, hk, hk1, hk2, hkf⟩ : ∃ k : Nat, ((ts.length : Nat) : Int).fdiv 2 = (k : Int) ∧ (k = 1 ∨ k = 2) ∧ k < ts.length ∧ hst tlt k ts k = hfy tlt ts := by
    rcases (show ts.length < 4 ∨ ts.length = 4 by omega) with h | h
    · exact ⟨1, by rw [Int.fdiv_eq_ediv_of_nonneg _ (by omega)]; omega, .inl rfl, by omega, by rw [hst, hst, hfy, if_pos h]⟩
    · exact ⟨2, by rw [Int.fdiv_eq_ediv_of_nonneg _ (by omega)]; omega, .inr rfl, by omega, by rw [hst, hst, hst, hfy, if_neg (by omega)]⟩
  refine For_invV g rfl rfl ?_ (fun _ => rfl) (fun _ _ h => h.elim)
  k_steps
  refine floordiv_int (by omega) ?_ (Or.inl (PyProof.noPylong_small (by omega)))
  rw [hk]
  k_steps
  refine range1_rows F1 N1 ?_
  intro h3 tk3 r1 r2 r3 hR F3 N3 _
  k_steps
  refine call_reversed_range (n := k) hR (by rcases hk1 with rfl | rfl <;> decide) (by rcases hk1 with rfl | rfl <;> decide) ?_
  have F4 := F3.push (rangeIt (0 + ((k : Int) - 1) * 1) k (-1))
  have N4 := N3.push F3 (rangeIt (0 + ((k : Int) - 1) * 1) k (-1))
  obtain ⟨I, hIe⟩ : ∃ I, I = h3.objs.size := ⟨_, rfl⟩
  dsimp only
  rw [← hIe] at N4 ⊢
  refine wpAny_pyIter_rangeiter (N4 _ (.head _)).1 ?_
  refine for_rit (a := 0 + ((k : Int) - 1) * 1) (c := -1) (k := k) (news := [(D, W.listOf vs.toArray c)]) (fun i m news => ∃ (vs' : List Value) (c' : Nat), news = [(D, W.listOf vs'.toArray c')] ∧ TsAre g vs' (hst tlt k ts i) ∧ (∀ v ∈ vs', v ∈ vs) ∧ m "x" = some (.ref D)) rfl (N4 _ (.head _)).1 (N4 _ (.head _)).2.1 (N4 _ (.head _)).2.2 F4 (news_sub N4 fun p hp => .tail _ hp)
    ⟨vs, c, rfl, hTg, fun v hv => hv, rfl⟩ ?_ ?_ ?_
  · rintro i m' _ ⟨vs', c', rfl, _⟩ p hp
    rw [List.mem_singleton.mp hp]
    intro e
    injection e with e1
    exact absurd e1 (by decide)
  · rintro i tv m₁ _ h5 tk5 oI hi ⟨vs', c', rfl, hT', hsv, m1⟩ hoc hne F5 N5
    have F6 : Fr g L h5 _ := fr_turn F5 [("x", .ref D)] (by simp [m1])
    have N6 : News g L h5 ((D, W.listOf vs'.toArray c') :: [(I, oI)]) := news_sub N5 (by intro p hp; simp only [List.mem_cons, List.not_mem_nil, or_false] at hp ⊢; exact hp.symm)
    have hv : (0 + ((k : Int) - 1) * 1 + (i : Int) * -1) = ((k - 1 - i : Nat) : Int) := by omega
    rw [hv] at F6
    clear F5 N5
    k_steps
    refine use (siftup (D := D) (ts := hst tlt k ts i) (pos := k - 1 - i) (by rw [hst_length]; omega) (by rw [hst_length]; omega)) (by omega) (by omega) G F6 N6 (fun b hb => by rw [List.mem_singleton.mp hb]; simp) ⟨_, _, (N6 _ (.head _)).1, hT'.keeps F6.keep⟩ ?_
    have n6 := (N6 _ (.head _)).1
    have hDI : I ≠ D := (hne _ (.head _)).symm
    rintro _ h8 tk8 x8 ⟨rfl, vs8, c8, e8, hl8, hs8⟩
    have hDn := (N6 _ (.head _)).2
    have F8 := fr_ext F6 x8 (fun hm => hDn.1 (List.mem_singleton.mp hm).symm) K3
    have N8 : News g L h8 ((I, oI) :: [(D, W.listOf vs8.toArray c8)]) := fun p hp => by
      rcases List.mem_cons.mp hp with rfl | hp
      · exact ⟨x8 _ _ (fun hm => hDI (List.mem_singleton.mp hm)) (N6 _ (.tail _ (.head _))).1, (N6 _ (.tail _ (.head _))).2⟩
      · rw [List.mem_singleton.mp hp]; exact ⟨e8, hDn⟩
    have hs9 : ∀ v ∈ vs8, v ∈ vs := fun v hv => hsv v (hs8 _ _ n6 v hv)
    clear F6 N6
    k_steps
    exact ⟨_, _, _, _, rfl, F8, N8, vs8, c8, rfl, hl8.back F8.keep hTg hs9, hs9, rfl⟩
  · rintro m₁ _ h5 tk5 ⟨vs', c', rfl, hT', hsv, m1⟩ F5 N5
    have F6 : Fr g L h5 _ := fr_known F5 [("x", .ref D)] (by simp [m1])
    replace N5 : News g L h5 _ := N5
    clear F5
    k_steps
    rw [hkf] at hT'
    exact ret _ _ _ F6.keep ⟨rfl, vs', c', (N5 _ (.head _)).1, hT'.keeps F6.keep, fun vs0 c0 e0 => by rw [← listOf_inj (hD.symm.trans e0)]; exact hsv⟩
end Mine
end

section
open PySem PySem.W PyProof.Rows PySem.Spec PySem.Calls
set_option Elab.async false
set_option maxRecDepth 100000
set_option maxHeartbeats 800000
set_option pp.deepTerms false
set_option pp.deepTerms.threshold 3
set_option pp.maxSteps 6000
namespace Mine
local macro_rules | `(tactic| walk_at "subscriptTail") => `(tactic| refine Stop.go ?_)
local macro_rules | `(tactic| walk_at "setItem ref int") => `(tactic| refine Stop.go ?_)
local macro_rules | `(tactic| walk_at "call builtin:len") => `(tactic| refine Stop.go ?_)
local macro_rules | `(tactic| walk_at "call ref") => `(tactic| refine Stop.go ?_)
local macro_rules | `(tactic| walk_at "binaryOp FloorDiv int int") => `(tactic| refine Stop.go ?_)
local macro_rules | `(tactic| walk_at "call type:range") => `(tactic| refine Stop.go ?_)
local macro_rules | `(tactic| walk_at "call type:reversed") => `(tactic| refine Stop.go ?_)
local macro_rules | `(tactic| walk_at "pyIter ref") => `(tactic| refine Stop.go ?_)
local macro_rules | `(tactic| walk_at "exec For Name Call cons nil") => `(tactic| refine Stop.go ?_)
local macro_rules | `(tactic| walk_at "setItem ref int ref") => `(tactic| refine Stop.go ?_)

theorem heapreplaceMax {w : World} {loose : List Str} {mean : ExcName → Option Value} {mg mb : Str → Option Value} {D : Addr} {ts : List T3} {v : Value} {t : T3} (hpos : 0 < ts.length) (hlen : ts.length ≤ 100) :
    Meets w loose mean mg mb 35 [.ref D, v] 30 120 [D] (fun h => LTs h D ts ∧ IsT h v t) (HrPost D v (ts.getD 0 (0, 0, 0)) (sift tgt (ts.set 0 t) 0)) := by
  have Z : (hd.heap_39 w.params).In { objs := #[] } → Challenge.rw_mq0294_01.foot = 11 → True := fun _ _ => trivial
  revert Z; k_fill; intro _
  refine enter (f := 35) (args := [.ref D, v]) (d := 30) (u := 120) (binds := [("heap", .ref D), ("item", v)]) [D] (by k_is) (by k_is) (fun s => BindsTo.of_eq rfl) (locs rfl) rfl rfl rfl (by decide) (by omega) ?_
  intro dp un gd outer s R g h₁ L tk hd hu hpre G K1 K2 K3 hlt K4 F ret
  obtain ⟨⟨vs, c, hD, hT⟩, hv⟩ := hpre
  have hTg := hT.off K1 hD
  have hvg := hv.off K1 hD
  obtain ⟨av, w1, w2, w3, rfl, hgv⟩ := hvg
  have X := G.X
  have T := G.T
  have N : News g L h₁ [(D, W.listOf vs.toArray c)] := fun p hp => by
    rw [List.mem_singleton.mp hp]; exact ⟨K4 _ _ hD, Nat.ne_of_lt (hlt _ _ hD), K3 _ (.head _)⟩
  obtain ⟨v0, hv0, a0, u1, u2, u3, rfl, hg0⟩ := hTg.get hpos
  (try dsimp only)
  (try k_fold)
  k_steps
  refine getT (k := 0) N (by omega) hv0 ?_
  k_steps
  (rename Fr _ _ _ _ => F1); (rename News _ _ _ _ => N1)
  refine setT (k := 0) F1 N1 (List.forall_mem_nil _) (by rw [hTg.1]; omega) (by omega) ?_
  intro h2 F2 N2
  clear F1 N1
  k_steps
  have hT2 := hTg.set 0 ⟨av, w1, w2, w3, rfl, hgv⟩
  refine use (siftupMax (D := D) (ts := ts.set 0 t) (pos := 0) (by rw [List.length_set]; exact hpos) (by rw [List.length_set]; omega)) (by omega) (by omega) G F2 N2 (fun b hb => by rw [List.mem_singleton.mp hb]; simp) ⟨_, _, (N2 _ (.head _)).1, hT2.keeps F2.keep⟩ ?_
  have n2 := (N2 _ (.head _)).1
  rintro _ h8 tk8 x8 ⟨rfl, vs8, c8, e8, hl8, hs8⟩
  have F8 := fr_ext F2 x8 (fun hm => (N2 _ (.head _)).2.1 (List.mem_singleton.mp hm).symm) K3
  have N8 : News g L h8 [] := News.nil
  clear F2 N2
  k_steps
  refine ret _ _ _ F8.keep ⟨vs8, c8, e8, hl8, ⟨a0, u1, u2, u3, rfl, F8.keep _ _ hg0⟩, fun vs0 c0 e0 => ?_⟩
  rw [← listOf_inj (hD.symm.trans e0)]
  exact ⟨List.mem_of_getElem? hv0, fun v' hv' => (List.mem_or_eq_of_mem_set (hs8 _ _ n2 v' hv')).imp id id⟩

theorem heapifyMax {w : World} {loose : List Str} {mean : ExcName → Option Value} {mg mb : Str → Option Value} {D : Addr} {ts : List T3} (h2 : 2 ≤ ts.length) (h4 : ts.length ≤ 4) :
    Meets w loose mean mg mb 42 [.ref D] 30 120 [D] (fun h => LTs h D ts) (fun h r h' => r = .none ∧ LTsP h h' D (hfy tgt ts)) := by
  have Z : (hd.heap_39 w.params).In { objs := #[] } → Challenge.rw_mq0294_01.foot = 11 → True := fun _ _ => trivial
  revert Z; k_fill; intro _
  refine enter (f := 42) (args := [.ref D]) (d := 30) (u := 120) (binds := [("x", .ref D)]) [D] (by k_is) (by k_is) (fun s => BindsTo.of_eq rfl) (locs rfl) rfl rfl rfl (by decide) (by omega) ?_
  intro dp un gd outer s R g h₁ L tk hd hu hpre G K1 K2 K3 hlt K4 F ret
  obtain ⟨vs, c, hD, hT⟩ := hpre
  have hTg := hT.off K1 hD
  have X := G.X
  have T := G.T
  have N : News g L h₁ [(D, W.listOf vs.toArray c)] := fun p hp => by
    rw [List.mem_singleton.mp hp]; exact ⟨K4 _ _ hD, Nat.ne_of_lt (hlt _ _ hD), K3 _ (.head _)⟩
  (try dsimp only)
  (try k_fold)
  k_steps
  refine KM.len_K (n := ts.length) N (.head _) (by rw [List.size_toArray]; exact hTg.1) (by omega) ?_
  k_steps
  (rename Fr _ _ _ _ => F1); (rename News _ _ _ _ => N1)
  obtain ⟨k, hk, hk1, hk2, hkf⟩ : ∃ k : Nat, ((ts.length : Nat) : Int).fdiv 2 = (k : Int) ∧ (k = 1 ∨ k = 2) ∧ k < ts.length ∧ hst tgt k ts k = hfy tgt ts := by
    rcases (show ts.length < 4 ∨ ts.length = 4 by omega) with h | h
    · exact ⟨1, by rw [Int.fdiv_eq_ediv_of_nonneg _ (by omega)]; omega, .inl rfl, by omega, by rw [hst, hst, hfy, if_pos h]⟩
    · exact ⟨2, by rw [Int.fdiv_eq_ediv_of_nonneg _ (by omega)]; omega, .inr rfl, by omega, by rw [hst, hst, hst, hfy, if_neg (by omega)]⟩
  refine For_invV g rfl rfl ?_ (fun _ => rfl) (fun _ _ h => h.elim)
  k_steps
  refine floordiv_int (by omega) ?_ (Or.inl (PyProof.noPylong_small (by omega)))
  rw [hk]
  k_steps
  refine range1_rows F1 N1 ?_
  intro h3 tk3 r1 r2 r3 hR F3 N3 _
  k_steps
  refine call_reversed_range (n := k) hR (by rcases hk1 with rfl | rfl <;> decide) (by rcases hk1 with rfl | rfl <;> decide) ?_
  have F4 := F3.push (rangeIt (0 + ((k : Int) - 1) * 1) k (-1))
  have N4 := N3.push F3 (rangeIt (0 + ((k : Int) - 1) * 1) k (-1))
  obtain ⟨I, hIe⟩ : ∃ I, I = h3.objs.size := ⟨_, rfl⟩
  dsimp only
  rw [← hIe] at N4 ⊢
  refine wpAny_pyIter_rangeiter (N4 _ (.head _)).1 ?_
  refine for_rit (a := 0 + ((k : Int) - 1) * 1) (c := -1) (k := k) (news := [(D, W.listOf vs.toArray c)]) (fun i m news => ∃ (vs' : List Value) (c' : Nat), news = [(D, W.listOf vs'.toArray c')] ∧ TsAre g vs' (hst tgt k ts i) ∧ (∀ v ∈ vs', v ∈ vs) ∧ m "x" = some (.ref D)) rfl (N4 _ (.head _)).1 (N4 _ (.head _)).2.1 (N4 _ (.head _)).2.2 F4 (news_sub N4 fun p hp => .tail _ hp)
    ⟨vs, c, rfl, hTg, fun v hv => hv, rfl⟩ ?_ ?_ ?_
  · rintro i m' _ ⟨vs', c', rfl, _⟩ p hp
    rw [List.mem_singleton.mp hp]
    intro e
    injection e with e1
    exact absurd e1 (by decide)
  · rintro i tv m₁ _ h5 tk5 oI hi ⟨vs', c', rfl, hT', hsv, m1⟩ hoc hne F5 N5
    have F6 : Fr g L h5 _ := fr_turn F5 [("x", .ref D)] (by simp [m1])
    have N6 : News g L h5 ((D, W.listOf vs'.toArray c') :: [(I, oI)]) := news_sub N5 (by intro p hp; simp only [List.mem_cons, List.not_mem_nil, or_false] at hp ⊢; exact hp.symm)
    have hv : (0 + ((k : Int) - 1) * 1 + (i : Int) * -1) = ((k - 1 - i : Nat) : Int) := by omega
    rw [hv] at F6
    clear F5 N5
    k_steps
    refine use (siftupMax (D := D) (ts := hst tgt k ts i) (pos := k - 1 - i) (by rw [hst_length]; omega) (by rw [hst_length]; omega)) (by omega) (by omega) G F6 N6 (fun b hb => by rw [List.mem_singleton.mp hb]; simp) ⟨_, _, (N6 _ (.head _)).1, hT'.keeps F6.keep⟩ ?_
    have n6 := (N6 _ (.head _)).1
    have hDI : I ≠ D := (hne _ (.head _)).symm
    rintro _ h8 tk8 x8 ⟨rfl, vs8, c8, e8, hl8, hs8⟩
    have hDn := (N6 _ (.head _)).2
    have F8 := fr_ext F6 x8 (fun hm => hDn.1 (List.mem_singleton.mp hm).symm) K3
    have N8 : News g L h8 ((I, oI) :: [(D, W.listOf vs8.toArray c8)]) := fun p hp => by
      rcases List.mem_cons.mp hp with rfl | hp
      · exact ⟨x8 _ _ (fun hm => hDI (List.mem_singleton.mp hm)) (N6 _ (.tail _ (.head _))).1, (N6 _ (.tail _ (.head _))).2⟩
      · rw [List.mem_singleton.mp hp]; exact ⟨e8, hDn⟩
    have hs9 : ∀ v ∈ vs8, v ∈ vs := fun v hv => hsv v (hs8 _ _ n6 v hv)
    clear F6 N6
    k_steps
    exact ⟨_, _, _, _, rfl, F8, N8, vs8, c8, rfl, hl8.back F8.keep hTg hs9, hs9, rfl⟩
  · rintro m₁ _ h5 tk5 ⟨vs', c', rfl, hT', hsv, m1⟩ F5 N5
    have F6 : Fr g L h5 _ := fr_known F5 [("x", .ref D)] (by simp [m1])
    replace N5 : News g L h5 _ := N5
    clear F5
    k_steps
    rw [hkf] at hT'
    exact ret _ _ _ F6.keep ⟨rfl, vs', c', (N5 _ (.head _)).1, hT'.keeps F6.keep, fun vs0 c0 e0 => by rw [← listOf_inj (hD.symm.trans e0)]; exact hsv⟩
end Mine
end

section
open PySem PySem.W PyProof.Rows
set_option Elab.async false
set_option maxHeartbeats 1600000
namespace Mine
/-- a strict total order, as far as the heap asks -/
structure Ord (lt : T3 → T3 → Bool) : Prop where
  asym : ∀ a b, lt a b = true → lt b a = false
  ntrans : ∀ a b c, lt a b = false → lt b c = false → lt a c = false
theorem ord_tlt : Ord tlt where
  asym := by
    rintro ⟨a1, a2, a3⟩ ⟨b1, b2, b3⟩ h
    unfold tlt at *
    dsimp only at *
    by_cases e1 : a1 = b1
    · subst e1
      by_cases e2 : a2 = b2
      · subst e2; simp at *; omega
      · have e2' : ¬ b2 = a2 := fun h => e2 h.symm
        simp [e2, e2'] at *; omega
    · have e1' : ¬ b1 = a1 := fun h => e1 h.symm
      simp [e1, e1'] at *; omega
  ntrans := by
    rintro ⟨a1, a2, a3⟩ ⟨b1, b2, b3⟩ ⟨c1, c2, c3⟩ h1 h2
    unfold tlt at *
    dsimp only at *
    split at h1 <;> split at h2 <;> (try split at h1) <;> (try split at h2) <;> (try split) <;> (try split) <;> simp at * <;> omega
theorem ord_tgt : Ord tgt where
  asym := fun a b h => ord_tlt.asym b a h
  ntrans := fun a b c h1 h2 => ord_tlt.ntrans c b a h2 h1
/-- no item lies before its parent -/
def Heapy (lt : T3 → T3 → Bool) (ts : List T3) : Prop := ∀ i, 0 < i → i < ts.length → lt (ts.getD i (0, 0, 0)) (ts.getD ((i - 1) / 2) (0, 0, 0)) = false

theorem sift2 (lt : T3 → T3 → Bool) (a b : T3) : sift lt [a, b] 0 = if lt a b = true then [a, b] else [b, a] := by
  cases h : lt a b <;> simp [sift, sup, sdn, h]
theorem sift3 (lt : T3 → T3 → Bool) (a b c : T3) : sift lt [a, b, c] 0 = if lt b c = false then (if lt a c = true then [a, b, c] else [c, b, a]) else (if lt a b = true then [a, b, c] else [b, a, c]) := by
  cases h1 : lt b c <;> cases h2 : lt a c <;> cases h3 : lt a b <;> simp [sift, sup, sdn, h1, h2, h3]
theorem sift4 (lt : T3 → T3 → Bool) (a b c d : T3) : sift lt [a, b, c, d] 0 = if lt b c = false then (if lt a c = true then [a, b, c, d] else [c, b, a, d])
    else (if lt a d = true then (if lt a b = true then [a, b, c, d] else [b, a, c, d]) else [b, d, c, a]) := by
  cases h1 : lt b c <;> cases h2 : lt a c <;> cases h3 : lt a b <;> cases h4 : lt a d <;> simp [sift, sup, sdn, h1, h2, h3, h4]
theorem sift41 (lt : T3 → T3 → Bool) (a b c d : T3) : sift lt [a, b, c, d] 1 = if lt b d = true then [a, b, c, d] else [a, d, c, b] := by
  cases h1 : lt b d <;> simp [sift, sup, sdn, h1]
theorem heapy2 {lt : T3 → T3 → Bool} {a b : T3} : Heapy lt [a, b] ↔ lt b a = false := by
  constructor
  · intro h; exact h 1 (by decide) (by simp)
  · intro h i h0 h1
    have : i = 1 := by simp at h1; omega
    subst this; exact h
theorem heapy3 {lt : T3 → T3 → Bool} {a b c : T3} : Heapy lt [a, b, c] ↔ lt b a = false ∧ lt c a = false := by
  constructor
  · intro h; exact ⟨h 1 (by decide) (by simp), h 2 (by decide) (by simp)⟩
  · rintro ⟨h1, h2⟩ i h0 hl
    rcases (show i = 1 ∨ i = 2 by simp at hl; omega) with rfl | rfl
    · exact h1
    · exact h2
theorem heapy4 {lt : T3 → T3 → Bool} {a b c d : T3} : Heapy lt [a, b, c, d] ↔ lt b a = false ∧ lt c a = false ∧ lt d b = false := by
  constructor
  · intro h; exact ⟨h 1 (by decide) (by simp), h 2 (by decide) (by simp), h 3 (by decide) (by simp)⟩
  · rintro ⟨h1, h2, h3⟩ i h0 hl
    rcases (show i = 1 ∨ i = 2 ∨ i = 3 by simp at hl; omega) with rfl | rfl | rfl
    · exact h1
    · exact h2
    · exact h3
theorem ok2 {lt : T3 → T3 → Bool} (O : Ord lt) (a b : T3) : Heapy lt (sift lt [a, b] 0) ∧ (sift lt [a, b] 0).Perm [a, b] := by
  rw [sift2]
  cases h : lt a b
  · simp only [Bool.false_eq_true, if_false]
    exact ⟨heapy2.mpr h, List.Perm.swap ..⟩
  · simp only [if_true]
    exact ⟨heapy2.mpr (O.asym _ _ h), .refl _⟩
theorem perm_count {l l' : List T3} (h : ∀ x : T3, l.count x = l'.count x) : l.Perm l' := List.perm_iff_count.mpr h
theorem ok3 {lt : T3 → T3 → Bool} (O : Ord lt) (a b c : T3) : Heapy lt (sift lt [a, b, c] 0) ∧ (sift lt [a, b, c] 0).Perm [a, b, c] := by
  rw [sift3]
  have A := O.asym
  have B := O.ntrans
  constructor
  · split <;> split <;> rw [heapy3] <;> grind
  · apply perm_count; intro x
    split <;> split <;> simp only [List.count_cons, List.count_nil] <;> omega
theorem ok4 {lt : T3 → T3 → Bool} (O : Ord lt) (a b c d : T3) (h : lt d b = false) : Heapy lt (sift lt [a, b, c, d] 0) ∧ (sift lt [a, b, c, d] 0).Perm [a, b, c, d] := by
  rw [sift4]
  have A := O.asym
  have B := O.ntrans
  constructor
  · split <;> split <;> (try split) <;> rw [heapy4] <;> grind
  · apply perm_count; intro x
    split <;> split <;> (try split) <;> simp only [List.count_cons, List.count_nil] <;> omega
theorem len2 {α : Type} {l : List α} (h : l.length = 2) : ∃ a b, l = [a, b] := by
  match l, h with
  | [a, b], _ => exact ⟨a, b, rfl⟩
theorem len3 {α : Type} {l : List α} (h : l.length = 3) : ∃ a b c, l = [a, b, c] := by
  match l, h with
  | [a, b, c], _ => exact ⟨a, b, c, rfl⟩
theorem len4 {α : Type} {l : List α} (h : l.length = 4) : ∃ a b c d, l = [a, b, c, d] := by
  match l, h with
  | [a, b, c, d], _ => exact ⟨a, b, c, d, rfl⟩
theorem replace_ok {lt : T3 → T3 → Bool} (O : Ord lt) {ts : List T3} (h2 : 2 ≤ ts.length) (h4 : ts.length ≤ 4) (hh : Heapy lt ts) (t : T3) :
    Heapy lt (sift lt (ts.set 0 t) 0) ∧ (sift lt (ts.set 0 t) 0).Perm (ts.set 0 t) := by
  rcases (show ts.length = 2 ∨ ts.length = 3 ∨ ts.length = 4 by omega) with h | h | h
  · obtain ⟨a, b, rfl⟩ := len2 h; exact ok2 O t b
  · obtain ⟨a, b, c, rfl⟩ := len3 h; exact ok3 O t b c
  · obtain ⟨a, b, c, d, rfl⟩ := len4 h; exact ok4 O t b c d (heapy4.mp hh).2.2
theorem hfy_ok {lt : T3 → T3 → Bool} (O : Ord lt) {ts : List T3} (h2 : 2 ≤ ts.length) (h4 : ts.length ≤ 4) : Heapy lt (hfy lt ts) ∧ (hfy lt ts).Perm ts := by
  rcases (show ts.length = 2 ∨ ts.length = 3 ∨ ts.length = 4 by omega) with h | h | h
  · obtain ⟨a, b, rfl⟩ := len2 h; exact ok2 O a b
  · obtain ⟨a, b, c, rfl⟩ := len3 h; exact ok3 O a b c
  · obtain ⟨a, b, c, d, rfl⟩ := len4 h
    unfold hfy
    rw [if_neg (by simp), sift41]
    cases hb : lt b d
    · simp only [Bool.false_eq_true, if_false]
      obtain ⟨p, q⟩ := ok4 O a d c b hb
      refine ⟨p, q.trans (perm_count fun x => ?_)⟩
      simp only [List.count_cons, List.count_nil]; omega
    · simp only [if_true]
      exact ok4 O a b c d (O.asym _ _ hb)
theorem top_least {lt : T3 → T3 → Bool} (O : Ord lt) {ts : List T3} (h2 : 2 ≤ ts.length) (h4 : ts.length ≤ 4) (hh : Heapy lt ts) : ∀ x ∈ ts, lt x (ts.getD 0 (0, 0, 0)) = false := by
  have irr : ∀ a, lt a a = false := fun a => by
    cases h : lt a a
    · rfl
    · have := O.asym _ _ h; rw [h] at this; exact this
  rcases (show ts.length = 2 ∨ ts.length = 3 ∨ ts.length = 4 by omega) with h | h | h
  · obtain ⟨a, b, rfl⟩ := len2 h
    have := heapy2.mp hh
    intro x hx
    simp only [List.mem_cons, List.not_mem_nil, or_false] at hx
    rcases hx with rfl | rfl
    · exact irr _
    · exact this
  · obtain ⟨a, b, c, rfl⟩ := len3 h
    have := heapy3.mp hh
    intro x hx
    simp only [List.mem_cons, List.not_mem_nil, or_false] at hx
    rcases hx with rfl | rfl | rfl
    · exact irr _
    · exact this.1
    · exact this.2
  · obtain ⟨a, b, c, d, rfl⟩ := len4 h
    have := heapy4.mp hh
    intro x hx
    simp only [List.mem_cons, List.not_mem_nil, or_false] at hx
    rcases hx with rfl | rfl | rfl | rfl
    · exact irr _
    · exact this.1
    · exact this.2.1
    · exact O.ntrans _ _ _ this.2.2 this.1
end Mine
end

section
open PySem PySem.W PyProof.Rows PySem.Spec PySem.Calls
set_option Elab.async false
set_option maxRecDepth 100000
set_option maxHeartbeats 800000
set_option pp.deepTerms false
set_option pp.deepTerms.threshold 3
set_option pp.maxSteps 6000
namespace Mine
/-- a pair of ints at v -/
def IsP (h : Heap) (v : Value) (p : Int × Int) : Prop := ∃ a t u, v = .ref a ∧ h.get? a = some (tupO [.int p.1 t, .int p.2 u])
/-- the clocks at C -/
def Clk (h : Heap) (C : Addr) (cs : List (Int × Int)) : Prop :=
  ∃ vs c, h.get? C = some (W.listOf (List.toArray vs) c) ∧ vs.length = cs.length ∧ ∀ (i : Nat) v p, vs[i]? = some v → cs[i]? = some p → IsP h v p
theorem Clk.keeps {h h' : Heap} {C : Addr} {cs : List (Int × Int)} (x : Clk h C cs) (k : ∀ b o, h.get? b = some o → h'.get? b = some o) : Clk h' C cs := by
  obtain ⟨vs, c, e, hl, hp⟩ := x
  exact ⟨vs, c, k _ _ e, hl, fun i v p a b => let ⟨ad, t, u, e1, e2⟩ := hp i v p a b; ⟨ad, t, u, e1, k _ _ e2⟩⟩
section
variable {w : World} {A : Around} {E : Value → Shared → Prop} {s : Shared} {h₀ : Heap} {L C : Addr} {cs : List (Int × Int)} {k : Nat} {t : Tok}
theorem len_clk {Q : Value → Shared → Prop} (hC : Clk s.heap C cs) (h : Q (.int (cs.length : Nat) (s.toks + 1)) { s with toks := s.toks + 1 + 1 }) (hsm : cs.length ≤ 100) : wpAny (model PR w) A (call (.builtin "len") [.ref C]) Q E s := by
  obtain ⟨vs, c, e, hl, _⟩ := hC
  have N : News ({ objs := #[] } : Heap) (s.heap.objs.size) s.heap [(C, W.listOf vs.toArray c)] := fun p hp => by
    rw [List.mem_singleton.mp hp]
    exact ⟨e, Nat.ne_of_lt (Heap.lt_size e), rfl⟩
  exact KM.len_K (n := cs.length) N (.head _) (by rw [List.size_toArray]; exact hl) (by omega) h
theorem get_clk {value slice : Expr} {Q : Value → Shared → Prop} {g : Heap} (hC : Clk g C cs) (kp : ∀ b o, g.get? b = some o → s.heap.get? b = some o) (hk : k < cs.length) (hsm : cs.length ≤ 100)
    (h : ∀ a t u, g.get? a = some (tupO [.int (cs.getD k (0, 0)).1 t, .int (cs.getD k (0, 0)).2 u]) → Q (.ref a) s)
    (hs : subscripted slice false (.ref C) (.int (k : Int) t) = operate [.ref C, .int (k : Int) t] (getItem (.ref C) (.int (k : Int) t)) := by with_unfolding_all rfl) (hg : ∀ r, letTemporaryGo value (.ref C) r = pure () := by intro _; with_unfolding_all rfl) :
    wpAny (model PR w) A (subscriptTail value slice (.ref C) (.int (k : Int) t)) Q E s := by
  obtain ⟨vs, c, e, hl, hp⟩ := hC
  have hv : k < vs.length := by omega
  obtain ⟨a, t, u, e1, e2⟩ := hp k _ _ (List.getElem?_eq_getElem hv) (List.getElem?_eq_getElem hk)
  have N : News ({ objs := #[] } : Heap) (s.heap.objs.size) s.heap [(C, W.listOf vs.toArray c)] := fun p hp => by
    rw [List.mem_singleton.mp hp]
    exact ⟨kp _ _ e, Nat.ne_of_lt (Heap.lt_size (kp _ _ e)), rfl⟩
  refine getT (k := k) N (by omega) (List.getElem?_eq_getElem hv) ?_ hs hg
  rw [e1]
  refine h a t u ?_
  rw [e2, List.getD_eq_getElem?_getD, List.getElem?_eq_getElem hk]; rfl
end
theorem getD_mem {α : Type} {l : List α} {i : Nat} {d : α} (h : i < l.length) : l.getD i d ∈ l := by
  rw [List.getD_eq_getElem?_getD, List.getElem?_eq_getElem h]; exact List.getElem_mem h
/-- how many strokes fall in [moment, end) for each clock, summed over the first k -/
def ahd (cs : List (Int × Int)) (mo hour place : Int) : Nat → Int
  | 0 => 0
  | k + 1 => ahd cs mo hour place k + (((cs.getD k (0, 0)).1 - mo).fdiv (cs.getD k (0, 0)).2 - ((cs.getD k (0, 0)).1 - (if (k : Int) < place then hour + 1 else hour)).fdiv (cs.getD k (0, 0)).2)
end Mine
namespace Mine
local macro_rules | `(tactic| walk_at "subscriptTail") => `(tactic| refine Stop.go ?_)
local macro_rules | `(tactic| walk_at "call builtin:len") => `(tactic| refine Stop.go ?_)
local macro_rules | `(tactic| walk_at "call ref") => `(tactic| refine Stop.go ?_)
local macro_rules | `(tactic| walk_at "binaryOp FloorDiv int int") => `(tactic| refine Stop.go ?_)
local macro_rules | `(tactic| walk_at "call type:range") => `(tactic| refine Stop.go ?_)
local macro_rules | `(tactic| walk_at "pyIter ref") => `(tactic| refine Stop.go ?_)
local macro_rules | `(tactic| walk_at "exec For Name Call cons nil") => `(tactic| refine Stop.go ?_)
local macro_rules | `(tactic| walk_at "exec For") => `(tactic| refine Stop.go ?_)

theorem small_range {n : Nat} (h : n ≤ 100) : Builtin.Range.small 0 (n : Int) 1 = true := by
  unfold Builtin.Range.small Builtin.Range.rangeFitsLong
  rw [rangeSize_nat]
  simp; omega
section
variable {w : World} {A A' : Around} {E E' : Value → Shared → Prop} {s : Shared} {env : Env} {g : Heap} {x : Str} {body : List Stmt} {Q : Flow → Shared → Prop}
/-- a loop over range(n) -/
theorem for_range {r : Addr} {n : Nat} {t u v : Tok} {m : Str → Option Value} {news : List (Addr × Obj)} (J : Nat → (Str → Option Value) → List (Addr × Obj) → Prop) (hR : IsRange s.heap r 0 (n : Int) 1 t u v) (hn : n ≤ 100)
    (F : Fr g env.locals s.heap m) (N : News g env.locals s.heap news) (hJ : J 0 m news) (hh : A.handled = none)
    (hJc : ∀ i m news, J i m news → ∀ p ∈ news, p.2.cls ≠ .type "range_iterator")
    (turn : ∀ i I tv m₁ news₁ h tk (oI : Obj), i < n → J i m₁ news₁ → oI.cls = .type "range_iterator" → (∀ p ∈ news₁, p.1 ≠ I) →
      Fr g env.locals h (fun y => if y = x then some (.int (i : Int) tv) else m₁ y) → News g env.locals h ((I, oI) :: news₁) →
      wpAny (model PR w) A (execs body env) (REnd g env.locals (J (i + 1)) (I, oI) { s with heap := h, toks := tk } Q) E { s with heap := h, toks := tk })
    (done : ∀ m₁ news₁ h tk, J n m₁ news₁ → Fr g env.locals h m₁ → News g env.locals h news₁ → Q .next { s with heap := h, toks := tk }) :
    wpAny (model PR w) A' (pyIter (.ref r)) (LoopAtV PR w A g env x body Q E) E' s := by
  refine wpAny_pyIter_range hR (small_range hn) ?_
  have hz : Builtin.Range.rangeSize 0 (n : Int) 1 = (n : Int) := by rw [rangeSize_nat]; omega
  rw [hz]
  have N4 := N.push F (rangeIt 0 n 1)
  refine for_rit (a := 0) (c := 1) (k := n) J hh (N4 _ (.head _)).1 (N4 _ (.head _)).2.1 (N4 _ (.head _)).2.2 (F.push _) (news_sub N4 fun p hp => .tail _ hp) hJ hJc ?_ done
  intro i tv m₁ news₁ h tk oI hi hj hc hne F' N'
  have e : (0 + (i : Int) * 1) = (i : Int) := by omega
  rw [e] at F'
  exact turn i _ tv m₁ news₁ h tk oI hi hj hc hne F' N'
end

theorem ahead {w : World} {loose : List Str} {mean : ExcName → Option Value} {mg mb : Str → Option Value} {C : Addr} {cs : List (Int × Int)} {mo hour place : Int} {t1 t2 t3 : Tok} (hpos : ∀ p ∈ cs, 0 < p.2) (hlen : cs.length ≤ 100) :
    Meets w loose mean mg mb 159 [.ref C, .int mo t1, .int hour t2, .int place t3] 200 120 [] (fun h => Clk h C cs) (fun _ r _ => ∃ t, r = .int (ahd cs mo hour place cs.length) t) := by
  have Z : (hd.heap_39 w.params).In { objs := #[] } → Challenge.rw_mq0294_01.foot = 11 → True := fun _ _ => trivial
  revert Z; k_fill; intro _
  refine enter (f := 159) (args := [.ref C, .int mo t1, .int hour t2, .int place t3]) (d := 200) (u := 120) (binds := [("clocks", .ref C), ("moment", .int mo t1), ("hour", .int hour t2), ("place", .int place t3)]) [] (by k_is) (by k_is) (fun s => BindsTo.of_eq rfl) (locs rfl) rfl rfl rfl (by decide) (by omega) ?_
  intro dp un gd outer s R g h₁ L tk hd hu hpre G K1 K2 K3 hlt K4 F ret
  have hC := hpre.keeps fun b o e => K1 b o (fun q => nomatch q) e
  have X := G.X
  have T := G.T
  have N : News g L h₁ [] := News.nil
  (try dsimp only)
  (try k_fold)
  k_steps
  refine For_invV g rfl rfl ?_ (fun _ => rfl) (fun _ _ h => h.elim)
  k_steps
  (rename Fr _ _ _ _ => F1)
  refine len_clk (hC.keeps F1.keep) ?_ hlen
  k_steps
  (rename Fr _ _ _ _ => F2); (rename News _ _ _ _ => N2)
  refine range1_rows F2 N2 ?_
  intro h3 tk3 r1 r2 r3 hR F3 N3 _
  k_steps
  refine for_range (n := cs.length) (news := []) (fun i m news => ∃ tt, news = [] ∧ m "clocks" = some (.ref C) ∧ m "moment" = some (.int mo t1) ∧ m "hour" = some (.int hour t2) ∧ m "place" = some (.int place t3) ∧ m "total" = some (.int (ahd cs mo hour place i) tt)) hR hlen F3 N3 ⟨_, rfl, rfl, rfl, rfl, rfl, rfl⟩ rfl ?_ ?_ ?_
  · rintro i m' _ ⟨_, rfl, _⟩ p hp; cases hp
  · rintro i I tv m₁ _ h5 tk5 oI hi ⟨tt, rfl, m1, m2, m3, m4, m5⟩ hoc hne F5 N5
    have F6 : Fr g L h5 _ := fr_turn F5 [("clocks", .ref C), ("moment", .int mo t1), ("hour", .int hour t2), ("place", .int place t3), ("total", .int (ahd cs mo hour place i) tt)] (by simp [m1, m2, m3, m4, m5])
    replace N5 : News g L h5 _ := N5
    clear F5
    k_steps
    refine get_clk hC F6.keep hi hlen ?_
    intro pa pt pu hpa
    obtain ⟨sta, stp, hcp, hst⟩ : ∃ a b, cs.getD i (0, 0) = (a, b) ∧ 0 < b := by
      exact ⟨_, _, rfl, hpos _ (getD_mem hi)⟩
    have hah : ahd cs mo hour place (i + 1) = ahd cs mo hour place i + ((sta - mo).fdiv stp - (sta - (if (i : Int) < place then hour + 1 else hour)).fdiv stp) := by rw [ahd, hcp]
    rw [hcp] at hpa
    have hpt : IsTup g pa #[.int sta pt, .int stp pu] := ⟨_, hpa, rfl, _, rfl⟩
    clear hpa
    k_steps
    all_goals (rename Fr _ _ _ _ => F7)
    all_goals refine floordiv_int (by omega) ?_ (Or.inr (room_of G F7 (by omega) rfl rfl rfl rfl))
    all_goals k_steps
    all_goals (rename Fr _ _ _ _ => F8)
    all_goals refine floordiv_int (by omega) ?_ (Or.inr (room_of G F8 (by omega) rfl rfl rfl rfl))
    all_goals k_steps
    all_goals ((rename Fr _ _ _ _ => F9); (rename News _ _ _ _ => N9))
    · rw [if_pos (by assumption)] at hah
      exact ⟨_, _, _, _, rfl, F9, N9, _, rfl, rfl, rfl, rfl, rfl, by rw [hah]; rfl⟩
    · rw [if_neg (by omega)] at hah
      exact ⟨_, _, _, _, rfl, F9, N9, _, rfl, rfl, rfl, rfl, rfl, by rw [hah]; rfl⟩
  · rintro m₁ _ h5 tk5 ⟨tt, rfl, m1, m2, m3, m4, m5⟩ F5 N5
    have F6 : Fr g L h5 _ := fr_known F5 [("total", .int (ahd cs mo hour place cs.length) tt)] (by simp [m5])
    replace N5 : News g L h5 _ := N5
    clear F5
    k_steps
    exact ret _ _ _ F6.keep ⟨_, rfl⟩
end Mine
end

section
open PySem PySem.W PyProof.Rows PySem.Spec PySem.Calls
set_option Elab.async false
set_option maxRecDepth 100000
set_option maxHeartbeats 800000
set_option pp.deepTerms false
set_option pp.deepTerms.threshold 3
set_option pp.maxSteps 6000
namespace Mine
theorem LTs.keeps {h h' : Heap} {C : Addr} {ts : List T3} (x : LTs h C ts) (k : ∀ b o, h.get? b = some o → h'.get? b = some o) : LTs h' C ts := by
  obtain ⟨vs, c, e, hT⟩ := x
  exact ⟨vs, c, k _ _ e, hT.keeps k⟩
section
variable {w : World} {A : Around} {E : Value → Shared → Prop} {s : Shared} {h₀ : Heap} {L C : Addr} {ts : List T3} {k : Nat} {t : Tok}
theorem len_ts {Q : Value → Shared → Prop} (hC : LTs s.heap C ts) (h : Q (.int (ts.length : Nat) (s.toks + 1)) { s with toks := s.toks + 1 + 1 }) (hsm : ts.length ≤ 100) : wpAny (model PR w) A (call (.builtin "len") [.ref C]) Q E s := by
  obtain ⟨vs, c, e, hl⟩ := hC
  have N : News ({ objs := #[] } : Heap) (s.heap.objs.size) s.heap [(C, W.listOf vs.toArray c)] := fun p hp => by
    rw [List.mem_singleton.mp hp]
    exact ⟨e, Nat.ne_of_lt (Heap.lt_size e), rfl⟩
  exact KM.len_K (n := ts.length) N (.head _) (by rw [List.size_toArray]; exact hl.1) (by omega) h
theorem get_ts {value slice : Expr} {Q : Value → Shared → Prop} {g : Heap} (hC : LTs g C ts) (kp : ∀ b o, g.get? b = some o → s.heap.get? b = some o) (hk : k < ts.length) (hsm : ts.length ≤ 100)
    (h : ∀ a u1 u2 u3, g.get? a = some (trO (ts.getD k (0, 0, 0)) u1 u2 u3) → Q (.ref a) s)
    (hs : subscripted slice false (.ref C) (.int (k : Int) t) = operate [.ref C, .int (k : Int) t] (getItem (.ref C) (.int (k : Int) t)) := by with_unfolding_all rfl) (hg : ∀ r, letTemporaryGo value (.ref C) r = pure () := by intro _; with_unfolding_all rfl) :
    wpAny (model PR w) A (subscriptTail value slice (.ref C) (.int (k : Int) t)) Q E s := by
  obtain ⟨vs, c, e, hT⟩ := hC
  obtain ⟨v, hv, a, u1, u2, u3, rfl, e2⟩ := hT.get hk
  have N : News ({ objs := #[] } : Heap) (s.heap.objs.size) s.heap [(C, W.listOf vs.toArray c)] := fun p hp => by
    rw [List.mem_singleton.mp hp]
    exact ⟨kp _ _ e, Nat.ne_of_lt (Heap.lt_size (kp _ _ e)), rfl⟩
  exact getT (k := k) N (by omega) hv (h a u1 u2 u3 e2) hs hg
end
/-- what a told stroke must be -/
structure StrokeOk (cs : List (Int × Int)) (mo : Int) (k : Nat) (t : T3) : Prop where
  ge : mo ≤ t.1
  pl : ∃ p : Nat, t.2.1 = (p : Int) ∧ p < cs.length ∧ t.1 = (cs.getD p (0, 0)).1 + t.2.2 * (cs.getD p (0, 0)).2 ∧ Builtin.Int.intBits (cs.getD p (0, 0)).2 ≤ 4000000
  nb : Builtin.Int.intBits t.2.2 ≤ 4000000
  ah : ahd cs mo t.1 t.2.1 cs.length = (k : Int)
end Mine
namespace Mine
local macro_rules | `(tactic| walk_at "subscriptTail") => `(tactic| refine Stop.go ?_)
local macro_rules | `(tactic| walk_at "call builtin:len") => `(tactic| refine Stop.go ?_)
local macro_rules | `(tactic| walk_at "call ref") => `(tactic| refine Stop.go ?_)
local macro_rules | `(tactic| walk_at "binaryOp Mult int int") => `(tactic| refine Stop.go ?_)
local macro_rules | `(tactic| walk_at "call type:range") => `(tactic| refine Stop.go ?_)
local macro_rules | `(tactic| walk_at "pyIter ref") => `(tactic| refine Stop.go ?_)
local macro_rules | `(tactic| walk_at "exec For Name Call cons nil") => `(tactic| refine Stop.go ?_)
local macro_rules | `(tactic| walk_at "exec For") => `(tactic| refine Stop.go ?_)

theorem strokes {w : World} {loose : List Str} {mean : ExcName → Option Value} {mg mb : Str → Option Value} {C D : Addr} {cs : List (Int × Int)} {mo : Int} {ts : List T3} {t1 : Tok} (hpos : ∀ p ∈ cs, 0 < p.2) (hlen : cs.length ≤ 100) (htl : ts.length ≤ 100)
    (hok : ∀ k, k < ts.length → StrokeOk cs mo k (ts.getD k (0, 0, 0))) :
    Meets w loose mean mg mb 166 [.ref C, .int mo t1, .ref D] 210 140 [] (fun h => Clk h C cs ∧ LTs h D ts) (fun _ r _ => r = .bool true) := by
  have Z : (hd.heap_39 w.params).In { objs := #[] } → Challenge.rw_mq0294_01.foot = 11 → True := fun _ _ => trivial
  revert Z; k_fill; intro _
  refine enter (f := 166) (args := [.ref C, .int mo t1, .ref D]) (d := 210) (u := 140) (binds := [("clocks", .ref C), ("moment", .int mo t1), ("told", .ref D)]) [] (by k_is) (by k_is) (fun s => BindsTo.of_eq rfl) (locs rfl) rfl rfl rfl (by decide) (by omega) ?_
  intro dp un gd outer s R g h₁ L tk hd hu hpre G K1 K2 K3 hlt K4 F ret
  have hC := hpre.1.keeps fun b o e => K1 b o (fun q => nomatch q) e
  have hD := hpre.2.keeps fun b o e => K1 b o (fun q => nomatch q) e
  have X := G.X
  have T := G.T
  have N : News g L h₁ [] := News.nil
  (try dsimp only)
  (try k_fold)
  k_steps
  refine For_invV g rfl rfl ?_ (fun _ => rfl) (fun _ _ h => h.elim)
  k_steps
  (rename Fr _ _ _ _ => F1)
  refine len_ts (hD.keeps F1.keep) ?_ htl
  k_steps
  (rename Fr _ _ _ _ => F2); (rename News _ _ _ _ => N2)
  refine range1_rows F2 N2 ?_
  intro h3 tk3 r1 r2 r3 hR F3 N3 _
  k_steps
  refine for_range (n := ts.length) (news := []) (fun i m news => news = [] ∧ m "clocks" = some (.ref C) ∧ m "moment" = some (.int mo t1) ∧ m "told" = some (.ref D)) hR htl F3 N3 ⟨rfl, rfl, rfl, rfl⟩ rfl ?_ ?_ ?_
  · rintro i m' _ ⟨rfl, _⟩ p hp; cases hp
  · rintro i I tv m₁ _ h5 tk5 oI hi ⟨rfl, m1, m2, m3⟩ hoc hne F5 N5
    have F6 : Fr g L h5 _ := fr_turn F5 [("clocks", .ref C), ("moment", .int mo t1), ("told", .ref D)] (by simp [m1, m2, m3])
    replace N5 : News g L h5 _ := N5
    clear F5
    k_steps
    refine get_ts hD F6.keep hi htl ?_
    intro ta u1 u2 u3 hta
    obtain ⟨o1, ⟨pl, o2, o3, o4, o5⟩, o6, o7⟩ := hok i hi
    obtain ⟨ho, pp, nu, hcp⟩ : ∃ a b c, ts.getD i (0, 0, 0) = (a, b, c) := ⟨_, _, _, rfl⟩
    rw [hcp] at hta o1 o2 o4 o6 o7
    dsimp only at o1 o2 o4 o6 o7
    subst o2
    have htt : IsTup g ta #[.int ho u1, .int (pl : Int) u2, .int nu u3] := ⟨_, hta, rfl, _, rfl⟩
    clear hta
    k_steps
    (rename Fr _ _ _ _ => F7)
    refine get_clk hC F7.keep o3 hlen ?_
    intro pa pt pu hpa
    obtain ⟨sta, stp, hcq⟩ : ∃ a b, cs.getD pl (0, 0) = (a, b) := ⟨_, _, rfl⟩
    rw [hcq] at hpa o4 o5
    dsimp only at o4 o5
    have hpt : IsTup g pa #[.int sta pt, .int stp pu] := ⟨_, hpa, rfl, _, rfl⟩
    clear hpa
    k_steps
    refine mul_int ?_ (IntMulOk.of_le o6 o5 (by omega))
    k_steps
    · exfalso; omega
    (rename Fr _ _ _ _ => F8); (rename News _ _ _ _ => N8)
    have A1 := fun u1 u2 u3 => ahead (w := w) (loose := loose) (mean := mean) (mg := mg) (mb := mb) (C := C) (cs := cs) (mo := mo) (hour := ho) (place := (pl : Int)) (t1 := u1) (t2 := u2) (t3 := u3) hpos hlen
    refine use (A1 _ _ _) (by omega) (by omega) G F8 N8 (fun b hb => nomatch hb) (hC.keeps F8.keep) ?_
    rintro _ h9 tk9 x9 ⟨t9, rfl⟩
    have F9 := fr_ext0 F8 x9
    have N9 := news_ext0 N8 x9
    clear F8 N8
    rw [o7]
    k_steps
    · exfalso; omega
    exact ⟨_, _, _, _, rfl, F9, N9, rfl, rfl, rfl, rfl⟩
  · rintro m₁ _ h5 tk5 ⟨rfl, m1, m2, m3⟩ F5 N5
    have F6 : Fr g L h5 _ := fr_known F5 [("told", .ref D)] (by simp [m3])
    replace N5 : News g L h5 _ := N5
    clear F5
    k_steps
    exact ret _ _ _ F6.keep rfl
end Mine
end

section
open PySem PySem.W PyProof.Rows PySem.Spec PySem.Calls
set_option Elab.async false
set_option maxRecDepth 100000
set_option maxHeartbeats 800000
namespace Mine
def pdT (t : T3) : PyData := .tuple [.int t.1, .int t.2.1, .int t.2.2]
theorem reads_T {h : Heap} {v : Value} {t : T3} (x : IsT h v t) : ∃ as, Reads h v (pdT t) as := by
  obtain ⟨a, u1, u2, u3, rfl, e⟩ := x
  exact ⟨_, Reads.tuple e rfl rfl (.cons (.int _ _) (.cons (.int _ _) (.cons (.int _ _) .nil)))⟩
theorem reads_all {h : Heap} : ∀ {vs : List Value} {ts : List T3}, TsAre h vs ts → ∃ as, ReadsAll h vs (ts.map pdT) as
  | [], [], _ => ⟨_, .nil⟩
  | [], _ :: _, x => nomatch x.1
  | _ :: _, [], x => nomatch x.1
  | v :: vs, t :: ts, x => by
    obtain ⟨as, r⟩ := reads_T (x.2 0 v t rfl rfl)
    obtain ⟨bs, q⟩ := reads_all (vs := vs) (ts := ts) ⟨by have := x.1; simp only [List.length_cons] at this; omega, fun i a b h1 h2 => x.2 (i + 1) a b (by simpa using h1) (by simpa using h2)⟩
    exact ⟨_, .cons r q⟩
theorem reads_ts {h : Heap} {D : Addr} {ts : List T3} (x : LTs h D ts) : ∃ as, Reads h (.ref D) (.list (ts.map pdT)) as := by
  obtain ⟨vs, c, e, hT⟩ := x
  obtain ⟨as, r⟩ := reads_all hT
  exact ⟨_, Reads.list e rfl rfl (by simpa using r)⟩
theorem eqv_T (t u : T3) : PyData.eqv (pdT t) (pdT u) = decide (t = u) := by
  obtain ⟨a, b, c⟩ := t
  obtain ⟨d, e, f⟩ := u
  simp only [pdT, PyData.eqv, PyData.eqvAll]
  by_cases h1 : a = d <;> by_cases h2 : b = e <;> by_cases h3 : c = f <;> simp [h1, h2, h3]
theorem eqv_all : ∀ ts us : List T3, PyData.eqvAll (ts.map pdT) (us.map pdT) = decide (ts = us)
  | [], [] => by simp [PyData.eqvAll]
  | [], _ :: _ => by simp [PyData.eqvAll]
  | _ :: _, [] => by simp [PyData.eqvAll]
  | t :: ts, u :: us => by
    simp only [List.map_cons, PyData.eqvAll, eqv_T, eqv_all ts us]
    by_cases h1 : t = u <;> by_cases h2 : ts = us <;> simp [h1, h2]
theorem eqv_ts (ts us : List T3) : PyData.eqv (.list (ts.map pdT)) (.list (us.map pdT)) = decide (ts = us) := by
  rw [PyData.eqv, eqv_all]
theorem lay_T (t : T3) : (pdT t).canLay0 = true ∧ (pdT t).depth ≤ 1 := by
  simp [pdT, PyData.canLay0, PyData.canLayAll0, PyData.depth, PyData.depthAll]
theorem lay_all : ∀ ts : List T3, PyData.canLayAll0 (ts.map pdT) = true ∧ PyData.depthAll (ts.map pdT) ≤ 1
  | [] => by simp [PyData.canLayAll0, PyData.depthAll]
  | t :: ts => by
    have a := lay_T t
    have b := lay_all ts
    simp only [List.map_cons, PyData.canLayAll0, PyData.depthAll, a.1, b.1, Bool.and_self, true_and]
    omega
theorem shaped_T (t : T3) : SeqAt.shaped (pdT t) = true := by
  unfold SeqAt.shaped; rw [(lay_T t).1, Bool.true_and]; exact decide_eq_true (Nat.le_trans (lay_T t).2 (by decide))
theorem shaped_ts (ts : List T3) : SeqAt.shaped (.list (ts.map pdT)) = true := by
  unfold SeqAt.shaped
  have := lay_all ts
  simp only [PyData.canLay0, PyData.depth, this.1, Bool.true_and]
  exact decide_eq_true (by omega)
section
variable {w : World} {A : Around} {E : Value → Shared → Prop} {s : Shared} {v u : Value} {a b : Addr} {x y : T3} {ts us : List T3} {Q : Value → Shared → Prop}
theorem ne_T (hx : IsT s.heap v x) (hy : IsT s.heap u y) (hu : A.units + 64 < cLine) (h : Q (.bool (!decide (x = y))) s) : wpAny (model PR w) A (compareOp .NotEq v u) Q E s := by
  obtain ⟨as, ra⟩ := reads_T hx
  obtain ⟨bs, rb⟩ := reads_T hy
  exact ne_dataH ra rb (shaped_T x) (shaped_T y) hu (by rw [eqv_T]; exact h)
theorem ne_ts (hx : LTs s.heap a ts) (hy : LTs s.heap b us) (hu : A.units + 64 < cLine) (h : Q (.bool (!decide (ts = us))) s) : wpAny (model PR w) A (compareOp .NotEq (.ref a) (.ref b)) Q E s := by
  obtain ⟨as, ra⟩ := reads_ts hx
  obtain ⟨bs, rb⟩ := reads_ts hy
  exact ne_dataH ra rb (shaped_ts ts) (shaped_ts us) hu (by rw [eqv_ts]; exact h)
theorem eq_ts (hx : LTs s.heap a ts) (hy : LTs s.heap b us) (hu : A.units + 64 < cLine) (h : Q (.bool (decide (ts = us))) s) : wpAny (model PR w) A (compareOp .Eq (.ref a) (.ref b)) Q E s := by
  obtain ⟨as, ra⟩ := reads_ts hx
  obtain ⟨bs, rb⟩ := reads_ts hy
  exact eq_dataH ra rb (shaped_ts ts) (shaped_ts us) hu (by rw [eqv_ts]; exact h)
end
end Mine
end

section
open PySem PySem.W PyProof.Rows PySem.Spec PySem.Calls
set_option Elab.async false
set_option maxRecDepth 100000
set_option maxHeartbeats 800000
set_option pp.deepTerms false
set_option pp.deepTerms.threshold 3
set_option pp.maxSteps 6000
namespace Mine
local macro_rules | `(tactic| walk_at "subscriptTail") => `(tactic| refine Stop.go ?_)
local macro_rules | `(tactic| walk_at "call builtin:len") => `(tactic| refine Stop.go ?_)
local macro_rules | `(tactic| walk_at "call ref") => `(tactic| refine Stop.go ?_)
local macro_rules | `(tactic| walk_at "binaryOp Mult int int") => `(tactic| refine Stop.go ?_)
local macro_rules | `(tactic| walk_at "binaryOp FloorDiv int int") => `(tactic| refine Stop.go ?_)
local macro_rules | `(tactic| walk_at "compareOp NotEq ref ref") => `(tactic| refine Stop.go ?_)
local macro_rules | `(tactic| walk_at "compareOp NotEq ref") => `(tactic| refine Stop.go ?_)
local macro_rules | `(tactic| walk_at "call type:range") => `(tactic| refine Stop.go ?_)
local macro_rules | `(tactic| walk_at "pyIter ref") => `(tactic| refine Stop.go ?_)
local macro_rules | `(tactic| walk_at "exec For Name Call cons nil") => `(tactic| refine Stop.go ?_)
local macro_rules | `(tactic| walk_at "exec For") => `(tactic| refine Stop.go ?_)
/-- the last stroke of clock i before the bound -/
def bndN (fin : T3) (i : Nat) : Int := if (i : Int) ≤ fin.2.1 then fin.1 else fin.1 - 1
def atN (c : Int × Int) (i : Nat) (n : Int) : T3 := (c.1 + n * c.2, (i : Int), n)
structure LeftOk (cs : List (Int × Int)) (mo : Int) (fin : T3) (bs as : List T3) (i : Nat) : Prop where
  b : bs.getD i (0, 0, 0) = atN (cs.getD i (0, 0)) i ((bndN fin i - (cs.getD i (0, 0)).1).fdiv (cs.getD i (0, 0)).2 + 1)
  a : as.getD i (0, 0, 0) = atN (cs.getD i (0, 0)) i ((mo - 1 - (cs.getD i (0, 0)).1).fdiv (cs.getD i (0, 0)).2)
  n1 : Builtin.Int.intBits ((bndN fin i - (cs.getD i (0, 0)).1).fdiv (cs.getD i (0, 0)).2 + 1) ≤ 4000000
  n2 : Builtin.Int.intBits ((mo - 1 - (cs.getD i (0, 0)).1).fdiv (cs.getD i (0, 0)).2) ≤ 4000000
  n3 : Builtin.Int.intBits (cs.getD i (0, 0)).2 ≤ 4000000

theorem left {w : World} {loose : List Str} {mean : ExcName → Option Value} {mg mb : Str → Option Value} {C B D : Addr} {fv : Value} {fin : T3} {cs : List (Int × Int)} {mo : Int} {bs as : List T3} {t1 : Tok} (hpos : ∀ p ∈ cs, 0 < p.2) (hlen : cs.length ≤ 100)
    (hbl : bs.length = cs.length) (hal : as.length = cs.length) (hok : ∀ k, k < cs.length → LeftOk cs mo fin bs as k) :
    Meets w loose mean mg mb 173 [.ref C, .int mo t1, fv, .ref B, .ref D] 210 140 [] (fun h => Clk h C cs ∧ IsT h fv fin ∧ LTs h B bs ∧ LTs h D as) (fun _ r _ => r = .bool true) := by
  have Z : (hd.heap_39 w.params).In { objs := #[] } → Challenge.rw_mq0294_01.foot = 11 → True := fun _ _ => trivial
  revert Z; k_fill; intro _
  refine enter (f := 173) (args := [.ref C, .int mo t1, fv, .ref B, .ref D]) (d := 210) (u := 140) (binds := [("clocks", .ref C), ("moment", .int mo t1), ("final", fv), ("behind", .ref B), ("ahead", .ref D)]) [] (by k_is) (by k_is) (fun s => BindsTo.of_eq rfl) (locs rfl) rfl rfl rfl (by decide) (by omega) ?_
  intro dp un gd outer s R g h₁ L tk hd hu hpre G K1 K2 K3 hlt K4 F ret
  have kk : ∀ b o, s.heap.get? b = some o → g.get? b = some o := fun b o e => K1 b o (fun q => nomatch q) e
  have hC := hpre.1.keeps kk
  obtain ⟨fa, f1, f2, f3, rfl, hfa⟩ := hpre.2.1.keeps kk
  have hB := hpre.2.2.1.keeps kk
  have hD := hpre.2.2.2.keeps kk
  have hft : IsTup g fa #[.int fin.1 f1, .int fin.2.1 f2, .int fin.2.2 f3] := ⟨_, hfa, rfl, _, rfl⟩
  have X := G.X
  have T := G.T
  have N : News g L h₁ [] := News.nil
  (try dsimp only)
  (try k_fold)
  k_steps
  refine For_invV g rfl rfl ?_ (fun _ => rfl) (fun _ _ h => h.elim)
  k_steps
  (rename Fr _ _ _ _ => F1)
  refine len_clk (hC.keeps F1.keep) ?_ hlen
  k_steps
  (rename Fr _ _ _ _ => F2); (rename News _ _ _ _ => N2)
  refine range1_rows F2 N2 ?_
  intro h3 tk3 r1 r2 r3 hR F3 N3 _
  k_steps
  refine for_range (n := cs.length) (news := []) (fun i m news => news = [] ∧ m "clocks" = some (.ref C) ∧ m "moment" = some (.int mo t1) ∧ m "final" = some (.ref fa) ∧ m "behind" = some (.ref B) ∧ m "ahead" = some (.ref D)) hR hlen F3 N3 ⟨rfl, rfl, rfl, rfl, rfl, rfl⟩ rfl ?_ ?_ ?_
  · rintro i m' _ ⟨rfl, _⟩ p hp; cases hp
  · rintro i I tv m₁ _ h5 tk5 oI hi ⟨rfl, m1, m2, m3, m4, m5⟩ hoc hne F5 N5
    have F6 : Fr g L h5 _ := fr_turn F5 [("clocks", .ref C), ("moment", .int mo t1), ("final", .ref fa), ("behind", .ref B), ("ahead", .ref D)] (by simp [m1, m2, m3, m4, m5])
    replace N5 : News g L h5 _ := N5
    clear F5
    k_steps
    obtain ⟨o1, o2, o3, o4, o5⟩ := hok i hi
    refine get_clk hC F6.keep hi hlen ?_
    intro pa pt pu hpa
    have hst := hpos _ (getD_mem (d := (0, 0)) hi)
    obtain ⟨sta, stp, hcq⟩ : ∃ a b, cs.getD i (0, 0) = (a, b) := ⟨_, _, rfl⟩
    rw [hcq] at hpa o1 o2 o3 o4 o5 hst
    dsimp only at o3 o4 o5 hst
    have hpt : IsTup g pa #[.int sta pt, .int stp pu] := ⟨_, hpa, rfl, _, rfl⟩
    clear hpa
    k_steps
    (rename Fr _ _ _ _ => F7)
    refine item_tupleT (Fr.tup F7 hft) (by decide) (by decide) rfl rfl ?_
    k_steps
    all_goals (rename Fr _ _ _ _ => F8)
    all_goals refine item_tupleT (Fr.tup F8 hft) (by decide) (by decide) rfl rfl ?_
    · have hbn : bndN fin i = fin.1 := if_pos (by assumption)
      rw [hbn] at o1 o3
      k_steps
      (rename Fr _ _ _ _ => F9)
      refine floordiv_int (by omega) ?_ (Or.inr (room_of G F9 (by omega) rfl rfl rfl rfl))
      k_steps
      (rename Fr _ _ _ _ => F10)
      refine get_ts hB F10.keep (by omega) (by omega) ?_
      intro ba v1 v2 v3 hba
      k_steps
      refine mul_int ?_ (IntMulOk.of_le o3 o5 (by omega))
      k_steps
      (rename Fr _ _ _ _ => F11); (rename News _ _ _ _ => N11)
      refine ne_T (x := bs.getD i (0, 0, 0)) (y := atN (sta, stp) i ((fin.1 - sta).fdiv stp + 1)) ⟨_, _, _, _, rfl, F11.keep _ _ hba⟩ ⟨_, _, _, _, rfl, (N11 _ (.head _)).1⟩ (by show un + 64 < cLine; omega) ?_
      rw [o1, decide_eq_true rfl, Bool.not_true]
      k_steps
      (rename Fr _ _ _ _ => F12)
      refine floordiv_int (by omega) ?_ (Or.inr (room_of G F12 (by omega) rfl rfl rfl rfl))
      k_steps
      (rename Fr _ _ _ _ => F13)
      refine get_ts hD F13.keep (by omega) (by omega) ?_
      intro aa y1 y2 y3 haa
      k_steps
      refine mul_int ?_ (IntMulOk.of_le o4 o5 (by omega))
      k_steps
      (rename Fr _ _ _ _ => F14); (rename News _ _ _ _ => N14)
      refine ne_T (x := as.getD i (0, 0, 0)) (y := atN (sta, stp) i ((mo - 1 - sta).fdiv stp)) ⟨_, _, _, _, rfl, F14.keep _ _ haa⟩ ⟨_, _, _, _, rfl, (N14 _ (.head _)).1⟩ (by show un + 64 < cLine; omega) ?_
      rw [o2, decide_eq_true rfl, Bool.not_true]
      k_steps
      (rename Fr _ _ _ _ => F15); (rename News _ _ _ _ => N15)
      exact ⟨_, _, _, _, rfl, F15, news_sub (b := (I, oI) :: []) N15 (by simp), rfl, rfl, rfl, rfl, rfl, rfl⟩
    · have hbn : bndN fin i = fin.1 - 1 := if_neg (by omega)
      rw [hbn] at o1 o3
      k_steps
      (rename Fr _ _ _ _ => F9)
      refine floordiv_int (by omega) ?_ (Or.inr (room_of G F9 (by omega) rfl rfl rfl rfl))
      k_steps
      (rename Fr _ _ _ _ => F10)
      refine get_ts hB F10.keep (by omega) (by omega) ?_
      intro ba v1 v2 v3 hba
      k_steps
      refine mul_int ?_ (IntMulOk.of_le o3 o5 (by omega))
      k_steps
      (rename Fr _ _ _ _ => F11); (rename News _ _ _ _ => N11)
      refine ne_T (x := bs.getD i (0, 0, 0)) (y := atN (sta, stp) i ((fin.1 - 1 - sta).fdiv stp + 1)) ⟨_, _, _, _, rfl, F11.keep _ _ hba⟩ ⟨_, _, _, _, rfl, (N11 _ (.head _)).1⟩ (by show un + 64 < cLine; omega) ?_
      rw [o1, decide_eq_true rfl, Bool.not_true]
      k_steps
      (rename Fr _ _ _ _ => F12)
      refine floordiv_int (by omega) ?_ (Or.inr (room_of G F12 (by omega) rfl rfl rfl rfl))
      k_steps
      (rename Fr _ _ _ _ => F13)
      refine get_ts hD F13.keep (by omega) (by omega) ?_
      intro aa y1 y2 y3 haa
      k_steps
      refine mul_int ?_ (IntMulOk.of_le o4 o5 (by omega))
      k_steps
      (rename Fr _ _ _ _ => F14); (rename News _ _ _ _ => N14)
      refine ne_T (x := as.getD i (0, 0, 0)) (y := atN (sta, stp) i ((mo - 1 - sta).fdiv stp)) ⟨_, _, _, _, rfl, F14.keep _ _ haa⟩ ⟨_, _, _, _, rfl, (N14 _ (.head _)).1⟩ (by show un + 64 < cLine; omega) ?_
      rw [o2, decide_eq_true rfl, Bool.not_true]
      k_steps
      (rename Fr _ _ _ _ => F15); (rename News _ _ _ _ => N15)
      exact ⟨_, _, _, _, rfl, F15, news_sub (b := (I, oI) :: []) N15 (by simp), rfl, rfl, rfl, rfl, rfl, rfl⟩
  · rintro m₁ _ h5 tk5 ⟨rfl, m1, m2, m3⟩ F5 N5
    have F6 : Fr g L h5 _ := fr_known F5 [("moment", .int mo t1)] (by simp [m2])
    replace N5 : News g L h5 _ := N5
    clear F5
    k_steps
    exact ret _ _ _ F6.keep rfl
end Mine
end

section
open PySem PySem.W PyProof.Rows PySem.Spec PySem.Calls
set_option Elab.async false
set_option maxRecDepth 100000
set_option maxHeartbeats 800000
set_option pp.deepTerms false
set_option pp.deepTerms.threshold 3
set_option pp.maxSteps 6000
namespace Mine
local macro_rules | `(tactic| walk_at "subscriptTail") => `(tactic| refine Stop.go ?_)
theorem lplace {w : World} {loose : List Str} {mean : ExcName → Option Value} {mg mb : Str → Option Value} {v : Value} {t : T3} :
    Meets w loose mean mg mb 138 [v] 10 40 [] (fun h => IsT h v t) (fun _ r _ => ∃ u, r = .int t.2.1 u) := by
  have Z : (hd.heap_39 w.params).In { objs := #[] } → Challenge.rw_mq0294_01.foot = 11 → True := fun _ _ => trivial
  revert Z; k_fill; intro _
  refine enter (f := 138) (args := [v]) (d := 10) (u := 40) (binds := [("stroke", v)]) [] (by k_is) (by k_is) (fun s => BindsTo.of_eq rfl) (locs rfl) rfl rfl rfl (by decide) (by omega) ?_
  intro dp un gd outer s R g h₁ L tk hd hu hpre G K1 K2 K3 hlt K4 F ret
  have kk : ∀ b o, s.heap.get? b = some o → g.get? b = some o := fun b o e => K1 b o (fun q => nomatch q) e
  obtain ⟨fa, f1, f2, f3, rfl, hfa⟩ := hpre.keeps kk
  have hft : IsTup g fa #[.int t.1 f1, .int t.2.1 f2, .int t.2.2 f3] := ⟨_, hfa, rfl, _, rfl⟩
  have X := G.X
  have T := G.T
  have N : News g L h₁ [] := News.nil
  (try dsimp only)
  (try k_fold)
  k_steps
  (rename Fr _ _ _ _ => F8)
  refine item_tupleT (Fr.tup F8 hft) (by decide) (by decide) rfl rfl ?_
  k_steps
  exact ret _ _ _ F8.keep ⟨_, rfl⟩

theorem perm_pull {α β : Type} (f : α → β) {l : List α} {m : List β} (h : m.Perm (l.map f)) : ∃ l' : List α, l'.Perm l ∧ l'.map f = m := by
  generalize e : l.map f = k at h
  induction h generalizing l with
  | nil => exact ⟨l, .refl _, e⟩
  | @cons x l₁ l₂ _ ih =>
    match l, e with
    | a :: l, e =>
      injection e with e1 e2
      obtain ⟨l', p, q⟩ := ih e2
      exact ⟨a :: l', p.cons a, by rw [List.map_cons, e1, q]⟩
  | swap x y r =>
    match l, e with
    | a :: b :: l, e =>
      injection e with e1 e2
      injection e2 with e2 e3
      exact ⟨b :: a :: l, .swap .., by rw [List.map_cons, List.map_cons, e1, e2, e3]⟩
  | trans _ _ ih1 ih2 =>
    obtain ⟨l', p, q⟩ := ih2 e
    obtain ⟨l'', p', q'⟩ := ih1 q
    exact ⟨l'', p'.trans p, q'⟩
theorem map_fst_zip' {α β : Type} : ∀ {a : List α} {b : List β}, b.length = a.length → (a.zip b).map (·.1) = a
  | [], [], _ => rfl
  | x :: a, y :: b, h => by rw [List.zip_cons_cons, List.map_cons, map_fst_zip' (by simpa using h)]
theorem zip_isT {h : Heap} {vs : List Value} {ts : List T3} (x : TsAre h vs ts) : ∀ p ∈ ts.zip vs, IsT h p.2 p.1 := by
  intro p hp
  obtain ⟨i, hi⟩ := List.mem_iff_getElem?.mp hp
  rw [List.getElem?_zip_eq_some] at hi
  exact x.2 i _ _ hi.2 hi.1
theorem tsAre_of {h : Heap} {qs : List (T3 × Value)} (x : ∀ p ∈ qs, IsT h p.2 p.1) : TsAre h (qs.map (·.2)) (qs.map (·.1)) := by
  refine ⟨by simp, fun i v t h1 h2 => ?_⟩
  rw [List.getElem?_map] at h1 h2
  cases e : qs[i]? with
  | none => rw [e] at h1; cases h1
  | some p =>
    rw [e] at h1 h2
    cases h1; cases h2
    exact x p (List.mem_of_getElem? e)
theorem out_sorted {h : Heap} {vs out : List Value} {ts : List T3} (x : TsAre h vs ts) (k : KskOut false (ts.map (·.2.1)) vs out) :
    ∃ ts', TsAre h out ts' ∧ ts'.Perm ts ∧ ts'.Pairwise (fun a b => a.2.1 ≤ b.2.1) ∧ ∀ v ∈ out, v ∈ vs := by
  obtain ⟨ps, h1, rfl, h3⟩ := k
  have e : (ts.map (·.2.1)).zip vs = (ts.zip vs).map (fun p : T3 × Value => (p.1.2.1, p.2)) := by
    rw [List.zip_map_left]; exact List.map_congr_left fun ⟨x, y⟩ _ => rfl
  rw [e] at h1
  obtain ⟨qs, q1, rfl⟩ := perm_pull _ h1
  have hq := fun p hp => zip_isT x p (q1.mem_iff.mp hp)
  refine ⟨qs.map (·.1), ?_, ?_, ?_, ?_⟩
  · rw [List.map_map]; exact tsAre_of hq
  · have := q1.map (·.1)
    rw [map_fst_zip' x.1] at this
    exact this
  · rw [List.pairwise_map] at h3 ⊢
    exact h3.imp (by simp)
  · intro v hv
    rw [List.map_map] at hv
    obtain ⟨p, hp, rfl⟩ := List.mem_map.mp hv
    exact (List.of_mem_zip (show (p.1, p.2) ∈ ts.zip vs from q1.mem_iff.mp hp)).2
end Mine
namespace Mine
section
variable {w : World} {loose : List Str} {mean : ExcName → Option Value} {mg mb : Str → Option Value} {dp un : Nat} {gd : Option (List Code)} {outer : List Env} {s : Shared} {g : Heap} {L l : Addr} {m : Str → Option Value} {news : List (Addr × Obj)} {vs : List Value} {c : Nat} {ts : List T3} {Q E : Value → Shared → Prop}
theorem sort_place (G : Gr w loose mean mg mb g) (F : Fr g L s.heap m) (N : News g L s.heap news) (hl : s.heap.get? l = some (W.listOf vs.toArray c)) (hT : TsAre s.heap vs ts) (h64 : vs.length < 64) (hd : dp + 20 < recursionLimit) (hu : un + 60 < cLine)
    (hin : ∀ v ∈ vs, ∀ a, v = .ref a → (∃ o, (a, o) ∈ news) ∨ ∃ o, g.get? a = some o)
    (h : ∀ D h' tk out c ts', Fr g L h' m → News g L h' ((D, W.listOf (List.toArray out) c) :: news) → (∀ q ∈ news, q.1 < D) → TsAre h' out ts' → ts'.Perm ts → ts'.Pairwise (fun a b => a.2.1 ≤ b.2.1) → (∀ v ∈ out, v ∈ vs) → Q (.ref D) { s with heap := h', toks := tk }) :
    wpAny (model PR w) (mkA dp un gd outer) (call (.builtin "sorted") [.ref l] [(Str.ofString "key", .ref 138)]) Q E s := by
  have tr : ∀ h' : Heap, (∀ b o, g.get? b = some o → h'.get? b = some o) → (∀ p ∈ news, h'.get? p.1 = some p.2) → TsAre h' vs ts := by
    intro h' k1 k2
    refine ⟨hT.1, fun i v t a b => ?_⟩
    obtain ⟨ad, u1, u2, u3, rfl, e⟩ := hT.2 i v t a b
    rcases hin _ (List.mem_of_getElem? a) ad rfl with ⟨o, hm⟩ | ⟨o, hg⟩
    · have := (N _ hm).1
      rw [e] at this
      cases this
      exact ⟨ad, u1, u2, u3, rfl, k2 _ hm⟩
    · have := F.keep _ _ hg
      rw [e] at this
      cases this
      exact ⟨ad, u1, u2, u3, rfl, k1 _ _ hg⟩
  refine ksk_sorted (kz := ts.map (·.2.1)) (vs := vs) (b := false) F N ⟨_, hl, rfl, _, rfl⟩ (by rw [List.length_map, hT.1]) h64 (ksk_s1 _ _) (fun x => ksk_l1 _ _) (fun x => ksk_t1 _ _) ?_ ?_
  · intro i v k hv hk h' tk own F' N'
    rw [List.getElem?_map] at hk
    cases e : ts[i]? with
    | none => rw [e] at hk; cases hk
    | some t =>
      rw [e] at hk; cases hk
      have hpre := (tr h' F'.keep fun p hp => (N' p (List.mem_append_left _ hp)).1).2 i v t hv e
      refine use (dp := dp) (un := un + 1 + 1) (s := { s with heap := h', toks := tk }) (lplace (v := v) (t := t)) (by omega) (by omega) G F' N' (fun b hb => nomatch hb) hpre ?_
      rintro _ h8 tk8 x8 ⟨u, rfl⟩
      exact KskEnd.intro (fr_ext0 F' x8) (news_ext0 N' x8) fun p hp => hp
  · intro D h' tk out c F' N' hlt ko
    have hT' := tr h' F'.keep fun p hp => (N' p (.tail _ hp)).1
    obtain ⟨ts', a1, a2, a3, a4⟩ := out_sorted hT' ko
    exact h D h' tk out.toList c ts' F' (by rw [Array.toArray_toList]; exact N') hlt a1 a2 a3 a4
end
end Mine
end

section
open PySem PySem.W PyProof.Rows PySem.Spec PySem.Calls
set_option Elab.async false
set_option maxRecDepth 100000
set_option maxHeartbeats 800000
set_option pp.deepTerms false
set_option pp.deepTerms.threshold 3
set_option pp.maxSteps 6000
namespace Mine
/-- a list of ints at D -/
def LI (h : Heap) (D : Addr) (ds : List Int) : Prop := ∃ vs : List Value, h.IsList D vs.toArray ∧ IntsAre vs ds
theorem Heap.IsList.keepsK {g h : Heap} {D : Addr} {vs : Array Value} (x : h.IsList D vs) (k : ∀ b o, h.get? b = some o → g.get? b = some o) : g.IsList D vs := let ⟨o, e, r⟩ := x; ⟨o, k _ _ e, r⟩
theorem LI.keeps {g h : Heap} {D : Addr} {ds : List Int} (x : LI h D ds) (k : ∀ b o, h.get? b = some o → g.get? b = some o) : LI g D ds := let ⟨vs, l, i⟩ := x; ⟨vs, Heap.IsList.keepsK l k, i⟩
theorem lmoment {w : World} {loose : List Str} {mean : ExcName → Option Value} {mg mb : Str → Option Value} {S : Addr} {ns : List Int} (hsm : ns.length ≤ 100) :
    Meets w loose mean mg mb 124 [.ref S] 10 40 [] (fun h => LI h S ns) (fun _ r _ => ∃ u, r = .int (ns.getD 0 0) u) := by
  have Z : (hd.heap_39 w.params).In { objs := #[] } → Challenge.rw_mq0294_01.foot = 11 → True := fun _ _ => trivial
  revert Z; k_fill; intro _
  refine enter (f := 124) (args := [.ref S]) (d := 10) (u := 40) (binds := [("script", .ref S)]) [] (by k_is) (by k_is) (fun s => BindsTo.of_eq rfl) (locs rfl) rfl rfl rfl (by decide) (by omega) ?_
  intro dp un gd outer s R g h₁ L tk hd hu hpre G K1 K2 K3 hlt K4 F ret
  have kk : ∀ b o, s.heap.get? b = some o → g.get? b = some o := fun b o e => K1 b o (fun q => nomatch q) e
  obtain ⟨vs, hl, hi⟩ := hpre
  replace hl : g.IsList S vs.toArray := Heap.IsList.keepsK hl kk
  have X := G.X
  have T := G.T
  have N : News g L h₁ [] := News.nil
  (try dsimp only)
  (try k_fold)
  k_steps
  · exact ret _ _ _ F.keep ⟨_, rfl⟩
  · have e : ns.getD 0 0 = 0 := by
      have : ns = [] := List.length_eq_zero_iff.mp (by omega)
      rw [this]; rfl
    exact ret _ _ _ F.keep ⟨_, by rw [e]⟩
theorem lcount {w : World} {loose : List Str} {mean : ExcName → Option Value} {mg mb : Str → Option Value} {S : Addr} {ns : List Int} (hsm : ns.length ≤ 100) :
    Meets w loose mean mg mb 131 [.ref S] 200 40 [] (fun h => LI h S ns) (fun _ r _ => ∃ u, r = .int (12 + if 9 < ns.length then (ns.getD 9 0).fmod 25 else 0) u) := by
  have Z : (hd.heap_39 w.params).In { objs := #[] } → Challenge.rw_mq0294_01.foot = 11 → True := fun _ _ => trivial
  revert Z; k_fill; intro _
  refine enter (f := 131) (args := [.ref S]) (d := 200) (u := 40) (binds := [("script", .ref S)]) [] (by k_is) (by k_is) (fun s => BindsTo.of_eq rfl) (locs rfl) rfl rfl rfl (by decide) (by omega) ?_
  intro dp un gd outer s R g h₁ L tk hd hu hpre G K1 K2 K3 hlt K4 F ret
  have kk : ∀ b o, s.heap.get? b = some o → g.get? b = some o := fun b o e => K1 b o (fun q => nomatch q) e
  obtain ⟨vs, hl, hi⟩ := hpre
  replace hl : g.IsList S vs.toArray := Heap.IsList.keepsK hl kk
  have X := G.X
  have T := G.T
  have N : News g L h₁ [] := News.nil
  (try dsimp only)
  (try k_fold)
  k_steps
  · exact ret _ _ _ F.keep ⟨_, by rw [if_pos (by omega)]; rfl⟩
  · exact ret _ _ _ F.keep ⟨_, by rw [if_neg (by omega)]⟩
end Mine
end

section
open PySem PySem.W PyProof.Rows PySem.Spec PySem.Calls
set_option Elab.async false
set_option maxRecDepth 100000
set_option maxHeartbeats 800000
namespace Mine
section
variable {w : World} {A : Around} {E : Value → Shared → Prop} {s : Shared} {h₀ : Heap} {L : Addr} {m : Str → Option Value} {env : Env} {elt : Expr} {x : Str} {scope : Scope} {cl : List (Str × Addr)} {S : List (Addr × Obj) → Prop} {P : Nat → Value → Prop} {Fin : List Value → List (Addr × Obj) → Prop}
open LCg
theorem compEnd_mono {I C D : Addr} {oI oC oD : Obj} {s₁ s₂ : Shared} {y : Value} {r r' : Value → List (Addr × Obj) → Prop} (h : ∀ y n, r y n → r' y n) (c : CompEnd h₀ L m s₁ I oI C oC D oD S r y s₂) : CompEnd h₀ L m s₁ I oI C oC D oD S r' y s₂ := by
  obtain ⟨h', tk, n, e, F, N, o, hS, q⟩ := c
  exact ⟨h', tk, n, e, F, N, o, hS, h _ _ q⟩
/-- the turns of a comprehension, by what holds ahead of each -/
theorem comp_inv {n : Nat} (J : Nat → List Value → List (Addr × Obj) → Prop)
    (turn : ∀ i ys news v I oI C oC D m₂ h tk (E' : Value → Shared → Prop), i < n → J i ys news → P i v → NsObj oC m₂ → m₂ x = some v → Fr h₀ L h m → News h₀ L h ((I, oI) :: (C, oC) :: (D, lst ys) :: news) → Off3 I C D news → ((@Ne Nat I C) ∧ (@Ne Nat I D) ∧ (@Ne Nat C D)) →
      wpAny (model PR w) A (eval elt (compEnvC scope cl C env)) (CompEnd h₀ L m { s with heap := h, toks := tk } I oI C oC D (lst ys) S (fun y news' => J (i + 1) (ys ++ [y]) news')) E' { s with heap := h, toks := tk })
    (fin : ∀ ys news, J n ys news → Fin ys news) : ∀ (k i : Nat) (ys : List Value) (news : List (Addr × Obj)), i + k = n → J i ys news → CompRest PR w A h₀ L m env elt x scope cl s S P Fin k i ys news
  | 0, i, ys, news, e, hj => CompRest.zero (fin ys news (by rw [← e]; exact hj))
  | k + 1, i, ys, news, e, hj => CompRest.succ fun v I oI C oC D m₂ h tk E' hP hC hx F N o1 o2 =>
    wpAny_mono (turn i ys news v I oI C oC D m₂ h tk E' (by omega) hj hP hC hx F N o1 o2) (fun _ _ q => compEnd_mono (fun y n' j => comp_inv J turn fin k (i + 1) _ _ (by omega) j) q) fun _ _ e => e
theorem rg_walks {I : Addr} (hh : A.handled = none) (a c : Int) (n : Nat) : Walks PR w A I [I] [I] n (fun i v => ∃ t, v = .int (a + (i : Int) * c) t) (fun i h => IsRangeIter h I (a + (i : Nat) * c) ((n : Int) - (i : Nat)) c) := Walks.range hh I a c n
theorem rg_st {I : Addr} {a c : Int} {n : Nat} : ∀ i (h h' : Heap) (o : Obj) (nw : List (Addr × Obj)), IsRangeIter h I (a + (i : Nat) * c) ((n : Int) - (i : Nat)) c → h.get? I = some o → h'.get? I = some o → (∀ b o, h₀.get? b = some o → h'.get? b = some o) → News h₀ L h' nw → True → IsRangeIter h' I (a + (i : Nat) * c) ((n : Int) - (i : Nat)) c :=
  fun i h h' o nw st e e' _ _ _ => by
    have st' : h.get? I = some _ := st
    show h'.get? I = some _
    rw [e', ← e]; exact st'
/-- a write at C alone, off the ledger -/
theorem news_off {g h h' : Heap} {K C : Addr} {news : List (Addr × Obj)} (N : News g K h news) (off : ∀ p ∈ news, p.1 ≠ C) (b : Heap.SameBut C h h') : News g K h' news := fun p hp =>
  let q := N p hp
  ⟨b.extBut p.1 p.2 (off p hp) q.1, q.2⟩
section
variable {M : Model} {cn : Str} {fs : Scope} {fa : Addr} {cd : Value} {fcl : List (Str × Addr)} {y : Str} {py : Pos} {D C : Addr} {mC : Str → Option Value} {ys : List Value} {news : List (Addr × Obj)} {Q : Flow → Shared → Prop}
/-- the made list goes into the name y, and the comprehension's own names (at C) are let go -/
theorem comp_store (F : Fr h₀ L s.heap m) (N : News h₀ L s.heap ((D, lst ys) :: news)) (hn : s.heap.Ns C mC) (hCL : C ≠ L) (hC0 : h₀.get? C = none) (hCD : C ≠ D) (off : ∀ p ∈ news, p.1 ≠ C) (o1 : Off1 D news)
    (hk : fs.kind = .function) (hy : (envX cn fs L fa cd fcl).kindOf y = some .local) (fin : FinA h₀ L m s y Q ys news) :
    wpAny M A (assign (.Name y py) (envX cn fs L fa cd fcl) (.ref D)) (fun _ s' => ∃ mc, s'.heap.Ns C mc ∧ ∀ h', Heap.SameBut C s'.heap h' → Q .next { s' with heap := h' }) E s := by
  obtain ⟨oC, es, ep, eC, rC⟩ := hn
  have NC : News h₀ L s.heap ((C, oC) :: (D, lst ys) :: news) := news_cons N eC hCL hC0
  refine wpAny_assign_Name (storeX_L F NC (fun h2 F2 N2 => ?_) hk hy)
  refine ⟨mC, ⟨oC, es, ep, (N2 _ (.head _)).1, rC⟩, fun h3 b3 => ?_⟩
  have N3 : News h₀ L h2 ((D, lst ys) :: news) := fun p hp => N2 p (.tail _ hp)
  exact fin D h3 _ (F2.change b3 hCL hC0) (news_off N3 (fun p hp => (List.mem_cons.mp hp).elim (fun e => by rw [e]; exact hCD.symm) (off p)) b3) o1
end
/-- y = [.. for x in range(a, b, c)] -/
theorem assign_comp {cn : Str} {fs : Scope} {fa : Addr} {cd : Value} {fcl : List (Str × Addr)} {iter : Expr} {y : Str} {px py : Pos} {pos spos : Pos} {Q : Flow → Shared → Prop} (_ : Fr h₀ L s.heap m) (henv : env = envX cn fs L fa cd fcl)
    (used : swapsWith (.ListComp elt [⟨.Name x px, iter, [], 0⟩] scope pos) (some (.Name y py)) spos.line env = pure true)
    (clos : closureFor scope env = pure cl) (nocell : ∀ z ∈ scope.names, z.2 ≠ .cell) (isfn : scope.kind = .function)
    (locs' : ∀ z ∈ scope.names, z.2 = .local → scope.names.lookup z.1 = some .local) (hx : scope.names.lookup x = some .local) (hk : fs.kind = .function) (hy : (envX cn fs L fa cd fcl).kindOf y = some .local)
    (src : wpAny (model PR w) A (eval iter env) (fun xv s₁ => ∃ r a b c t u v n news, xv = .ref r ∧ A.handled = none ∧ Fr h₀ L s₁.heap m ∧ News h₀ L s₁.heap news ∧ IsRange s₁.heap r a b c t u v ∧ Builtin.Range.small a b c = true ∧ Builtin.Range.rangeSize a b c = ((n : Nat) : Int) ∧ n ≤ sizeLine ∧
      ∀ s₂ : Shared, (∃ h, s₂ = { s₁ with heap := h }) → CompRest PR w A h₀ L m env elt x scope cl s₂ (fun _ => True) (fun i v => ∃ t, v = .int (a + (i : Int) * c) t) (FinA h₀ L m s₂ y Q) n 0 [] news) E s)
    (plain : ∀ x, foldedSetIterable iter env x = pure x := by intro _; rfl) :
    wpAny (model PR w) A (exec (.Assign [.Name y py] (.ListComp elt [⟨.Name x px, iter, [], 0⟩] scope pos) spos) env) Q E s := by
  have out : ∀ (u : Unit) (s' : Shared), Q .next s' → wpAny (model PR w) A (pure Flow.next) Q E s' := fun _ _ q => wpAny_pure q
  rw [exec_Assign_Name_used _ _ _ _ used]
  apply wpAny_bind
  apply wpAny_standAt
  apply wpAny_bind
  apply wpAny_bind
  have E0 : ∀ (e : Value) (s' : Shared), E e s' → E e s' := fun _ _ z => z
  refine wpAny_mono (wpAny_comprehension_free (Q := fun _ => Q .next) (use := some (assign (.Name y py) env)) rfl plain clos isfn locs' (wpAny_mono src ?_ E0)) (fun _ s' q => wpAny_pure (out () s' q)) E0
  rintro _ s₁ ⟨r, a, b, c, t, u, v, n, news, rfl, hh, F, N, hr, small, size, line, rest⟩
  apply wpAny_pyIter_range hr small
  rw [size]
  have up : ∀ b' o, s₁.heap.get? b' = some o → (s₁.heap.push (rangeIt a n c)).get? b' = some o := fun _ _ e => Heap.get?_push_of_some _ e
  have it : IsRangeIter (s₁.heap.push (rangeIt a n c)) s₁.heap.objs.size (a + ((0 : Nat) : Int) * c) ((n : Int) - ((0 : Nat) : Int)) c := by
    show Heap.get? _ _ = _
    rw [show a + ((0 : Nat) : Int) * c = a by simp, show (n : Int) - ((0 : Nat) : Int) = n by simp]
    exact Heap.get?_push_size _ rfl
  have lo : ∀ b' ∈ [s₁.heap.objs.size], b' < (s₁.heap.push (rangeIt a n c)).objs.size := fun b' hb => by
    cases List.mem_singleton.mp hb
    exact Nat.lt_of_lt_of_eq (Nat.lt_succ_self _) (Heap.size_push ..).symm
  have i0 := none_above F (Nat.le_of_lt F.ns.lt)
  have io : ∀ p ∈ news, p.1 ≠ s₁.heap.objs.size := fun p hp e => absurd (Heap.lt_size (N p hp).1) (by rw [e]; exact Nat.lt_irrefl _)
  refine block_U (rg_walks hh a c n) line (fun _ _ st => ⟨_, st⟩) rg_st nocell isfn hx it lo (F.keeps up) (N.grown up) (Nat.ne_of_lt F.ns.lt) i0 io trivial (rest _ ⟨_, rfl⟩) ?_
  intros
  subst henv
  apply comp_store <;> assumption
end
end Mine
end

section
open PySem PySem.W PyProof.Rows PySem.Spec PySem.Calls
set_option Elab.async false
set_option maxRecDepth 100000
set_option maxHeartbeats 800000
namespace Mine
local macro_rules | `(tactic| walk_at "call type:range") => `(tactic| refine Stop.go ?_)
local macro_rules | `(tactic| walk_at "exec Assign cons ListComp") => `(tactic| refine Stop.go ?_)
/-- the clocks that a script names -/
def clk0 (cl : List Int) : Nat → List (Int × Int)
  | 0 => []
  | k + 1 => clk0 cl k ++ [(cl.getD (2 * k) 0, ((cl.getD (2 * k + 1) 0).natAbs : Int) + 1)]
def clk (ns : List Int) : List (Int × Int) :=
  let cl := (ns.drop 1).take 8
  clk0 cl (cl.length / 2) ++ if cl.length / 2 < 2 then [(0, 2), (1, 3)] else []
theorem clk0_length {cl : List Int} : ∀ i, (clk0 cl i).length = i
  | 0 => rfl
  | i + 1 => by rw [clk0, List.length_append, clk0_length i]; rfl
theorem clk_snoc {cl : List Int} {i : Nat} {ys : List Value} {tp : List (Addr × Obj)} {T : Addr} {x y : Int} {t0 u0 : Tok} (hyl : ys.length = i)
    (hys : ∀ (j : Nat) v p, ys[j]? = some v → (clk0 cl i)[j]? = some p → ∃ a t u, v = .ref a ∧ (a, tupO [.int p.1 t, .int p.2 u]) ∈ tp)
    (hx : x = cl.getD (2 * i) 0) (hy : y = ((cl.getD (2 * i + 1) 0).natAbs : Int) + 1) :
    ∀ (j : Nat) v p, (ys ++ [.ref T])[j]? = some v → (clk0 cl (i + 1))[j]? = some p → ∃ a t u, v = .ref a ∧ (a, tupO [.int p.1 t, .int p.2 u]) ∈ (T, tupO [.int x t0, .int y u0]) :: tp := by
  intro j v p h1 h2
  rw [clk0] at h2
  have hc := clk0_length (cl := cl) i
  by_cases hj : j < i
  · rw [List.getElem?_append_left (by omega)] at h1 h2
    obtain ⟨a, t, u, e, hm⟩ := hys j v p h1 h2
    exact ⟨a, t, u, e, .tail _ hm⟩
  · rw [List.getElem?_append_right (by omega)] at h1 h2
    have e0 : j - ys.length = 0 ∨ 0 < j - ys.length := by omega
    rcases e0 with e0 | e0
    · rw [e0] at h1
      rw [hc, ← hyl, e0] at h2
      cases h1; cases h2
      exact ⟨T, t0, u0, rfl, by rw [hx, hy, ← hyl]; exact .head _⟩
    · rw [List.getElem?_eq_none (by simp; omega)] at h1; cases h1
theorem compEnd_tup {h₀ h' : Heap} {L I C D T : Addr} {m : Str → Option Value} {s₁ : Shared} {oI oC oD oT : Obj} {rest : Value → List (Addr × Obj) → Prop} {tk : Nat} {n1 n2 : Addr × Obj} {tp : List (Addr × Obj)}
    (F : Fr h₀ L h' m) (N : News h₀ L h' ((T, oT) :: (I, oI) :: (C, oC) :: (D, oD) :: n1 :: n2 :: tp)) (hT : T ≠ I ∧ T ≠ C ∧ T ≠ D) (off : LCg.Off3 I C D (n1 :: n2 :: tp)) (r : rest (.ref T) (n1 :: n2 :: (T, oT) :: tp)) :
    LCg.CompEnd h₀ L m s₁ I oI C oC D oD (fun _ => True) rest (.ref T) { s₁ with heap := h', toks := tk } := by
  refine LCg.CompEnd.intro F N (n1 :: n2 :: (T, oT) :: tp) ?_ (LCg.Off3.of fun p hp => ?_) trivial r
  · intro p hp
    simp only [List.mem_cons] at hp ⊢
    grind
  · have := off.mem
    simp only [List.mem_cons] at hp this
    rcases hp with rfl | rfl | rfl | hp
    · exact this _ (.inl rfl)
    · exact this _ (.inr (.inl rfl))
    · exact hT
    · exact this _ (.inr (.inr hp))
theorem clk_few {cl ns : List Int} (h : cl = (ns.drop 1).take 8) (hk : cl.length / 2 < 2) : clk ns = clk0 cl (cl.length / 2) ++ [(0, 2), (1, 3)] := by
  unfold clk; rw [← h]; simp only [hk, if_true]
theorem clk_many {cl ns : List Int} (h : cl = (ns.drop 1).take 8) (hk : ¬ cl.length / 2 < 2) : clk ns = clk0 cl (cl.length / 2) ++ [] := by
  unfold clk; rw [← h]; simp only [hk, if_false]
theorem clk_of {g h : Heap} {L C : Addr} {cl : List Int} {k c : Nat} {ys zs : List Value} {qs : List (Int × Int)} {rest tp : List (Addr × Obj)} (N : News g L h ((C, W.listOf (ys ++ zs).toArray c) :: rest)) (hyl : ys.length = k)
    (hys : ∀ (j : Nat) v p, ys[j]? = some v → (clk0 cl k)[j]? = some p → ∃ a t u, v = .ref a ∧ (a, tupO [.int p.1 t, .int p.2 u]) ∈ tp) (hs : ∀ p ∈ tp, p ∈ rest) (hl : zs.length = qs.length)
    (hz : ∀ (j : Nat) v p, zs[j]? = some v → qs[j]? = some p → IsP h v p) : Clk h C (clk0 cl k ++ qs) := by
  have hc := clk0_length (cl := cl) k
  refine ⟨ys ++ zs, c, (N _ (.head _)).1, by simp only [List.length_append]; omega, fun j v p h1 h2 => ?_⟩
  by_cases hj : j < k
  · rw [List.getElem?_append_left (by omega)] at h1 h2
    obtain ⟨a, t, u, e, hm⟩ := hys j v p h1 h2
    exact ⟨a, t, u, e, (N _ (.tail _ (hs _ hm))).1⟩
  · rw [List.getElem?_append_right (by omega)] at h1 h2
    rw [hc] at h2
    rw [hyl] at h1
    exact hz _ v p h1 h2
theorem range2_ok : ∀ k : Nat, k ≤ 8 → Builtin.Range.small 0 ((k : Int) - 1) 2 = true ∧ Builtin.Range.rangeSize 0 ((k : Int) - 1) 2 = ((k / 2 : Nat) : Int) := by decide +kernel
theorem lclocks {w : World} {loose : List Str} {mean : ExcName → Option Value} {mg mb : Str → Option Value} {S : Addr} {ns : List Int} (hsm : ns.length ≤ 100) :
    Meets w loose mean mg mb 117 [.ref S] 20 80 [] (fun h => LI h S ns) (fun _ r h' => ∃ C, r = .ref C ∧ Clk h' C (clk ns)) := by
  have Z : (hd.heap_39 w.params).In { objs := #[] } → Challenge.rw_mq0294_01.foot = 11 → True := fun _ _ => trivial
  revert Z; k_fill; intro _
  refine enterC (f := 117) (args := [.ref S]) (d := 20) (u := 80) (binds := [("script", .ref S)]) [] (by k_is) (by k_is) rfl rfl (by decide +kernel) rfl rfl rfl (by omega) ?_
  intro dp un gd outer s R g h₁ L tk cells hd hu hpre G K1 K2 K3 hlt K4 F N Y ret
  have kk : ∀ b o, s.heap.get? b = some o → g.get? b = some o := fun b o e => K1 b o (fun q => nomatch q) e
  obtain ⟨vs, hl, hi⟩ := hpre
  replace hl : g.IsList S vs.toArray := Heap.IsList.keepsK hl kk
  have X := G.X
  have T := G.T
  k_cells Y
  rename_i o1 d1
  replace d1 : o1.data = .cell none := d1
  (try dsimp only)
  (try k_fold)
  k_steps
  rename_i Dc ws hh hI hCn hLn l1 h2 oc F2 N2 d2
  have hct : List.take (min 9 ns.length - 1) (List.drop 1 ns) = (ns.drop 1).take 8 := by
    rw [List.take_eq_take_iff, List.length_drop]; omega
  obtain ⟨cl, hcl⟩ : ∃ cl, cl = (ns.drop 1).take 8 := ⟨_, rfl⟩
  have hI2 : IntsAre ws cl := by rw [hcl, ← hct]; exact hI
  have hcll : cl.length ≤ 8 := by rw [hcl, List.length_take]; omega
  clear hI hCn hLn hct
  refine assign_comp F2 rfl (by with_unfolding_all rfl) (by with_unfolding_all rfl) (by decide) rfl (by decide) rfl rfl rfl ?_
  k_steps
  (rename Fr _ _ _ _ => F3); (rename News _ _ _ _ => N3)
  refine range3_rows F3 N3 (by decide) ?_ (Or.inl (PyProof.noPylong_small (by omega)))
  intro h4 tk4 r1 r2 r3 hR F4 N4 _
  refine ⟨_, 0, _, 2, _, _, _, cl.length / 2, _, rfl, trivial, F4, N4, hR, (range2_ok _ hcll).1, (range2_ok _ hcll).2, by rw [sizeLine_eq]; omega, ?_⟩
  rintro _ ⟨h5, rfl⟩
  refine comp_inv (n := cl.length / 2) (fun i ys news => ∃ tp, news = (Dc, W.listOf ws.toArray 0) :: (L + 1, oc) :: tp ∧ ys.length = i ∧ ∀ (j : Nat) v p, ys[j]? = some v → (clk0 cl i)[j]? = some p → ∃ a t u, v = .ref a ∧ (a, tupO [.int p.1 t, .int p.2 u]) ∈ tp) ?_ ?_ _ 0 [] _ (by omega) ?_
  · rintro i ys _ v I oI C oC D m₂ h6 tk6 E' hi ⟨tp, rfl, hyl, hys⟩ ⟨tv, rfl⟩ hCo hm2 F6 N6 o1 o2
    k_steps
    (rename Fr _ _ _ _ => F7); (rename News _ _ _ _ => N7)
    rename_i l7
    have e1 : (0 + (i : Int) * 2).toNat = 2 * i := by omega
    have e2 : (0 + (i : Int) * 2 + 1).toNat = 2 * i + 1 := by omega
    have e3 : ∀ z : Int, (if z < 0 then -z else z) = (z.natAbs : Int) := by intro z; split <;> omega
    rw [e1, e2, e3] at N7
    have q := fun T t u => clk_snoc (T := T) (t0 := t) (u0 := u) hyl hys rfl rfl
    exact compEnd_tup F7 N7 ⟨Nat.ne_of_gt l7.1, Nat.ne_of_gt l7.2.1, Nat.ne_of_gt l7.2.2.1⟩ o1 (by
      refine ⟨_, rfl, by rw [List.length_append, hyl]; rfl, ?_⟩
      intro j v p h1 h2
      exact q _ _ _ j v p h1 h2)
  · rintro ys _ ⟨tp, rfl, hyl, hys⟩ D h6 tk6 F6 N6 o1
    k_steps
    (rename Fr _ _ _ _ => F7); (rename News _ _ _ _ => N7)
    refine KM.len_K (n := cl.length / 2) N7 (.head _) (by rw [List.size_toArray]; exact hyl) (by omega) ?_
    k_steps
    all_goals ((rename Fr _ _ _ _ => F8); (rename News _ _ _ _ => N8))
    · refine ret _ _ _ F8.keep ⟨_, rfl, ?_⟩
      rw [clk_few hcl (by omega)]
      refine clk_of N8 hyl hys (fun p hp => by simp only [List.mem_cons]; grind) rfl ?_
      intro j v p h1 h2
      match j, h1, h2 with
      | 0, h1, h2 => cases h1; cases h2; exact ⟨_, _, _, rfl, (N8 _ (.tail _ (.tail _ (.tail _ (.head _))))).1⟩
      | 1, h1, h2 => cases h1; cases h2; exact ⟨_, _, _, rfl, (N8 _ (.tail _ (.tail _ (.head _)))).1⟩
    · refine ret _ _ _ F8.keep ⟨_, rfl, ?_⟩
      rw [clk_many hcl (by omega)]
      refine clk_of N8 hyl hys (fun p hp => by simp only [List.mem_cons]; grind) rfl ?_
      intro j v p h1 h2
      simp at h1
  · exact ⟨[], rfl, rfl, fun j v p h => by simp at h⟩
end Mine
end

section
open PySem PySem.W PyProof.Rows
set_option Elab.async false
set_option maxHeartbeats 1600000
namespace Mine
abbrev Z3 : T3 := (0, 0, 0)
/-- one turn of a film: out goes the top (and the mark), in comes the next stroke of its clock -/
def fturn (lt : T3 → T3 → Bool) (mk : T3) (nx : T3 → T3) (hp : List T3) : List T3 := sift lt ((sift lt (hp.set 0 mk) 0).set 0 (nx (hp.getD 0 Z3))) 0
theorem ord_irr {lt : T3 → T3 → Bool} (O : Ord lt) (a : T3) : lt a a = false := by
  cases h : lt a a
  · rfl
  · have := O.asym _ _ h; rw [h] at this; exact this
theorem set0_perm {hp : List T3} {x : T3} (h : 0 < hp.length) : (hp.set 0 x).Perm (x :: hp.tail) := by
  match hp, h with
  | a :: l, _ => exact .refl _
theorem head_tail {hp : List T3} (h : 0 < hp.length) : hp = hp.getD 0 Z3 :: hp.tail := by
  match hp, h with
  | a :: l, _ => rfl
/-- the mark lies before all: it is the top behind the first replace, and the second puts the next stroke in its place -/
theorem turn_ok {lt : T3 → T3 → Bool} (O : Ord lt) {hp : List T3} {mk : T3} {nx : T3 → T3} (h2 : 2 ≤ hp.length) (h4 : hp.length ≤ 4) (hh : Heapy lt hp) (hm : ∀ x ∈ hp, lt mk x = true) :
    (sift lt (hp.set 0 mk) 0).getD 0 Z3 = mk ∧ Heapy lt (fturn lt mk nx hp) ∧ (fturn lt mk nx hp).Perm (nx (hp.getD 0 Z3) :: hp.tail) := by
  obtain ⟨a1, a2⟩ := replace_ok O h2 h4 hh mk
  have hl : (sift lt (hp.set 0 mk) 0).length = hp.length := by rw [sift_length, List.length_set]
  have a3 : (sift lt (hp.set 0 mk) 0).Perm (mk :: hp.tail) := a2.trans (set0_perm (by omega))
  have top : (sift lt (hp.set 0 mk) 0).getD 0 Z3 = mk := by
    have t := top_least O (by omega) (by omega) a1 mk (a3.mem_iff.mpr (.head _))
    have m := a3.mem_iff.mp (getD_mem (d := Z3) (l := sift lt (hp.set 0 mk) 0) (i := 0) (by omega))
    rcases List.mem_cons.mp m with m | m
    · exact m
    · have := hm _ (List.mem_of_mem_tail m)
      rw [this] at t; cases t
  obtain ⟨b1, b2⟩ := replace_ok O (by omega) (by omega) a1 (nx (hp.getD 0 Z3))
  refine ⟨top, b1, b2.trans ((set0_perm (by omega)).trans (List.Perm.cons _ ?_))⟩
  have := head_tail (hp := sift lt (hp.set 0 mk) 0) (by omega)
  rw [top] at this
  rw [this] at a3
  exact List.Perm.cons_inv a3
end Mine
end

section
open PySem PySem.W PyProof.Rows PySem.Spec PySem.Calls
set_option Elab.async false
set_option maxRecDepth 100000
set_option maxHeartbeats 800000
namespace Mine
/-- no range iterator, by its data -/
def NoRi (o : Obj) : Prop := ∀ x l st, o ≠ rangeIt x l st
theorem NoRi.seq {o : Obj} {v : Array Value} {n : Nat} (h : o.data = .seq v n) : NoRi o := fun x l st e => by rw [e] at h; cases h
theorem NoRi.tab {P : Addr} {q : Str} {pos : Pos} {tb : List (Addr × Obj)} (h : TabLed P q pos tb) : ∀ p ∈ tb, NoRi p.2 := by
  rcases h with rfl | ⟨c', oc, vs, t, rfl, hd, hv⟩
  · intro p hp x l st e
    rw [List.mem_singleton.mp hp] at e
    have := congrArg Obj.data e
    simp [tabObj, rangeIt] at this
  · intro p hp x l st e
    rcases List.mem_cons.mp hp with rfl | hp
    · have e' : oc = rangeIt x l st := e
      rw [e'] at hd
      simp only [rangeIt] at hd
      cases hd
      simp [rawInt] at hv
    · rw [List.mem_singleton.mp hp] at e
      have := congrArg Obj.data e
      simp [tabObj, rangeIt, rawInt] at this
section
variable {w : World} {A A' : Around} {E E' : Value → Shared → Prop} {s : Shared} {env : Env} {g : Heap} {x : Str} {body : List Stmt} {Q : Flow → Shared → Prop}
theorem for_rit2 {I : Addr} {a c : Int} {k : Nat} {m : Str → Option Value} {news : List (Addr × Obj)} (J : Nat → (Str → Option Value) → List (Addr × Obj) → Prop) (hh : A.handled = none)
    (hI : IsRangeIter s.heap I a k c) (hIL : I ≠ env.locals) (hIg : g.get? I = none) (F : Fr g env.locals s.heap m) (N : News g env.locals s.heap news) (hJ : J 0 m news)
    (hJc : ∀ i m news, J i m news → ∀ p ∈ news, NoRi p.2)
    (turn : ∀ i tv m₁ news₁ h tk (oI : Obj), i < k → J i m₁ news₁ → ¬ NoRi oI → (∀ p ∈ news₁, p.1 ≠ I) →
      Fr g env.locals h (fun y => if y = x then some (.int (a + i * c) tv) else m₁ y) → News g env.locals h ((I, oI) :: news₁) →
      wpAny (model PR w) A (execs body env) (REnd g env.locals (J (i + 1)) (I, oI) { s with heap := h, toks := tk } Q) E { s with heap := h, toks := tk })
    (done : ∀ m₁ news₁ h tk, J k m₁ news₁ → Fr g env.locals h m₁ → News g env.locals h news₁ → Q .next { s with heap := h, toks := tk }) :
    LoopAtV PR w A g env x body Q E (.ref I) s := by
  have hcls : ∀ (h : Heap) (oI : Obj) news', h.get? I = some oI → ¬ NoRi oI → News g env.locals h news' → (∀ p ∈ news', NoRi p.2) → ∀ p ∈ news', p.1 ∉ [I] := by
    intro h oI news' e hc N' hn p hp hm
    have h1 := (N' p hp).1
    rw [List.mem_singleton.mp hm, e] at h1
    exact hc ((Option.some.inj h1) ▸ hn p hp)
  have nri : ∀ x l st, ¬ NoRi (rangeIt x l st) := fun x l st h => h x l st rfl
  refine for_go J (Walks.range hh I a c k) (fun hm => hIL (List.mem_singleton.mp hm).symm) (fun b hb => by rw [List.mem_singleton.mp hb]; exact hIg) F N (by simpa using hI) (hcls _ _ _ hI (nri _ _ _) N (hJc _ _ _ hJ)) hJ ?_ (fun m₁ news₁ h tk hj _ F' N' => done m₁ news₁ h tk hj F' N')
  rintro i v m₁ news₁ h tk own hi ⟨tv, rfl⟩ hj hn hst hown hall F' N'
  obtain ⟨oI, e, hoc⟩ : ∃ oI, h.get? I = some oI ∧ ¬ NoRi oI := ⟨_, hst, nri _ _ _⟩
  have hown' : ∀ p ∈ own, p = (I, oI) := fun p hp => by
    have h1 := (N' p (List.mem_append_right _ hp)).1
    have h2 := List.mem_singleton.mp (hown p hp)
    rw [h2, e] at h1
    exact Prod.ext h2 (Option.some.inj h1).symm
  have hmem := hall I (.head _) hIg _ e
  have NI := N' _ (List.mem_append_right _ hmem)
  refine wpAny_mono (turn i tv m₁ news₁ h tk oI hi hj hoc (fun p hp q => hn p hp (by rw [q]; exact .head _)) F' (fun p hp => (List.mem_cons.mp hp).elim (fun q => by rw [q]; exact NI) fun q => N' p (List.mem_append_left _ q))) (fun f s₂ q => ?_) fun _ _ z => z
  have fin : (∃ h' tk' m' news', s₂ = { ({ s with heap := h, toks := tk } : Shared) with heap := h', toks := tk' } ∧ Fr g env.locals h' m' ∧ News g env.locals h' ((I, oI) :: news') ∧ J (i + 1) m' news') →
      ∃ h' tk' m' news', s₂ = { ({ s with heap := h, toks := tk } : Shared) with heap := h', toks := tk' } ∧ Fr g env.locals h' m' ∧ News g env.locals h' (news' ++ own) ∧ (∀ p ∈ news', p.1 ∉ [I]) ∧ J (i + 1) m' news' := by
    rintro ⟨h', tk', m', news', e2, F2, N2, j2⟩
    refine ⟨h', tk', m', news', e2, F2, fun p hp => ?_, hcls _ _ _ (N2 _ (.head _)).1 hoc (fun p hp => N2 p (.tail _ hp)) (hJc _ _ _ j2), j2⟩
    rcases List.mem_append.mp hp with hp | hp
    · exact N2 p (.tail _ hp)
    · rw [hown' p hp]; exact N2 _ (.head _)
  cases f with
  | ret v => exact q
  | brk => exact q
  | next => exact fin q
  | cont => exact fin q
/-- a loop over range(n) -/
theorem for_range2 {r : Addr} {n : Nat} {t u v : Tok} {m : Str → Option Value} {news : List (Addr × Obj)} (J : Nat → (Str → Option Value) → List (Addr × Obj) → Prop) (hR : IsRange s.heap r 0 (n : Int) 1 t u v) (hn : n ≤ 100)
    (F : Fr g env.locals s.heap m) (N : News g env.locals s.heap news) (hJ : J 0 m news) (hh : A.handled = none)
    (hJc : ∀ i m news, J i m news → ∀ p ∈ news, NoRi p.2)
    (turn : ∀ i I tv m₁ news₁ h tk (oI : Obj), i < n → J i m₁ news₁ → ¬ NoRi oI → (∀ p ∈ news₁, p.1 ≠ I) →
      Fr g env.locals h (fun y => if y = x then some (.int (i : Int) tv) else m₁ y) → News g env.locals h ((I, oI) :: news₁) →
      wpAny (model PR w) A (execs body env) (REnd g env.locals (J (i + 1)) (I, oI) { s with heap := h, toks := tk } Q) E { s with heap := h, toks := tk })
    (done : ∀ m₁ news₁ h tk, J n m₁ news₁ → Fr g env.locals h m₁ → News g env.locals h news₁ → Q .next { s with heap := h, toks := tk }) :
    wpAny (model PR w) A' (pyIter (.ref r)) (LoopAtV PR w A g env x body Q E) E' s := by
  refine wpAny_pyIter_range hR (small_range hn) ?_
  have hz : Builtin.Range.rangeSize 0 (n : Int) 1 = (n : Int) := by rw [rangeSize_nat]; omega
  rw [hz]
  have N4 := N.push F (rangeIt 0 n 1)
  refine for_rit2 (a := 0) (c := 1) (k := n) J hh (N4 _ (.head _)).1 (N4 _ (.head _)).2.1 (N4 _ (.head _)).2.2 (F.push _) (news_sub N4 fun p hp => .tail _ hp) hJ hJc ?_ done
  intro i tv m₁ news₁ h tk oI hi hj hc hne F' N'
  have e : (0 + (i : Int) * 1) = (i : Int) := by omega
  rw [e] at F'
  exact turn i _ tv m₁ news₁ h tk oI hi hj hc hne F' N'
end
end Mine
end

section
open PySem PySem.W PyProof.Rows PySem.Spec PySem.Calls
set_option Elab.async false
set_option maxRecDepth 100000
set_option maxHeartbeats 800000
namespace Mine
/-- the values vs are the triples ts, each an object of X -/
def TX (X : List (Addr × Obj)) (vs : List Value) (ts : List T3) : Prop :=
  vs.length = ts.length ∧ ∀ (i : Nat) v t, vs[i]? = some v → ts[i]? = some t → ∃ a u1 u2 u3, v = .ref a ∧ (a, trO t u1 u2 u3) ∈ X
/-- at D lies a list of the triples ts, all in X -/
def LX (X : List (Addr × Obj)) (D : Addr) (ts : List T3) : Prop := ∃ vs c, (D, W.listOf (List.toArray vs) c) ∈ X ∧ TX X vs ts
theorem TX.mono {X X' : List (Addr × Obj)} {vs : List Value} {ts : List T3} (x : TX X vs ts) (s : ∀ p ∈ X, p ∈ X') : TX X' vs ts :=
  ⟨x.1, fun i v t h1 h2 => let ⟨a, u1, u2, u3, e, m⟩ := x.2 i v t h1 h2; ⟨a, u1, u2, u3, e, s _ m⟩⟩
theorem LX.mono {X X' : List (Addr × Obj)} {D : Addr} {ts : List T3} (x : LX X D ts) (s : ∀ p ∈ X, p ∈ X') : LX X' D ts :=
  let ⟨vs, c, m, t⟩ := x; ⟨vs, c, s _ m, t.mono s⟩
theorem TX.nil {X : List (Addr × Obj)} : TX X [] [] := ⟨rfl, fun i v t h => by simp at h⟩
theorem TX.snoc {X : List (Addr × Obj)} {vs : List Value} {ts : List T3} {a : Addr} {t : T3} {u1 u2 u3 : Tok} (x : TX X vs ts) (m : (a, trO t u1 u2 u3) ∈ X) : TX X (vs ++ [.ref a]) (ts ++ [t]) := by
  refine ⟨by simp [x.1], fun i v t' h1 h2 => ?_⟩
  by_cases hi : i < vs.length
  · rw [List.getElem?_append_left hi] at h1
    rw [List.getElem?_append_left (by rw [← x.1]; exact hi)] at h2
    exact x.2 i v t' h1 h2
  · rw [List.getElem?_append_right (by omega)] at h1
    rw [List.getElem?_append_right (by rw [← x.1]; omega), ← x.1] at h2
    by_cases e : i - vs.length = 0
    · rw [e] at h1 h2
      cases h1; cases h2
      exact ⟨a, u1, u2, u3, rfl, m⟩
    · rw [List.getElem?_eq_none (by simp; omega)] at h1; cases h1
theorem TX.are {X : List (Addr × Obj)} {h : Heap} {vs : List Value} {ts : List T3} (x : TX X vs ts) (g : ∀ p ∈ X, h.get? p.1 = some p.2) : TsAre h vs ts :=
  ⟨x.1, fun i v t h1 h2 => let ⟨a, u1, u2, u3, e, m⟩ := x.2 i v t h1 h2; ⟨a, u1, u2, u3, e, g _ m⟩⟩
theorem LX.lts {X : List (Addr × Obj)} {h : Heap} {D : Addr} {ts : List T3} (x : LX X D ts) (g : ∀ p ∈ X, h.get? p.1 = some p.2) : LTs h D ts :=
  let ⟨vs, c, m, t⟩ := x; ⟨vs, c, g _ m, t.are g⟩
theorem TX.ref {X : List (Addr × Obj)} {vs : List Value} {ts : List T3} {v : Value} (x : TX X vs ts) (m : v ∈ vs) : ∃ a o, v = .ref a ∧ (a, o) ∈ X := by
  obtain ⟨i, hi, e⟩ := List.mem_iff_getElem.mp m
  have hi' : i < ts.length := by rw [← x.1]; exact hi
  obtain ⟨a, u1, u2, u3, e2, m2⟩ := x.2 i v ts[i] (by rw [List.getElem?_eq_getElem hi, e]) (List.getElem?_eq_getElem hi')
  exact ⟨a, _, e2, m2⟩
theorem TX.one {X : List (Addr × Obj)} {h : Heap} {v : Value} {t : T3} (x : IsT h v t) (g : ∀ p ∈ X, h.get? p.1 = some p.2) (r : ∃ a o, v = .ref a ∧ (a, o) ∈ X) : ∃ a u1 u2 u3, v = .ref a ∧ (a, trO t u1 u2 u3) ∈ X := by
  obtain ⟨a, u1, u2, u3, rfl, e⟩ := x
  obtain ⟨a', o, e', m⟩ := r
  cases e'
  have := g _ m
  rw [e] at this
  cases this
  exact ⟨a, u1, u2, u3, rfl, m⟩
theorem TX.back {X : List (Addr × Obj)} {h : Heap} {vs : List Value} {ts : List T3} (x : TsAre h vs ts) (g : ∀ p ∈ X, h.get? p.1 = some p.2) (r : ∀ v ∈ vs, ∃ a o, v = .ref a ∧ (a, o) ∈ X) : TX X vs ts :=
  ⟨x.1, fun i v t h1 h2 => TX.one (x.2 i v t h1 h2) g (r v (List.mem_of_getElem? h1))⟩
theorem TX.get {X : List (Addr × Obj)} {vs : List Value} {ts : List T3} (x : TX X vs ts) {i : Nat} (hi : i < ts.length) : ∃ a u1 u2 u3, vs[i]? = some (.ref a) ∧ (a, trO (ts.getD i (0, 0, 0)) u1 u2 u3) ∈ X := by
  have hv : i < vs.length := by rw [x.1]; exact hi
  obtain ⟨a, u1, u2, u3, e, m⟩ := x.2 i vs[i] ts[i] (List.getElem?_eq_getElem hv) (List.getElem?_eq_getElem hi)
  refine ⟨a, u1, u2, u3, by rw [List.getElem?_eq_getElem hv, e], ?_⟩
  rw [List.getD_eq_getElem?_getD, List.getElem?_eq_getElem hi]; exact m
/-- tuples alone -/
def Tups (X : List (Addr × Obj)) : Prop := ∀ p ∈ X, ∃ vs, p.2 = tupO vs
theorem Tups.nil : Tups [] := fun _ h => nomatch h
theorem Tups.cons {X : List (Addr × Obj)} {a : Addr} {vs : List Value} (x : Tups X) : Tups ((a, tupO vs) :: X) := fun p hp => (List.mem_cons.mp hp).elim (fun e => ⟨vs, by rw [e]⟩) (x p)
theorem Tups.nori {X : List (Addr × Obj)} (x : Tups X) : ∀ p ∈ X, NoRi p.2 := fun p hp => by
  obtain ⟨vs, e⟩ := x p hp
  rw [e]; exact NoRi.seq rfl
/-- a list lies at no tuple's address, nor at a table's -/
theorem apart_tup {g h : Heap} {L D : Addr} {news X : List (Addr × Obj)} {vs : Array Value} {c : Nat} (N : News g L h news) (hD : (D, W.listOf vs c) ∈ news) (hs : ∀ p ∈ X, p ∈ news) (x : Tups X) : ∀ p ∈ X, p.1 ≠ D := fun p hp e => by
  obtain ⟨ws, e2⟩ := x p hp
  have h1 := (N p (hs p hp)).1
  rw [e, (N _ hD).1, e2] at h1
  have := congrArg Obj.cls (Option.some.inj h1)
  have q : (Value.type "list" : Value) = .type "tuple" := this
  exact absurd q (by decide)
theorem apart_tab {g h : Heap} {L D : Addr} {news Y : List (Addr × Obj)} {o : Obj} {v : Array Value} {n : Nat} (N : News g L h news) (hD : (D, o) ∈ news) (hd : o.data = .seq v n) (hs : ∀ p ∈ Y, p ∈ news) (hf : ∀ p ∈ Y, ∃ vf, p.2.data = .fields vf) : ∀ p ∈ Y, p.1 ≠ D := fun p hp e => by
  obtain ⟨vf, hvf⟩ := hf p hp
  have h1 := (N p (hs p hp)).1
  rw [e, (N _ hD).1] at h1
  have e2 := congrArg Obj.data (Option.some.inj h1)
  rw [hvf, hd] at e2; cases e2
/-- the table P, seen from the entry heap h0 -/
def TabFrom (P : Addr) (q : Str) (pos : Pos) (h0 : Heap) (tb tb' : List (Addr × Obj)) : Prop :=
  TabLed P q pos tb' ∧ (∀ p ∈ tb', p ∈ tb ∨ p.1 = P ∨ h0.get? p.1 = none) ∧ (∀ b ∈ tb.map (·.1), b ∈ tb'.map (·.1))
theorem TabFrom.refl {P : Addr} {q : Str} {pos : Pos} {h0 : Heap} {tb : List (Addr × Obj)} (hT : TabLed P q pos tb) : TabFrom P q pos h0 tb tb := ⟨hT, fun _ hp => .inl hp, fun _ hb => hb⟩
theorem TabFrom.next {P : Addr} {q : Str} {pos : Pos} {h0 h h' : Heap} {tb tb' tb'' : List (Addr × Obj)} (x : TabFrom P q pos h0 tb tb') (n : TabNext P q pos h h' tb' tb'') (f : ∀ a, h.get? a = none → h0.get? a = none) : TabFrom P q pos h0 tb tb'' :=
  ⟨n.1, fun p hp => (n.2.2.1 p hp).elim (x.2.1 p) fun y => y.elim (fun e => .inr (.inl e)) fun e => .inr (.inr (f _ e)), fun b hb => n.2.2.2 b (x.2.2 b hb)⟩
theorem TabFrom.done {P : Addr} {q : Str} {pos : Pos} {h0 h' : Heap} {tb tb' : List (Addr × Obj)} (x : TabFrom P q pos h0 tb tb') (g : ∀ p ∈ tb', h'.get? p.1 = some p.2) : TabNext P q pos h0 h' tb tb' := ⟨x.1, g, x.2.1, x.2.2⟩
theorem TabFrom.both {h0 : Heap} {tb1 tb2 tb1' tb2' : List (Addr × Obj)} (x : TabFrom 86 q91 p91 h0 tb1 tb1') (y : TabFrom 93 q98 p98 h0 tb2 tb2') : ∀ b ∈ (tb1 ++ tb2).map (·.1), b ∈ (tb1' ++ tb2').map (·.1) := by
  intro b hb
  rw [List.map_append] at hb ⊢
  rcases List.mem_append.mp hb with hb | hb
  · exact List.mem_append_left _ (x.2.2 b hb)
  · exact List.mem_append_right _ (y.2.2 b hb)
theorem tabs_fields {tb1 tb2 : List (Addr × Obj)} (hT1 : TabLed 86 q91 p91 tb1) (hT2 : TabLed 93 q98 p98 tb2) : ∀ p ∈ tb1 ++ tb2, ∃ vf, p.2.data = .fields vf := fun p hp => (List.mem_append.mp hp).elim (hT1.fields p) (hT2.fields p)
theorem tabs_nori {tb1 tb2 : List (Addr × Obj)} (hT1 : TabLed 86 q91 p91 tb1) (hT2 : TabLed 93 q98 p98 tb2) : ∀ p ∈ tb1 ++ tb2, NoRi p.2 := fun p hp => (List.mem_append.mp hp).elim (NoRi.tab hT1 p) (NoRi.tab hT2 p)
/-- what a film's half answers: told, marks, left: lists in X, all new -/
def HalfPost (told marks lf : List T3) (tb1 tb2 : List (Addr × Obj)) (h : Heap) (r : Value) (h' : Heap) : Prop :=
  ∃ Ta D M S X ls, r = .ref Ta ∧ (Ta, tupO [.ref D, .ref M, .ref S]) ∈ X ∧ LX X D told ∧ LX X M marks ∧ LX X S ls ∧ ls.Perm lf ∧ ls.Pairwise (fun a b => a.2.1 ≤ b.2.1) ∧
    (∀ p ∈ X, h'.get? p.1 = some p.2 ∧ h.get? p.1 = none ∧ ∃ v n, p.2.data = .seq v n) ∧ (∃ tb1', TabNext 86 q91 p91 h h' tb1 tb1') ∧ ∃ tb2', TabNext 93 q98 p98 h h' tb2 tb2'
end Mine
end

section
open PySem PySem.W PyProof.Rows PySem.Spec PySem.Calls
set_option Elab.async false
set_option maxRecDepth 100000
set_option maxHeartbeats 800000
namespace Mine
def put (x : Str) (v : Value) (m : Str → Option Value) : Str → Option Value := fun y => if y = x then some v else m y
def mp (l : List (Str × Value)) : Str → Option Value := fun y => l.lookup y
section
variable {M : Model} {A : Around} {E : Value → Shared → Prop} {h₀ h : Heap} {sg : Array GenState} {sd : Drawn} {t : Nat} {so : OsState} {L a : Addr} {m : Str → Option Value} {cn : Str} {cs : Scope} {ccd : Value} {cl : List (Str × Addr)} {x : Str} {v : Value} {Q : Unit → Shared → Prop} {news : List (Addr × Obj)}
theorem storeX_P (F : Fr h₀ L h m) (N : News h₀ L h news) (k : ∀ h' tk', Fr h₀ L h' (put x v m) → News h₀ L h' news → Q () ⟨h', sg, sd, tk', so⟩)
    (hk : cs.kind = .function) (hx : (envX cn cs L a ccd cl).kindOf x = some .local) : wpAny M A (storeName (envX cn cs L a ccd cl) x v) Q E ⟨h, sg, sd, t, so⟩ :=
  storeX_L (s := ⟨h, sg, sd, t, so⟩) F N (fun h' => k h' _) hk hx
end
section
variable {w : World} {loose : List Str} {mean : ExcName → Option Value} {mg mb : Str → Option Value}
theorem enterN {f : Addr} {oc : Value} {od : Option Addr} {osl : Array (Option Value)} {name qual : Str} {params : Arguments} {body : List Stmt} {scope : Scope} {dV kV doc pm cdv ct : Value} {an : Option Addr}
    {args : List Value} {d u : Nat} {Pre : Heap → Prop} {Post : Heap → Value → Heap → Prop} {binds : List (Str × Value)} (W : List Addr)
    (ho : (hd.heap_39 w.params).lookup f = some ⟨oc, od, .func (fnOf name qual params body scope dV kV doc pm an cdv ct), osl⟩) (hcd : codeIn (hd.heap_39 w.params) cdv qual = true)
    (hbind : ∀ s, BindsTo s (fnOf name qual params body scope dV kV doc pm an cdv ct) ⟨args, []⟩ binds) (hloc : ∀ y ∈ binds, scope.names.lookup y.1 = some .local)
    (hco : scope.isCoroutine = false) (hgen : scope.isGenerator = false) (hk : scope.kind = .function) (hcell : ∀ x ∈ scope.names, x.2 ≠ .cell) (hd1 : 1 ≤ d)
    (h : ∀ (dp un : Nat) (gd : Option (List Code)) (outer : List Env) (sh : Heap) (sg : Array GenState) (sd : Drawn) (so : OsState) (Q : Flow → Shared → Prop) (g h₁ : Heap) (L : Addr) (tk : Nat), dp + d < recursionLimit + 1 → un + u < cLine + 3 → Pre sh →
      Gr w loose mean mg mb g → (∀ b o, b ∉ W → sh.get? b = some o → g.get? b = some o) → (∀ b o, g.get? b = some o → sh.get? b = some o) → (∀ b ∈ W, g.get? b = none) → (∀ b o, sh.get? b = some o → b < L) →
      (∀ b o, sh.get? b = some o → h₁.get? b = some o) → Fr g L h₁ (mp binds.reverse) →
      (∀ v h' tk, (∀ b o, g.get? b = some o → h'.get? b = some o) → Post sh v h' → Q (.ret v) ⟨h', sg, sd, tk, so⟩ ∧ (v = .none → Q .next ⟨h', sg, sd, tk, so⟩)) →
      wpAny (model PR w) (mkA dp un gd (envOf qual scope L f cdv :: outer)) (execs body (envOf qual scope L f cdv))
        Q (fun _ _ => False) ⟨h₁, sg, sd, tk, so⟩) :
    Meets w loose mean mg mb f args d u W Pre Post := by
  intro dp un gd outer s R hd hu G hpre ret
  have keep : ∀ b o, (hideAll s.heap W).get? b = some o → s.heap.get? b = some o := fun b o e => of_hideAll _ e
  refine codeAny_call_def (fd := fnOf name qual params body scope dV kV doc pm an cdv ct) (body := body) (binds := binds) (by show dp < recursionLimit; omega) (keep _ _ (G.X _ _ ho)) rfl (G.T.nolimit.keeps keep)
    (codeRec_of (G.X.keeps keep) hcd) rfl (hbind s) hcell hloc (fun h₁ hns hk₁ => ?_) hco hgen hk
  refine wpAny_mono (h (dp + 1) (un + 3) gd outer s.heap s.gens s.drawn s.os (fun fl s' => R (.ok (.ret (match fl with | .ret v => v | _ => .none))) s') (hideAll s.heap W) h₁ s.heap.objs.size _ (by omega) (by omega) hpre G (fun b o n e => hideAll_get _ e n) keep (fun b hb => hideAll_none _ hb) (fun b o e => Heap.lt_size e) hk₁
    ⟨hns, fun b o e => hk₁ b o (keep b o e), Nat.le_of_eq (hideAll_size _ _)⟩ (fun v h' tk k p => ⟨ret v h' tk (fun b o n e => k b o (hideAll_get _ e n)) p, fun e => e ▸ ret v h' tk (fun b o n e => k b o (hideAll_get _ e n)) p⟩)) (fun fl s' q => q) (fun e s' q => q.elim)

theorem enterXN {f : Addr} {fo : Obj} {name qual : Str} {params : Arguments} {body : List Stmt} {scope : Scope} {cl : List (Str × Addr)} {dV kV doc pm cdv ct : Value} {an : Option Addr}
    {args : List Value} {d u : Nat} {Pre : Heap → Prop} {Post : Heap → Value → Heap → Prop} {binds : List (Str × Value)} (W : List Addr)
    (ho : ∀ h, Pre h → h.get? f = some fo ∧ h.CodeRec cdv qual) (hfd : fo.data = .func (fnX name qual params body scope cl dV kV doc pm an cdv ct))
    (hbind : ∀ s, BindsTo s (fnX name qual params body scope cl dV kV doc pm an cdv ct) ⟨args, []⟩ binds) (hloc : ∀ y ∈ binds, scope.names.lookup y.1 = some .local)
    (hco : scope.isCoroutine = false) (hgen : scope.isGenerator = false) (hk : scope.kind = .function) (hcell : ∀ x ∈ scope.names, x.2 ≠ .cell) (hd1 : 1 ≤ d)
    (h : ∀ (dp un : Nat) (gd : Option (List Code)) (outer : List Env) (sh : Heap) (sg : Array GenState) (sd : Drawn) (so : OsState) (Q : Flow → Shared → Prop) (g h₁ : Heap) (L : Addr) (tk : Nat), dp + d < recursionLimit + 1 → un + u < cLine + 3 → Pre sh →
      Gr w loose mean mg mb g → (∀ b o, b ∉ W → sh.get? b = some o → g.get? b = some o) → (∀ b o, g.get? b = some o → sh.get? b = some o) → (∀ b ∈ W, g.get? b = none) → (∀ b o, sh.get? b = some o → b < L) →
      (∀ b o, sh.get? b = some o → h₁.get? b = some o) → Fr g L h₁ (mp binds.reverse) →
      (∀ v h' tk, (∀ b o, g.get? b = some o → h'.get? b = some o) → Post sh v h' → Q (.ret v) ⟨h', sg, sd, tk, so⟩ ∧ (v = .none → Q .next ⟨h', sg, sd, tk, so⟩)) →
      wpAny (model PR w) (mkA dp un gd (envX qual scope L f cdv cl :: outer)) (execs body (envX qual scope L f cdv cl))
        Q (fun _ _ => False) ⟨h₁, sg, sd, tk, so⟩) :
    Meets w loose mean mg mb f args d u W Pre Post := by
  intro dp un gd outer s R hd hu G hpre ret
  have keep : ∀ b o, (hideAll s.heap W).get? b = some o → s.heap.get? b = some o := fun b o e => of_hideAll _ e
  refine codeAny_call_def (fd := fnX name qual params body scope cl dV kV doc pm an cdv ct) (body := body) (binds := binds) (by show dp < recursionLimit; omega) (ho _ hpre).1 hfd (G.T.nolimit.keeps keep)
    (ho _ hpre).2 rfl (hbind s) hcell hloc (fun h₁ hns hk₁ => ?_) hco hgen hk
  refine wpAny_mono (h (dp + 1) (un + 3) gd outer s.heap s.gens s.drawn s.os (fun fl s' => R (.ok (.ret (match fl with | .ret v => v | _ => .none))) s') (hideAll s.heap W) h₁ s.heap.objs.size _ (by omega) (by omega) hpre G (fun b o n e => hideAll_get _ e n) keep (fun b hb => hideAll_none _ hb) (fun b o e => Heap.lt_size e) hk₁
    ⟨hns, fun b o e => hk₁ b o (keep b o e), Nat.le_of_eq (hideAll_size _ _)⟩ (fun v h' tk k p => ⟨ret v h' tk (fun b o n e => k b o (hideAll_get _ e n)) p, fun e => e ▸ ret v h' tk (fun b o n e => k b o (hideAll_get _ e n)) p⟩)) (fun fl s' q => q) (fun e s' q => q.elim)

theorem enterCN {f : Addr} {oc : Value} {od : Option Addr} {osl : Array (Option Value)} {name qual : Str} {params : Arguments} {body : List Stmt} {scope : Scope} {dV kV doc pm cdv ct : Value} {an : Option Addr}
    {args : List Value} {d u : Nat} {Pre : Heap → Prop} {Post : Heap → Value → Heap → Prop} {binds : List (Str × Value)} (W : List Addr)
    (ho : (hd.heap_39 w.params).lookup f = some ⟨oc, od, .func (fnOf name qual params body scope dV kV doc pm an cdv ct), osl⟩) (hcd : codeIn (hd.heap_39 w.params) cdv qual = true)
    (hbind : bindArgs (fnOf name qual params body scope dV kV doc pm an cdv ct) ⟨args, []⟩ = pure binds)
    (hkind : (binds.all fun y => scope.names.lookup y.1 == some .local || scope.names.lookup y.1 == some .cell) = true) (hnd : ((cellsFrom 0 scope.names []).map (·.1)).Nodup)
    (hco : scope.isCoroutine = false) (hgen : scope.isGenerator = false) (hk : scope.kind = .function) (hd1 : 1 ≤ d)
    (h : ∀ (dp un : Nat) (gd : Option (List Code)) (outer : List Env) (sh : Heap) (sg : Array GenState) (sd : Drawn) (so : OsState) (Q : Flow → Shared → Prop) (g h₁ : Heap) (L : Addr) (tk : Nat) (cells : List (Addr × Obj)), dp + d < recursionLimit + 1 → un + u < cLine + 3 → Pre sh →
      Gr w loose mean mg mb g → (∀ b o, b ∉ W → sh.get? b = some o → g.get? b = some o) → (∀ b o, g.get? b = some o → sh.get? b = some o) → (∀ b ∈ W, g.get? b = none) → (∀ b o, sh.get? b = some o → b < L) →
      (∀ b o, sh.get? b = some o → h₁.get? b = some o) → Fr g L h₁ (bindL (envOfC qual scope L f cdv).kindOf binds fun _ => none) → News g L h₁ cells →
      CellsAre (bindC (envOfC qual scope L f cdv).kindOf binds fun _ => none) (cellsFrom (L + 1) scope.names []) cells →
      (∀ v h' tk, (∀ b o, g.get? b = some o → h'.get? b = some o) → Post sh v h' → Q (.ret v) ⟨h', sg, sd, tk, so⟩ ∧ (v = .none → Q .next ⟨h', sg, sd, tk, so⟩)) →
      wpAny (model PR w) (mkA dp un gd (envOfC qual scope L f cdv :: outer)) (execs body (envOfC qual scope L f cdv))
        Q (fun _ _ => False) ⟨h₁, sg, sd, tk, so⟩) :
    Meets w loose mean mg mb f args d u W Pre Post := by
  refine enterC W ho hcd hbind hkind hnd hco hgen hk hd1 ?_
  intro dp un gd outer s R g h₁ L tk cells e1 e2 e3 e4 e5 e6 e7 e8 e9 e10 e11 e12 ret
  exact h dp un gd outer s.heap s.gens s.drawn s.os _ g h₁ L tk cells e1 e2 e3 e4 e5 e6 e7 e8 e9 e10 e11 e12 (fun v h' tk a b => ⟨ret v h' tk a b, fun e => e ▸ ret v h' tk a b⟩)

theorem useN {f : Addr} {args : List Value} {d u d0 u0 : Nat} {W : List Addr} {Pre : Heap → Prop} {Post : Heap → Value → Heap → Prop} {dp un : Nat} {gd : Option (List Code)} {outer : List Env} {h : Heap} {sg : Array GenState} {sd : Drawn} {t : Nat} {so : OsState}
    {h₀ : Heap} {L : Addr} {m : Str → Option Value} {news : List (Addr × Obj)} {Q E : Value → Shared → Prop}
    (M : Meets w loose mean mg mb f args d u W Pre Post) (hd : dp + d0 < recursionLimit + 1) (hu : un + u0 < cLine + 3) (G : Gr w loose mean mg mb h₀) (F : Fr h₀ L h m) (N : News h₀ L h news)
    (hW : ∀ b ∈ W, b ∈ news.map (·.1)) (hpre : Pre h) (k : ∀ v h' tk, Ext W h h' → Post h v h' → Q v ⟨h', sg, sd, tk, so⟩) (hd' : d + 1 ≤ d0 := by decide) (hu' : u + 3 ≤ u0 := by decide) :
    wpAny (model PR w) (mkA dp un gd outer) (call (.ref f) args) Q E ⟨h, sg, sd, t, so⟩ :=
  use (s := ⟨h, sg, sd, t, so⟩) M (by omega) (by omega) G F N hW hpre k
end
end Mine
end

section
open PySem PySem.W PyProof.Rows PySem.Spec PySem.Calls
set_option Elab.async false
set_option maxRecDepth 100000
set_option maxHeartbeats 800000
namespace Mine
/-- what is known of the names -/
def Kn (m : Str → Option Value) : List (Str × Value) → Prop
  | [] => True
  | p :: r => m p.1 = some p.2 ∧ Kn m r
theorem Kn.mem {m : Str → Option Value} : ∀ {ps : List (Str × Value)}, Kn m ps → ∀ p ∈ ps, m p.1 = some p.2
  | [], _, p, hp => nomatch hp
  | q :: r, k, p, hp => (List.mem_cons.mp hp).elim (fun e => e ▸ k.1) (k.2.mem p)
theorem fr_kn {g h : Heap} {L : Addr} {x : Str} {v : Value} {m : Str → Option Value} {ps : List (Str × Value)} (F : Fr g L h (put x v m)) (k : Kn m ps) : Fr g L h (bnd m ((x, v) :: ps)) := fr_turn F ps k.mem
theorem fr_kn0 {g h : Heap} {L : Addr} {m : Str → Option Value} {ps : List (Str × Value)} (F : Fr g L h m) (k : Kn m ps) : Fr g L h (bnd m ps) := fr_known F ps k.mem
section
variable {w : World} {A A' : Around} {E E' : Value → Shared → Prop} {hp : Heap} {sg : Array GenState} {sd : Drawn} {t0 : Nat} {so : OsState} {env : Env} {g : Heap} {x : Str} {body : List Stmt} {Q : Flow → Shared → Prop}
/-- a loop over range(n) -/
theorem for_rangeN {r : Addr} {n : Nat} {t u v : Tok} {m : Str → Option Value} {news : List (Addr × Obj)} (J : Nat → (Str → Option Value) → List (Addr × Obj) → Prop) (hR : IsRange hp r 0 (n : Int) 1 t u v) (hn : n ≤ 100)
    (F : Fr g env.locals hp m) (N : News g env.locals hp news) (hJ : J 0 m news) (hh : A.handled = none)
    (hJc : ∀ i m news, J i m news → ∀ p ∈ news, NoRi p.2)
    (turn : ∀ i I tv m₁ news₁ h tk (oI : Obj) (Qt : Flow → Shared → Prop), i < n → J i m₁ news₁ → (∀ p ∈ news₁, p.1 ≠ I) →
      Fr g env.locals h (put x (.int (i : Int) tv) m₁) → News g env.locals h ((I, oI) :: news₁) →
      (∀ h' tk' m' news', Fr g env.locals h' m' → News g env.locals h' ((I, oI) :: news') → J (i + 1) m' news' → Qt .next ⟨h', sg, sd, tk', so⟩) → (∀ v s', Q (.ret v) s' → Qt (.ret v) s') →
      wpAny (model PR w) A (execs body env) Qt E ⟨h, sg, sd, tk, so⟩)
    (done : ∀ m₁ news₁ h tk, J n m₁ news₁ → Fr g env.locals h m₁ → News g env.locals h news₁ → Q .next ⟨h, sg, sd, tk, so⟩) :
    wpAny (model PR w) A' (pyIter (.ref r)) (LoopAtV PR w A g env x body Q E) E' ⟨hp, sg, sd, t0, so⟩ :=
  for_range2 (s := ⟨hp, sg, sd, t0, so⟩) J hR hn F N hJ hh hJc (fun i I tv m₁ news₁ h tk oI hi hj _ hne F' N' => turn i I tv m₁ news₁ h tk oI _ hi hj hne F' N' (fun h' tk' m' news' F2 N2 j2 => ⟨h', tk', m', news', rfl, F2, N2, j2⟩) (fun _ _ q => q)) done
end
end Mine
end

section
open PySem PySem.W PyProof.Rows PySem.Spec PySem.Calls
set_option Elab.async false
set_option maxRecDepth 100000
set_option maxHeartbeats 800000
set_option pp.deepTerms false
set_option pp.deepTerms.threshold 3
set_option pp.maxSteps 6000
namespace Mine
def tab0 (f : Nat → T3) : Nat → List T3
  | 0 => []
  | k + 1 => tab0 f k ++ [f k]
theorem tab0_length {f : Nat → T3} : ∀ k, (tab0 f k).length = k
  | 0 => rfl
  | k + 1 => by rw [tab0, List.length_append, tab0_length k]; rfl
theorem tab0_mem {f : Nat → T3} {x : T3} : ∀ {k : Nat}, x ∈ tab0 f k → ∃ i, i < k ∧ x = f i
  | 0, h => nomatch h
  | k + 1, h => by
    rw [tab0] at h
    rcases List.mem_append.mp h with h | h
    · obtain ⟨i, hi, e⟩ := tab0_mem h; exact ⟨i, by omega, e⟩
    · exact ⟨k, by omega, List.mem_singleton.mp h⟩
def fheap (lt : T3 → T3 → Bool) (mk : Nat → T3) (nx : T3 → T3) (h0 : List T3) : Nat → List T3
  | 0 => h0
  | i + 1 => fturn lt (mk i) nx (fheap lt mk nx h0 i)
theorem fheap_inv {lt : T3 → T3 → Bool} (O : Ord lt) {mk : Nat → T3} {nx : T3 → T3} {h0 : List T3} (P : T3 → Prop) (h2 : 2 ≤ h0.length) (h4 : h0.length ≤ 4) (hh : Heapy lt h0) (hP : ∀ x ∈ h0, P x) (hnx : ∀ x, P x → P (nx x)) (hmk : ∀ i x, P x → lt (mk i) x = true) :
    ∀ i, (fheap lt mk nx h0 i).length = h0.length ∧ Heapy lt (fheap lt mk nx h0 i) ∧ ∀ x ∈ fheap lt mk nx h0 i, P x
  | 0 => ⟨rfl, hh, hP⟩
  | i + 1 => by
    obtain ⟨a, b, c⟩ := fheap_inv O P h2 h4 hh hP hnx hmk i
    obtain ⟨_, d, e⟩ := turn_ok O (nx := nx) (by omega) (by omega) b (fun x hx => hmk i x (c x hx))
    refine ⟨?_, d, fun x hx => ?_⟩
    · show (fturn lt (mk i) nx (fheap lt mk nx h0 i)).length = _
      unfold fturn
      rw [sift_length, List.length_set, sift_length, List.length_set, a]
    · rcases List.mem_cons.mp (e.mem_iff.mp hx) with q | q
      · rw [q]; exact hnx _ (c _ (getD_mem (by omega)))
      · exact c _ (List.mem_of_mem_tail q)
def fst0 (cs : List (Int × Int)) (mo : Int) (i : Nat) : T3 := (mo + ((cs.getD i (0, 0)).1 - mo) % (cs.getD i (0, 0)).2, (i : Int), -(((cs.getD i (0, 0)).1 - mo) / (cs.getD i (0, 0)).2))
def fmk (mo : Int) (i : Nat) : T3 := (mo - 1, (i : Int), 0)
def fnx (cs : List (Int × Int)) (t : T3) : T3 := (t.1 + (cs.getD t.2.1.toNat (0, 0)).2, t.2.1, t.2.2 + 1)
abbrev fhp (cs : List (Int × Int)) (mo : Int) (i : Nat) : List T3 := fheap tlt (fmk mo) (fnx cs) (hfy tlt (tab0 (fst0 cs mo) cs.length)) i
def ftold (cs : List (Int × Int)) (mo : Int) (n : Nat) : List T3 := tab0 (fun i => (fhp cs mo i).getD 0 Z3) n
/-- a stroke of forth, as the walk sees it -/
def FIn (cs : List (Int × Int)) (mo : Int) (x : T3) : Prop := mo ≤ x.1 ∧ ∃ k : Nat, k < cs.length ∧ x.2.1 = (k : Int)
theorem fhp_inv {cs : List (Int × Int)} {mo : Int} (hpos : ∀ p ∈ cs, 0 < p.2) (h2 : 2 ≤ cs.length) (h4 : cs.length ≤ 4) (i : Nat) :
    (fhp cs mo i).length = cs.length ∧ Heapy tlt (fhp cs mo i) ∧ (∀ x ∈ fhp cs mo i, FIn cs mo x) ∧ ∀ x ∈ fhp cs mo i, tlt (fmk mo i) x = true := by
  have l0 := tab0_length (f := fst0 cs mo) cs.length
  obtain ⟨a, b⟩ := hfy_ok ord_tlt (ts := tab0 (fst0 cs mo) cs.length) (by omega) (by omega)
  have hl := b.length_eq
  have hm : ∀ i x, FIn cs mo x → tlt (fmk mo i) x = true := by
    intro i x hx
    have := hx.1
    unfold tlt fmk
    dsimp only
    rw [if_neg (by omega)]
    simp; omega
  have q1 : ∀ x ∈ hfy tlt (tab0 (fst0 cs mo) cs.length), FIn cs mo x := by
    intro x hx
    obtain ⟨k, hk, rfl⟩ := tab0_mem (b.mem_iff.mp hx)
    have := Int.emod_nonneg ((cs.getD k (0, 0)).1 - mo) (Int.ne_of_gt (hpos _ (getD_mem (d := (0, 0)) hk)))
    exact ⟨by show mo ≤ mo + _; omega, k, hk, rfl⟩
  have q2 : ∀ x, FIn cs mo x → FIn cs mo (fnx cs x) := by
    rintro x ⟨h, k, hk, e⟩
    have := hpos _ (getD_mem (d := (0, 0)) hk)
    refine ⟨?_, k, hk, e⟩
    show mo ≤ x.1 + (cs.getD x.2.1.toNat (0, 0)).2
    rw [e, Int.toNat_natCast]; omega
  obtain ⟨c, d, e⟩ := fheap_inv ord_tlt (mk := fmk mo) (nx := fnx cs) (FIn cs mo) (by omega) (by omega) a q1 q2 hm i
  exact ⟨by rw [c, hl, l0], d, e, fun x hx => hm i x (e x hx)⟩
theorem top_mark {lt : T3 → T3 → Bool} (O : Ord lt) {mk : T3} {hp : List T3} (h2 : 2 ≤ hp.length) (h4 : hp.length ≤ 4) (hh : Heapy lt hp) (hm : ∀ x ∈ hp, lt mk x = true) : (sift lt (hp.set 0 mk) 0).getD 0 (0, 0, 0) = mk :=
  (turn_ok O (nx := id) h2 h4 hh hm).1
section
variable {w : World} {A : Around} {E : Value → Shared → Prop} {s : Shared} {g : Heap} {L D : Addr} {m : Str → Option Value} {news : List (Addr × Obj)} {vs : List Value} {c : Nat} {x : Value}
theorem appM {Q : Value → Shared → Prop} (F : Fr g L s.heap m) (N : News g L s.heap news) (hm : (D, W.listOf vs.toArray c) ∈ news) (rest : List (Addr × Obj)) (hr : ∀ p ∈ rest, p ∈ news) (hne : ∀ p ∈ rest, p.1 ≠ D) (hl : vs.length ≤ 1000)
    (h : ∀ h', Fr g L h' m → News g L h' ((D, W.listOf (vs ++ [x]).toArray (c + 1)) :: rest) → Q .none { s with heap := h' }) : wpAny (model PR w) A (call (.builtin "list.append") [.ref D, x]) Q E s := by
  refine append_K F (show News g L s.heap ((D, W.listOf vs.toArray c) :: rest) from fun p hp => (List.mem_cons.mp hp).elim (fun e => by rw [e]; exact N _ hm) fun q => N _ (hr p q)) (Upd.head hne) (fun h' F' N' => h h' F' ?_) (by rw [List.size_toArray, sizeLine_eq]; omega)
  rw [List.push_toArray] at N'
  exact N'
end
end Mine
end

section
open PySem PySem.W PyProof.Rows PySem.Spec PySem.Calls
set_option Elab.async false
set_option maxRecDepth 100000
set_option maxHeartbeats 800000
namespace Mine
section
variable {g h h' : Heap} {L H : Addr} {news rest X Y : List (Addr × Obj)}
theorem news_sub' (N : News g L h news) (rest : List (Addr × Obj)) (s : ∀ p ∈ rest, p ∈ news) : News g L h rest := fun p hp => N p (s p hp)
/-- behind a write at H alone -/
theorem rep_news {o o' : Obj} (N : News g L h news) (x : Ext [H] h h') (e : h'.get? H = some o') (hH : (H, o) ∈ news) (hs : ∀ p ∈ rest, p ∈ news) (hne : ∀ p ∈ rest, p.1 ≠ H) : News g L h' ((H, o') :: rest) := fun p hp => by
  rcases List.mem_cons.mp hp with rfl | hp
  · exact ⟨e, (N _ hH).2⟩
  · exact ⟨x _ _ (fun q => hne p hp (List.mem_singleton.mp q)) (N p (hs p hp)).1, (N p (hs p hp)).2⟩
theorem rep_fr {o : Obj} {m : Str → Option Value} (F : Fr g L h m) (N : News g L h news) (x : Ext [H] h h') (hH : (H, o) ∈ news) : Fr g L h' m :=
  fr_ext F x (fun q => (N _ hH).2.1 (List.mem_singleton.mp q).symm) (fun b hb => by rw [List.mem_singleton.mp hb]; exact (N _ hH).2.2)
/-- behind a replace -/
theorem hr_next {T : Addr} {t top : T3} {u1 u2 u3 : Tok} {vs : List Value} {c : Nat} {ts ts8 : List T3} {r : Value} (N : News g L h ((T, trO t u1 u2 u3) :: news)) (hH : (H, W.listOf (List.toArray vs) c) ∈ news) (hx : TX X vs ts) (hX : ∀ p ∈ X, p ∈ rest) (hs : ∀ p ∈ rest, p ∈ news) (hne : ∀ p ∈ rest, p.1 ≠ H)
    (x : Ext [H] h h') (q : HrPost H (.ref T) top ts8 h r h') :
    ∃ vs8 c8 ar w1 w2 w3, r = .ref ar ∧ (ar, trO top w1 w2 w3) ∈ X ∧ TX ((T, trO t u1 u2 u3) :: X) vs8 ts8 ∧ News g L h' ((H, W.listOf (List.toArray vs8) c8) :: (T, trO t u1 u2 u3) :: rest) := by
  obtain ⟨vs8, c8, e8, hT8, hr8, hm⟩ := q
  obtain ⟨hr, hv⟩ := hm vs c (N _ (.tail _ hH)).1
  have hTH := apart_tup (X := [(T, trO t u1 u2 u3)]) N (.tail _ hH) (fun p hp => by rw [List.mem_singleton.mp hp]; exact .head _) (Tups.cons Tups.nil) _ (.head _)
  have N8 := rep_news (rest := (T, trO t u1 u2 u3) :: rest) N x e8 (.tail _ hH) (fun p hp => (List.mem_cons.mp hp).elim (fun e => by rw [e]; exact .head _) fun q => .tail _ (hs p q)) (fun p hp => (List.mem_cons.mp hp).elim (fun e => by rw [e]; exact hTH) (hne p))
  have gx : ∀ p ∈ X, h'.get? p.1 = some p.2 := fun p hp => (N8 p (.tail _ (.tail _ (hX p hp)))).1
  obtain ⟨ar, w1, w2, w3, e, ha⟩ := TX.one hr8 gx (hx.ref hr)
  refine ⟨vs8, c8, ar, w1, w2, w3, e, ha, TX.back hT8 (fun p hp => ?_) (fun v' hv' => ?_), N8⟩
  · rcases List.mem_cons.mp hp with rfl | hp
    · exact (N8 _ (.tail _ (.head _))).1
    · exact gx p hp
  · rcases hv v' hv' with hv' | rfl
    · obtain ⟨a, o, e, m⟩ := hx.ref hv'
      exact ⟨a, o, e, .tail _ m⟩
    · exact ⟨T, _, rfl, .head _⟩
theorem sep_all {vs : List Value} {c : Nat} (N : News g L h news) (hH : (H, W.listOf (List.toArray vs) c) ∈ news) (hs : ∀ p ∈ X ++ Y, p ∈ news) (hX : Tups X) (hY : ∀ p ∈ Y, ∃ vf, p.2.data = .fields vf) : ∀ p ∈ X ++ Y, p.1 ≠ H := fun p hp =>
  (List.mem_append.mp hp).elim (apart_tup N hH (fun p hp => hs p (List.mem_append_left _ hp)) hX p) (apart_tab N hH rfl (fun p hp => hs p (List.mem_append_right _ hp)) hY p)
end
/-- the first loop: the heap is laid -/
def FJ1 (f : Nat → T3) (h0 : Heap) (tb1 tb2 : List (Addr × Obj)) (H : Addr) (i : Nat) (news : List (Addr × Obj)) : Prop :=
  ∃ vs c X tb1' tb2', news = (H, W.listOf (List.toArray vs) c) :: (X ++ (tb1' ++ tb2')) ∧ TX X vs (tab0 f i) ∧ Tups X ∧ TabFrom 86 q91 p91 h0 tb1 tb1' ∧ TabFrom 93 q98 p98 h0 tb2 tb2'
theorem FJ1.nori {f : Nat → T3} {h0 : Heap} {tb1 tb2 : List (Addr × Obj)} {H : Addr} {i : Nat} {news : List (Addr × Obj)} (j : FJ1 f h0 tb1 tb2 H i news) : ∀ p ∈ news, NoRi p.2 := by
  obtain ⟨vs, c, X1, tb1', tb2', rfl, hTX, hTu, hF1, hF2⟩ := j
  intro p hp
  rcases List.mem_cons.mp hp with rfl | hp
  · exact NoRi.seq rfl
  · rcases List.mem_append.mp hp with hp | hp
    · exact hTu.nori p hp
    · exact tabs_nori hF1.1 hF2.1 p hp
/-- behind int_divmod in the first loop -/
theorem half_news {g h h' : Heap} {L I H p : Addr} {m : Str → Option Value} {oI o : Obj} {vs : Array Value} {c : Nat} {X tb1 tb2 tb1' tb2' : List (Addr × Obj)} (F : Fr g L h m) (N : News g L h ((I, oI) :: (H, W.listOf vs c) :: (X ++ (tb1 ++ tb2)))) (x : Ext ((tb1 ++ tb2).map (·.1)) h h') (hTu : Tups X)
    (hne : ∀ p ∈ (H, W.listOf vs c) :: (X ++ (tb1 ++ tb2)), p.1 ≠ I) (hT1 : TabLed 86 q91 p91 tb1) (hT2 : TabLed 93 q98 p98 tb2) (hn1 : TabNext 86 q91 p91 h h' tb1 tb1') (hn2 : TabNext 93 q98 p98 h h' tb2 tb2') (e : h'.get? p = some o) (n : h.get? p = none) :
    News g L h' ((p, o) :: (I, oI) :: (H, W.listOf vs c) :: (X ++ (tb1' ++ tb2'))) := by
  have sub : ∀ p ∈ tb1 ++ tb2, p ∈ (I, oI) :: (H, W.listOf vs c) :: (X ++ (tb1 ++ tb2)) := fun p hp => .tail _ (.tail _ (List.mem_append_right _ hp))
  have NT := tabs_both F N (fun p hp => sub p (List.mem_append_left _ hp)) (fun p hp => sub p (List.mem_append_right _ hp)) hT1 hT2 hn1 hn2
  have hf := tabs_fields hT1 hT2
  have NI : News g L h' ((I, oI) :: (H, W.listOf vs c) :: X) := news_ext (news_sub N fun p hp => by simp only [List.mem_cons, List.mem_append] at hp ⊢; grind) x fun p hp => not_mem_of fun r hr => by
    rcases List.mem_cons.mp hp with rfl | hp
    · exact hne r (.tail _ (List.mem_append_right _ hr))
    rcases List.mem_cons.mp hp with rfl | hp
    · exact apart_tab N (.tail _ (.head _)) rfl sub hf r hr
    · obtain ⟨ws, e2⟩ := hTu p hp
      exact apart_tab N (o := p.2) (.tail _ (.tail _ (List.mem_append_left _ hp))) (by rw [e2]) sub hf r hr
  refine news_cons (fun p hp => ?_) e (freshL F n) (fresh0 F n)
  rcases List.mem_cons.mp hp with rfl | hp
  · exact NI _ (.head _)
  rcases List.mem_cons.mp hp with rfl | hp
  · exact NI _ (.tail _ (.head _))
  rcases List.mem_append.mp hp with hp | hp
  · exact NI _ (.tail _ (.tail _ hp))
  · exact NT p hp
/-- what int_divmod leaves, in the first loop -/
theorem half_dm {g h h' sh : Heap} {L I H : Addr} {m : Str → Option Value} {oI : Obj} {vs : Array Value} {c : Nat} {X tb1 tb2 ta1 ta2 : List (Addr × Obj)} {q r : Int} {v : Value} (K1 : ∀ b o, b ∉ (ta1 ++ ta2).map (·.1) → sh.get? b = some o → g.get? b = some o) (F : Fr g L h m) (N : News g L h ((I, oI) :: (H, W.listOf vs c) :: (X ++ (tb1 ++ tb2)))) (hTu : Tups X)
    (hne : ∀ p ∈ (H, W.listOf vs c) :: (X ++ (tb1 ++ tb2)), p.1 ≠ I) (hF1 : TabFrom 86 q91 p91 sh ta1 tb1) (hF2 : TabFrom 93 q98 p98 sh ta2 tb2) (x : Ext ((tb1 ++ tb2).map (·.1)) h h') (d : DmPost q r tb1 tb2 h v h') :
    ∃ p tq tr tb1' tb2', v = .ref p ∧ Fr g L h' m ∧ News g L h' ((p, tupO [.int q tq, .int r tr]) :: (I, oI) :: (H, W.listOf vs c) :: (X ++ (tb1' ++ tb2'))) ∧ TabFrom 86 q91 p91 sh ta1 tb1' ∧ TabFrom 93 q98 p98 sh ta2 tb2' := by
  obtain ⟨⟨p2, tq, tr, rfl, e8, n8⟩, ⟨tb1'', hn1⟩, ⟨tb2'', hn2⟩⟩ := d
  have sub7 : ∀ p ∈ tb1 ++ tb2, p ∈ (I, oI) :: (H, W.listOf vs c) :: (X ++ (tb1 ++ tb2)) := fun p hp => .tail _ (.tail _ (List.mem_append_right _ hp))
  have f78 : ∀ a, h.get? a = none → sh.get? a = none := fun a => fresh_entry K1 F N (fun b hb => by
    obtain ⟨p, hp, rfl⟩ := List.mem_map.mp (hF1.both hF2 b hb)
    exact List.mem_map_of_mem (sub7 p hp))
  exact ⟨p2, tq, tr, tb1'', tb2'', rfl, fr_ext F x (led_notL N sub7) (led_none N sub7), half_news F N x hTu hne hF1.1 hF2.1 hn1 hn2 e8 n8, hF1.next hn1 f78, hF2.next hn2 f78⟩
/-- the second loop: told and marks grow -/
def FJ2 (hp : Nat → List T3) (mk : Nat → T3) (Y : List (Addr × Obj)) (H D M : Addr) (i : Nat) (news : List (Addr × Obj)) : Prop :=
  ∃ vs c ds dc ms mc X, news = (H, W.listOf (List.toArray vs) c) :: (D, W.listOf (List.toArray ds) dc) :: (M, W.listOf (List.toArray ms) mc) :: (X ++ Y) ∧ TX X vs (hp i) ∧ TX X ds (tab0 (fun i => (hp i).getD 0 Z3) i) ∧ TX X ms (tab0 mk i) ∧ Tups X
theorem FJ2.nori {hp : Nat → List T3} {mk : Nat → T3} {Y : List (Addr × Obj)} {H D M : Addr} {i : Nat} {news : List (Addr × Obj)} (j : FJ2 hp mk Y H D M i news) (hY : ∀ p ∈ Y, NoRi p.2) : ∀ p ∈ news, NoRi p.2 := by
  obtain ⟨vs, c, ds, dc, ms, mc, X, rfl, _, _, _, hTu⟩ := j
  intro p hp
  rcases List.mem_cons.mp hp with rfl | hp
  · exact NoRi.seq rfl
  rcases List.mem_cons.mp hp with rfl | hp
  · exact NoRi.seq rfl
  rcases List.mem_cons.mp hp with rfl | hp
  · exact NoRi.seq rfl
  · exact (List.mem_append.mp hp).elim (hTu.nori p) (hY p)
/-- behind heapify -/
theorem hfy_next {g h h' : Heap} {L H : Addr} {news rest X : List (Addr × Obj)} {vs : List Value} {c : Nat} {ts ts8 : List T3} (N : News g L h news) (hH : (H, W.listOf (List.toArray vs) c) ∈ news) (hx : TX X vs ts) (hX : ∀ p ∈ X, p ∈ rest) (hs : ∀ p ∈ rest, p ∈ news) (hne : ∀ p ∈ rest, p.1 ≠ H)
    (x : Ext [H] h h') (q : LTsP h h' H ts8) : ∃ vs8 c8, TX X vs8 ts8 ∧ News g L h' ((H, W.listOf (List.toArray vs8) c8) :: rest) := by
  obtain ⟨vs8, c8, e8, hT8, hm⟩ := q
  have N8 := rep_news N x e8 hH hs hne
  exact ⟨vs8, c8, TX.back hT8 (fun p hp => (N8 p (.tail _ (hX p hp))).1) (fun v hv => hx.ref (hm vs c (N _ hH).1 v hv)), N8⟩
/-- the clocks lie below the tables -/
theorem clk_off {sh g : Heap} {C : Addr} {cs : List (Int × Int)} {tb1 tb2 : List (Addr × Obj)} (K1 : ∀ b o, b ∉ (tb1 ++ tb2).map (·.1) → sh.get? b = some o → g.get? b = some o) (hpre : ∀ p ∈ tb1 ++ tb2, sh.get? p.1 = some p.2) (hT1 : TabLed 86 q91 p91 tb1) (hT2 : TabLed 93 q98 p98 tb2) :
    ∀ a o, sh.get? a = some o → ∀ v n, o.data = .seq v n → g.get? a = some o := fun a o e v n hd => K1 a o (fun hm => by
  rw [List.map_append] at hm
  rcases List.mem_append.mp hm with hm | hm
  · exact seq_apart hT1 (fun p hp => hpre p (List.mem_append_left _ hp)) e hd hm
  · exact seq_apart hT2 (fun p hp => hpre p (List.mem_append_right _ hp)) e hd hm) e
theorem Clk.off {sh g : Heap} {C : Addr} {cs : List (Int × Int)} (hC : Clk sh C cs) (off : ∀ a o, sh.get? a = some o → ∀ v n, o.data = .seq v n → g.get? a = some o) : Clk g C cs := by
  obtain ⟨vs, c, e, hl, hp⟩ := hC
  exact ⟨vs, c, off _ _ e _ _ rfl, hl, fun i v p a b => let ⟨ad, t, u, e1, e2⟩ := hp i v p a b; ⟨ad, t, u, e1, off _ _ e2 _ _ rfl⟩⟩
theorem IsT.offS {sh g : Heap} {v : Value} {t : T3} (x : IsT sh v t) (off : ∀ a o, sh.get? a = some o → ∀ v n, o.data = .seq v n → g.get? a = some o) : IsT g v t := by
  obtain ⟨a, u1, u2, u3, e, h⟩ := x
  exact ⟨a, u1, u2, u3, e, off _ _ h _ _ rfl⟩
/-- the end of a half -/
theorem half_end {sh g h : Heap} {L Ta S H D M : Addr} {tb1 tb2 tb1' tb2' X : List (Addr × Obj)} {vs ds ms ss : List Value} {c dc mc sc : Nat} {told marks lf ls : List T3} (K1 : ∀ b o, b ∉ (tb1 ++ tb2).map (·.1) → sh.get? b = some o → g.get? b = some o)
    (N : News g L h ((Ta, tupO [.ref D, .ref M, .ref S]) :: (S, W.listOf (List.toArray ss) sc) :: (H, W.listOf (List.toArray vs) c) :: (D, W.listOf (List.toArray ds) dc) :: (M, W.listOf (List.toArray ms) mc) :: (X ++ (tb1' ++ tb2')))) (hX : Tups X) (hF1 : TabFrom 86 q91 p91 sh tb1 tb1') (hF2 : TabFrom 93 q98 p98 sh tb2 tb2')
    (hd : TX X ds told) (hm : TX X ms marks) (hs : TX X ss ls) (hp : ls.Perm lf) (ho : ls.Pairwise (fun a b => a.2.1 ≤ b.2.1)) : HalfPost told marks lf tb1 tb2 sh (.ref Ta) h := by
  have hf := tabs_fields hF1.1 hF2.1
  have sy : ∀ p ∈ tb1' ++ tb2', p ∈ (Ta, tupO [.ref D, .ref M, .ref S]) :: (S, W.listOf (List.toArray ss) sc) :: (H, W.listOf (List.toArray vs) c) :: (D, W.listOf (List.toArray ds) dc) :: (M, W.listOf (List.toArray ms) mc) :: (X ++ (tb1' ++ tb2')) := fun p hp => by
    simp only [List.mem_cons]; exact .inr (.inr (.inr (.inr (.inr (List.mem_append_right _ hp)))))
  have sx : ∀ p ∈ (Ta, tupO [.ref D, .ref M, .ref S]) :: (S, W.listOf (List.toArray ss) sc) :: (H, W.listOf (List.toArray vs) c) :: (D, W.listOf (List.toArray ds) dc) :: (M, W.listOf (List.toArray ms) mc) :: X, p ∈ (Ta, tupO [.ref D, .ref M, .ref S]) :: (S, W.listOf (List.toArray ss) sc) :: (H, W.listOf (List.toArray vs) c) :: (D, W.listOf (List.toArray ds) dc) :: (M, W.listOf (List.toArray ms) mc) :: (X ++ (tb1' ++ tb2')) := fun p hp => by
    simp only [List.mem_cons, List.mem_append] at hp ⊢; grind
  have sq : ∀ p ∈ (Ta, tupO [.ref D, .ref M, .ref S]) :: (S, W.listOf (List.toArray ss) sc) :: (H, W.listOf (List.toArray vs) c) :: (D, W.listOf (List.toArray ds) dc) :: (M, W.listOf (List.toArray ms) mc) :: X, ∃ v n, p.2.data = .seq v n := fun p hp => by
    simp only [List.mem_cons] at hp
    rcases hp with rfl | rfl | rfl | rfl | rfl | hp
    · exact ⟨_, _, rfl⟩
    · exact ⟨_, _, rfl⟩
    · exact ⟨_, _, rfl⟩
    · exact ⟨_, _, rfl⟩
    · exact ⟨_, _, rfl⟩
    · obtain ⟨ws, e⟩ := hX p hp
      exact ⟨_, _, by rw [e]⟩
  have s6 : ∀ p ∈ X, p ∈ (Ta, tupO [.ref D, .ref M, .ref S]) :: (S, W.listOf (List.toArray ss) sc) :: (H, W.listOf (List.toArray vs) c) :: (D, W.listOf (List.toArray ds) dc) :: (M, W.listOf (List.toArray ms) mc) :: X := fun p hp => .tail _ (.tail _ (.tail _ (.tail _ (.tail _ hp))))
  refine ⟨Ta, D, M, S, _, ls, rfl, .head _, ⟨ds, dc, .tail _ (.tail _ (.tail _ (.head _))), hd.mono s6⟩, ⟨ms, mc, .tail _ (.tail _ (.tail _ (.tail _ (.head _)))), hm.mono s6⟩, ⟨ss, sc, .tail _ (.head _), hs.mono s6⟩, hp, ho, fun p hp => ?_, ⟨tb1', hF1.done fun p hp => (N p (sy p (List.mem_append_left _ hp))).1⟩, ⟨tb2', hF2.done fun p hp => (N p (sy p (List.mem_append_right _ hp))).1⟩⟩
  have z := N p (sx p hp)
  obtain ⟨v, n, hdv⟩ := sq p hp
  refine ⟨z.1, fresh_of K1 (fun hm => ?_) z.2.2, sq p hp⟩
  exact not_mem_of (apart_tab N (o := p.2) (sx p hp) hdv sy hf) (hF1.both hF2 _ hm)
section
variable {w : World} {A : Around} {E : Value → Shared → Prop} {h : Heap} {sg : Array GenState} {sd : Drawn} {t0 : Nat} {so : OsState} {g : Heap} {L H D T I : Addr} {m : Str → Option Value} {X Y news rest : List (Addr × Obj)} {vs : List Value} {c : Nat} {u1 u2 u3 : Tok} {oI : Obj} {po : Addr × Obj}
theorem app1 (t : T3) {Q : Value → Shared → Prop} (F : Fr g L h m) (N : News g L h ((T, trO t u1 u2 u3) :: po :: (I, oI) :: (H, W.listOf (List.toArray vs) c) :: (X ++ Y))) (hI : H ≠ I) (hTu : Tups X) (hY : ∀ p ∈ Y, ∃ vf, p.2.data = .fields vf) (hl : vs.length ≤ 1000)
    (k : ∀ h' u1 u2 u3, Fr g L h' m → News g L h' ((I, oI) :: (H, W.listOf (List.toArray (vs ++ [.ref T])) (c + 1)) :: ((T, trO t u1 u2 u3) :: X ++ Y)) → Q .none ⟨h', sg, sd, t0, so⟩) : wpAny (model PR w) A (call (.builtin "list.append") [.ref H, .ref T]) Q E ⟨h, sg, sd, t0, so⟩ := by
  have hH : (H, W.listOf (List.toArray vs) c) ∈ (T, trO t u1 u2 u3) :: po :: (I, oI) :: (H, W.listOf (List.toArray vs) c) :: (X ++ Y) := .tail _ (.tail _ (.tail _ (.head _)))
  have s1 : ∀ p ∈ (T, trO t u1 u2 u3) :: X ++ Y, p ∈ (T, trO t u1 u2 u3) :: po :: (I, oI) :: (H, W.listOf (List.toArray vs) c) :: (X ++ Y) := fun p hp => (List.mem_cons.mp hp).elim (fun e => by rw [e]; exact .head _) fun q => .tail _ (.tail _ (.tail _ (.tail _ q)))
  refine appM (s := ⟨h, sg, sd, t0, so⟩) F N hH ((I, oI) :: ((T, trO t u1 u2 u3) :: X ++ Y)) (fun p hp => (List.mem_cons.mp hp).elim (fun e => by rw [e]; exact .tail _ (.tail _ (.head _))) (s1 p)) (fun p hp => (List.mem_cons.mp hp).elim (fun e => by rw [e]; exact hI.symm) (sep_all (X := (T, trO t u1 u2 u3) :: X) N hH s1 hTu.cons hY p)) hl (fun h' F' N' => k h' u1 u2 u3 F' (news_sub N' fun p hp => ?_))
  rcases List.mem_cons.mp hp with e | hp
  · rw [e]; exact .tail _ (.head _)
  · rcases List.mem_cons.mp hp with e | hp
    · rw [e]; exact .head _
    · exact .tail _ (.tail _ hp)
end
/-- the ledger of a turn -/
abbrev Shp (I : Addr) (oI : Obj) (H : Addr) (vs : List Value) (c : Nat) (D : Addr) (ds : List Value) (dc : Nat) (M : Addr) (ms : List Value) (mc : Nat) (XY : List (Addr × Obj)) : List (Addr × Obj) :=
  (I, oI) :: (H, W.listOf (List.toArray vs) c) :: (D, W.listOf (List.toArray ds) dc) :: (M, W.listOf (List.toArray ms) mc) :: XY
/-- the three lists and the iterator lie apart -/
structure Apart (I H D M : Addr) : Prop where
  hi : H ≠ I
  di : D ≠ I
  mi : M ≠ I
  dh : D ≠ H
  mh : M ≠ H
  md : M ≠ D
section
variable {w : World} {A : Around} {E : Value → Shared → Prop} {h h' : Heap} {sg : Array GenState} {sd : Drawn} {t0 : Nat} {so : OsState} {g : Heap} {L H D M T I : Addr} {m : Str → Option Value} {X Y news rest : List (Addr × Obj)} {vs ds ms : List Value} {c dc mc : Nat} {u1 u2 u3 : Tok} {oI : Obj} {ts ts8 : List T3} {top : T3} {r : Value}
theorem rep1 (t : T3) (N : News g L h ((T, trO t u1 u2 u3) :: news)) (hs : ∀ p ∈ Shp I oI H vs c D ds dc M ms mc (X ++ Y), p ∈ news) (ap : Apart I H D M) (hx : TX X vs ts) (hTu : Tups X) (hY : ∀ p ∈ Y, ∃ vf, p.2.data = .fields vf) (F : Fr g L h m)
    (x : Ext [H] h h') (q : HrPost H (.ref T) top ts8 h r h') :
    ∃ vs8 c8 ar w1 w2 w3 u1 u2 u3, r = .ref ar ∧ (ar, trO top w1 w2 w3) ∈ X ∧ TX ((T, trO t u1 u2 u3) :: X) vs8 ts8 ∧ Fr g L h' m ∧ News g L h' (Shp I oI H vs8 c8 D ds dc M ms mc ((T, trO t u1 u2 u3) :: X ++ Y)) := by
  have hH := hs (H, W.listOf (List.toArray vs) c) (.tail _ (.head _))
  have sx : ∀ p ∈ X ++ Y, p ∈ news := fun p hp => hs p (.tail _ (.tail _ (.tail _ (.tail _ hp))))
  obtain ⟨vs8, c8, ar, w1, w2, w3, e, ha, hT, N8⟩ := hr_next (rest := (I, oI) :: (D, W.listOf (List.toArray ds) dc) :: (M, W.listOf (List.toArray ms) mc) :: (X ++ Y)) N hH hx (fun p hp => .tail _ (.tail _ (.tail _ (List.mem_append_left _ hp)))) (fun p hp => hs p (by simp only [List.mem_cons] at hp ⊢; grind)) (fun p hp => by
    rcases List.mem_cons.mp hp with rfl | hp
    · exact ap.hi.symm
    rcases List.mem_cons.mp hp with rfl | hp
    · exact ap.dh
    rcases List.mem_cons.mp hp with rfl | hp
    · exact ap.mh
    · exact sep_all N (.tail _ hH) (fun p hp => .tail _ (sx p hp)) hTu hY p hp) x q
  exact ⟨vs8, c8, ar, w1, w2, w3, u1, u2, u3, e, ha, hT, rep_fr F N x (.tail _ hH), news_sub N8 fun p hp => by simp only [Shp, List.mem_cons, List.cons_append] at hp ⊢; grind⟩
theorem appD {Q : Value → Shared → Prop} (F : Fr g L h m) (N : News g L h (Shp I oI H vs c D ds dc M ms mc (X ++ Y))) (ap : Apart I H D M) (hTu : Tups X) (hY : ∀ p ∈ Y, ∃ vf, p.2.data = .fields vf) (hl : ds.length ≤ 1000)
    (k : ∀ h', Fr g L h' m → News g L h' (Shp I oI H vs c D (ds ++ [r]) (dc + 1) M ms mc (X ++ Y)) → Q .none ⟨h', sg, sd, t0, so⟩) : wpAny (model PR w) A (call (.builtin "list.append") [.ref D, r]) Q E ⟨h, sg, sd, t0, so⟩ := by
  have hD : (D, W.listOf (List.toArray ds) dc) ∈ Shp I oI H vs c D ds dc M ms mc (X ++ Y) := .tail _ (.tail _ (.head _))
  refine appM (s := ⟨h, sg, sd, t0, so⟩) F N hD ((I, oI) :: (H, W.listOf (List.toArray vs) c) :: (M, W.listOf (List.toArray ms) mc) :: (X ++ Y)) (fun p hp => by simp only [Shp, List.mem_cons] at hp ⊢; grind) (fun p hp => ?_) hl (fun h' F' N' => k h' F' (news_sub N' fun p hp => by simp only [Shp, List.mem_cons] at hp ⊢; grind))
  rcases List.mem_cons.mp hp with rfl | hp
  · exact ap.di.symm
  rcases List.mem_cons.mp hp with rfl | hp
  · exact ap.dh.symm
  rcases List.mem_cons.mp hp with rfl | hp
  · exact ap.md
  · exact sep_all N hD (fun p hp => .tail _ (.tail _ (.tail _ (.tail _ hp)))) hTu hY p hp
theorem appMk {Q : Value → Shared → Prop} (F : Fr g L h m) (N : News g L h (Shp I oI H vs c D ds dc M ms mc (X ++ Y))) (ap : Apart I H D M) (hTu : Tups X) (hY : ∀ p ∈ Y, ∃ vf, p.2.data = .fields vf) (hl : ms.length ≤ 1000)
    (k : ∀ h', Fr g L h' m → News g L h' (Shp I oI H vs c D ds dc M (ms ++ [r]) (mc + 1) (X ++ Y)) → Q .none ⟨h', sg, sd, t0, so⟩) : wpAny (model PR w) A (call (.builtin "list.append") [.ref M, r]) Q E ⟨h, sg, sd, t0, so⟩ := by
  have hM : (M, W.listOf (List.toArray ms) mc) ∈ Shp I oI H vs c D ds dc M ms mc (X ++ Y) := .tail _ (.tail _ (.tail _ (.head _)))
  refine appM (s := ⟨h, sg, sd, t0, so⟩) F N hM ((I, oI) :: (H, W.listOf (List.toArray vs) c) :: (D, W.listOf (List.toArray ds) dc) :: (X ++ Y)) (fun p hp => by simp only [Shp, List.mem_cons] at hp ⊢; grind) (fun p hp => ?_) hl (fun h' F' N' => k h' F' (news_sub N' fun p hp => by simp only [Shp, List.mem_cons] at hp ⊢; grind))
  rcases List.mem_cons.mp hp with rfl | hp
  · exact ap.mi.symm
  rcases List.mem_cons.mp hp with rfl | hp
  · exact ap.mh.symm
  rcases List.mem_cons.mp hp with rfl | hp
  · exact ap.md.symm
  · exact sep_all N hM (fun p hp => .tail _ (.tail _ (.tail _ (.tail _ hp)))) hTu hY p hp
/-- the top of the heap, read -/
theorem top0 {value slice : Expr} {Q : Value → Shared → Prop} {t : Tok} (F : Fr g L h m) (N : News g L h (Shp I oI H vs c D ds dc M ms mc (X ++ Y))) (hx : TX X vs ts) (h0 : 0 < ts.length)
    (k : ∀ a u1 u2 u3, Fr g L h m → News g L h ((a, trO (ts.getD 0 (0, 0, 0)) u1 u2 u3) :: Shp I oI H vs c D ds dc M ms mc (X ++ Y)) → Q (.ref a) ⟨h, sg, sd, t0, so⟩)
    (hs : subscripted slice false (.ref H) (.int 0 t) = operate [.ref H, .int 0 t] (getItem (.ref H) (.int 0 t)) := by with_unfolding_all rfl) (hg : ∀ r, letTemporaryGo value (.ref H) r = pure () := by intro _; with_unfolding_all rfl) :
    wpAny (model PR w) A (subscriptTail value slice (.ref H) (.int 0 t)) Q E ⟨h, sg, sd, t0, so⟩ := by
  obtain ⟨a, u1, u2, u3, e, ha⟩ := hx.get h0
  have hm : (a, trO (ts.getD 0 (0, 0, 0)) u1 u2 u3) ∈ Shp I oI H vs c D ds dc M ms mc (X ++ Y) := .tail _ (.tail _ (.tail _ (.tail _ (List.mem_append_left _ ha))))
  exact kim_list (s := ⟨h, sg, sd, t0, so⟩) N (.tail _ (.head _)) rfl rfl (by decide) (by decide) e (k a u1 u2 u3 F (fun p hp => (List.mem_cons.mp hp).elim (fun q => by rw [q]; exact N _ hm) (N p))) hs hg
end
end Mine
end

section
open PySem PySem.W PyProof.Rows PySem.Spec PySem.Calls
set_option Elab.async false
set_option maxRecDepth 100000
set_option maxHeartbeats 800000
set_option pp.deepTerms false
set_option pp.deepTerms.threshold 3
set_option pp.maxSteps 6000
namespace Mine
local macro_rules | `(tactic| walk_at "storeName") => `(tactic| (k_here; k_dflt (refine' storeX_P ?F ?N ?_ ?a ?b; (case F => k_asm); (case N => k_asm); (case a => rfl); (case b => rfl); k_whole; intro h' tk' F' N'; (try k_sweep))))
local macro_rules | `(tactic| walk_at "subscriptTail") => `(tactic| refine Stop.go ?_)
local macro_rules | `(tactic| walk_at "call builtin:len") => `(tactic| refine Stop.go ?_)
local macro_rules | `(tactic| walk_at "call ref") => `(tactic| refine Stop.go ?_)
local macro_rules | `(tactic| walk_at "call type:range") => `(tactic| refine Stop.go ?_)
local macro_rules | `(tactic| walk_at "pyIter ref") => `(tactic| refine Stop.go ?_)
local macro_rules | `(tactic| walk_at "exec For Name Call cons nil") => `(tactic| refine Stop.go ?_)
local macro_rules | `(tactic| walk_at "exec For") => `(tactic| refine Stop.go ?_)
local macro_rules | `(tactic| walk_at "call builtin:list.append") => `(tactic| refine Stop.go ?_)
local macro_rules | `(tactic| walk_at "call builtin:sorted") => `(tactic| refine Stop.go ?_)
theorem forth {w : World} {loose : List Str} {mean : ExcName → Option Value} {mg mb : Str → Option Value} {C : Addr} {cs : List (Int × Int)} {mo : Int} {n : Nat} {t1 t2 : Tok} {tb1 tb2 : List (Addr × Obj)} (hpos : ∀ p ∈ cs, 0 < p.2) (hc2 : 2 ≤ cs.length) (hc4 : cs.length ≤ 4) (hn : n ≤ 100)
    (hbit : ∀ p ∈ cs, Builtin.Int.intBits (p.1 - mo) ≤ 1900000 ∧ Builtin.Int.intBits p.2 ≤ 1900000) (hT1 : TabLed 86 q91 p91 tb1) (hT2 : TabLed 93 q98 p98 tb2) :
    Meets w loose mean mg mb 145 [.ref C, .int mo t1, .int (n : Int) t2] 430 420 ((tb1 ++ tb2).map (·.1)) (fun h => Clk h C cs ∧ ∀ p ∈ tb1 ++ tb2, h.get? p.1 = some p.2) (HalfPost (ftold cs mo n) (tab0 (fmk mo) n) (fhp cs mo n) tb1 tb2) := by
  have Z : (hd.heap_39 w.params).In { objs := #[] } → Challenge.rw_mq0294_01.foot = 11 → True := fun _ _ => trivial
  revert Z; k_fill; intro _
  refine enterN (f := 145) (args := [.ref C, .int mo t1, .int (n : Int) t2]) (d := 430) (u := 420) (binds := [("clocks", .ref C), ("moment", .int mo t1), ("count", .int (n : Int) t2)]) ((tb1 ++ tb2).map (·.1)) (by k_is) (by k_is) (fun s => BindsTo.of_eq rfl) (locs rfl) rfl rfl rfl (by decide) (by decide) ?_
  intro dp un gd outer sh sg sd so Q g h₁ L tk hd hu hpre G K1 K2 K3 hlt K4 F ret
  obtain ⟨hC0, hpre⟩ := hpre
  have hC : Clk g C cs := hC0.off (clk_off (cs := cs) (C := C) K1 hpre hT1 hT2)
  have X := G.X
  have T := G.T
  have N : News g L h₁ (tb1 ++ tb2) := fun p hp => ⟨K4 _ _ (hpre p hp), Nat.ne_of_lt (hlt _ _ (hpre p hp)), K3 _ (List.mem_map_of_mem hp)⟩
  have h100 : cs.length ≤ 100 := Nat.le_trans hc4 (by decide)
  (try dsimp only)
  (try k_fold)
  k_steps
  refine For_invV g rfl rfl ?_ (fun _ => rfl) (fun _ _ h => h.elim)
  k_steps
  (rename Fr _ _ _ _ => F1)
  refine len_clk (hC.keeps F1.keep) ?_ h100
  k_steps
  (rename Fr _ _ _ _ => F2); (rename News _ _ _ _ => N2)
  refine range1_rows F2 N2 ?_
  intro h3 tk3 r1 r2 r3 hR F3 N3 _
  k_steps
  rename_i H _ lH _ _ _
  clear lH
  dsimp only
  refine for_rangeN (n := cs.length) (fun i m news => FJ1 (fst0 cs mo) sh tb1 tb2 H i news ∧ Kn m [("clocks", .ref C), ("moment", .int mo t1), ("count", .int (n : Int) t2), ("heap", .ref H)]) hR h100 F3 N3 ⟨⟨[], 0, [], tb1, tb2, rfl, TX.nil, Tups.nil, TabFrom.refl hT1, TabFrom.refl hT2⟩, rfl, rfl, rfl, rfl, trivial⟩ rfl (fun i m news j => j.1.nori) ?_ ?_
  · rintro i I tv m₁ _ h5 tk5 oI Qt hi ⟨⟨vs, c, X1, tb1', tb2', rfl, hTX, hTu, hF1, hF2⟩, kn⟩ hne F5 N5 nx -
    replace F5 := fr_kn F5 kn
    replace N5 : News g L h5 _ := N5
    replace F5 : Fr g L h5 _ := F5
    k_steps
    refine get_clk hC F5.keep hi h100 ?_
    intro pa pt pu hpa
    obtain ⟨sta, stp, hcp, hst, hb1, hb2⟩ : ∃ a b, cs.getD i (0, 0) = (a, b) ∧ 0 < b ∧ Builtin.Int.intBits (a - mo) ≤ 1900000 ∧ Builtin.Int.intBits b ≤ 1900000 := by
      exact ⟨_, _, rfl, hpos _ (getD_mem hi), hbit _ (getD_mem hi)⟩
    have hnew : fst0 cs mo i = (mo + (sta - mo) % stp, (i : Int), -((sta - mo) / stp)) := by rw [fst0, hcp]
    rw [hcp] at hpa
    have hpt : IsTup g pa #[.int sta pt, .int stp pu] := ⟨_, hpa, rfl, _, rfl⟩
    clear hpa
    k_steps
    (rename Fr _ _ _ _ => F7); (rename News _ _ _ _ => N7)
    refine useN (idm (tb1 := tb1') (tb2 := tb2') hst hb1 hb2 hF1.1 hF2.1) hd hu G F7 N7 (fun b hb => by obtain ⟨p, hp, rfl⟩ := List.mem_map.mp hb; exact List.mem_map_of_mem (.tail _ (.tail _ (List.mem_append_right _ hp)))) (led_get N7 fun p hp => .tail _ (.tail _ (List.mem_append_right _ hp))) ?_
    intro v h8 tk8 x8 d8
    obtain ⟨p2, tq, tr, tb1'', tb2'', rfl, F8, N8, hF1', hF2'⟩ := half_dm K1 F7 N7 hTu hne hF1 hF2 x8 d8
    clear F7 N7 x8 d8 hF1 hF2
    k_steps
    (rename Fr _ _ _ _ => F9); (rename News _ _ _ _ => N9)
    rename_i T1 _ lT
    clear lT
    refine app1 (mo + (sta - mo) % stp, (i : Int), -((sta - mo) / stp)) F9 N9 (hne _ (.head _)) hTu (tabs_fields hF1'.1 hF2'.1) (by rw [hTX.1, tab0_length]; exact Nat.le_trans (Nat.le_of_lt hi) (Nat.le_trans h100 (by decide))) ?_
    intro h10 u1 u2 u3 F10 N10
    clear F9 N9
    k_steps
    exact nx _ _ _ _ F10 N10 ⟨⟨_, _, _, _, _, rfl, by rw [tab0, hnew]; exact (hTX.mono fun p hp => .tail _ hp).snoc (.head _), hTu.cons, hF1', hF2'⟩, rfl, rfl, rfl, rfl, trivial⟩
  · rintro m₁ _ h5 tk5 ⟨⟨vs, c, X1, tb1', tb2', rfl, hTX, hTu, hF1, hF2⟩, kn⟩ F5 N5
    replace F5 := fr_kn0 F5 kn
    replace N5 : News g L h5 _ := N5
    replace F5 : Fr g L h5 _ := F5
    k_steps
    have hl0 := tab0_length (f := fst0 cs mo) cs.length
    refine useN (heapify (D := H) (ts := tab0 (fst0 cs mo) cs.length) (by rw [hl0]; exact hc2) (by rw [hl0]; exact hc4)) hd hu G F5 N5 (fun b hb => by rw [List.mem_singleton.mp hb]; exact .head _) ⟨_, _, (N5 _ (.head _)).1, hTX.are fun p hp => (N5 p (.tail _ (List.mem_append_left _ hp))).1⟩ ?_
    rintro _ h8 tk8 x8 ⟨rfl, q8⟩
    have hY := tabs_fields hF1.1 hF2.1
    obtain ⟨vs8, c8, hTX8, N8⟩ := hfy_next (rest := X1 ++ (tb1' ++ tb2')) N5 (.head _) hTX (fun p hp => List.mem_append_left _ hp) (fun p hp => .tail _ hp) (sep_all N5 (.head _) (fun p hp => .tail _ hp) hTu hY) x8 q8
    have F8 := rep_fr F5 N5 x8 (.head _)
    clear F5 N5 x8 q8 hTX
    k_steps
    rename_i D _ lD _ _ M _ lM _ _ _ _
    have hDH : D ≠ H := fun e => Nat.lt_irrefl H (by rw [← e]; first | exact lD.1 | exact e ▸ lD.1)
    have hMD : M ≠ D := fun e => Nat.lt_irrefl D (by first | exact e ▸ lM.1)
    have hMH : M ≠ H := fun e => Nat.lt_irrefl H (by first | exact e ▸ lM.2.1)
    clear lD lM
    refine For_invV g rfl rfl ?_ (fun _ => rfl) (fun _ _ h => h.elim)
    k_steps
    (rename Fr _ _ _ _ => Fa); (rename News _ _ _ _ => Na)
    refine range1_rows Fa Na ?_
    intro h12 tk12 r4 r5 r6 hR2 F12 N12 _
    clear Fa Na
    k_steps
    refine for_rangeN (n := n) (fun i m news => FJ2 (fhp cs mo) (fmk mo) (tb1' ++ tb2') H D M i news ∧ Kn m [("clocks", .ref C), ("moment", .int mo t1), ("heap", .ref H), ("told", .ref D), ("marks", .ref M)]) hR2 hn F12 (news_sub' N12 _ (by intro p hp; simp only [List.mem_cons] at hp ⊢; grind)) ⟨⟨vs8, c8, [], 0, [], 0, X1, rfl, hTX8, TX.nil, TX.nil, hTu⟩, rfl, rfl, rfl, rfl, rfl, trivial⟩ rfl (fun i m news j => j.1.nori (tabs_nori hF1.1 hF2.1)) ?_ ?_
    · rintro i I tv m₁ _ h13 tk13 oI Qt hi ⟨⟨vs, c, ds, dc, ms, mc, X2, rfl, hTX, hTd, hTm, hTu⟩, kn⟩ hne F13 N13 nx -
      have ap : Apart I H D M := ⟨hne _ (.head _), hne _ (.tail _ (.head _)), hne _ (.tail _ (.tail _ (.head _))), hDH, hMH, hMD⟩
      obtain ⟨hl, hhp, hin, hmk⟩ := fhp_inv (mo := mo) hpos hc2 hc4 i
      obtain ⟨htm, k, hk, hpl⟩ := hin _ (getD_mem (d := (0, 0, 0)) (i := 0) (by rw [hl]; exact Nat.lt_of_lt_of_le (by decide) hc2))
      replace F13 := fr_kn F13 kn
      replace N13 : News g L h13 (Shp I oI H vs c D ds dc M ms mc (X2 ++ (tb1' ++ tb2'))) := N13
      replace F13 : Fr g L h13 _ := F13
      have hY := tabs_fields hF1.1 hF2.1
      clear hne hTX8 hR hR2 N12 F12
      k_steps
      refine top0 F13 N13 hTX (by omega) ?_
      intro a u1 u2 u3 F14 N14
      obtain ⟨⟨hr, pl, nb⟩, htop⟩ : ∃ t, (fhp cs mo i).getD 0 (0, 0, 0) = t := ⟨_, rfl⟩
      rw [htop] at N14 hpl
      dsimp only at hpl
      subst hpl
      replace N14 : News g L h13 ((a, tupO [.int hr u1, .int (k : Int) u2, .int nb u3]) :: Shp I oI H vs c D ds dc M ms mc (X2 ++ (tb1' ++ tb2'))) := N14
      k_steps
      (rename Fr _ _ _ _ => F15); (rename News _ _ _ _ => N15)
      rename_i T1 _ lT1
      clear lT1
      refine useN (heapreplace (D := H) (ts := fhp cs mo i) (t := fmk mo i) (by omega) (by omega)) hd hu G F15 N15 (fun b hb => by rw [List.mem_singleton.mp hb]; exact .tail _ (.tail _ (.tail _ (.head _)))) ⟨⟨_, _, (N15 _ (.tail _ (.tail _ (.tail _ (.head _))))).1, hTX.are fun p hp => (N15 p (.tail _ (.tail _ (.tail _ (.tail _ (.tail _ (.tail _ (List.mem_append_left _ hp)))))))).1⟩, ⟨_, _, _, _, rfl, (N15 _ (.head _)).1⟩⟩ ?_
      intro r16 h16 tk16 x16 q16
      obtain ⟨vs8', c8', ar, w1, w2, w3, v1, v2, v3, rfl, har, hTX', F16, N16⟩ := rep1 (fmk mo i) N15 (fun p hp => .tail _ hp) ap hTX hTu hY F15 x16 q16
      clear F15 N15 x16 q16 hTX
      rw [htop] at har
      k_steps
      refine appD (X := (T1, trO (fmk mo i) v1 v2 v3) :: X2) F16 N16 ap hTu.cons hY (by rw [hTd.1, tab0_length]; exact Nat.le_trans (Nat.le_of_lt hi) (Nat.le_trans hn (by decide))) ?_
      intro h17 F17 N17
      clear F16 N16
      k_steps
      (rename Fr _ _ _ _ => F18)
      refine get_clk hC F18.keep hk h100 ?_
      intro pa pt pu hpa
      have hpt : IsTup g pa #[.int (cs.getD k (0, 0)).1 pt, .int (cs.getD k (0, 0)).2 pu] := ⟨_, hpa, rfl, _, rfl⟩
      clear hpa
      k_steps
      (rename Fr _ _ _ _ => F19)
      refine item_tupleT (Fr.tup F19 hpt) (by decide) (by decide) rfl rfl ?_
      k_steps
      (rename Fr _ _ _ _ => F20); (rename News _ _ _ _ => N20)
      rename_i T2 _ lT2
      clear lT2
      have hl2 : (sift tlt ((fhp cs mo i).set 0 (fmk mo i)) 0).length = cs.length := by rw [sift_length, List.length_set, hl]
      have hmt : (sift tlt ((fhp cs mo i).set 0 (fmk mo i)) 0).getD 0 (0, 0, 0) = fmk mo i := top_mark ord_tlt (by omega) (by omega) hhp hmk
      have e1 : fhp cs mo (i + 1) = sift tlt ((sift tlt ((fhp cs mo i).set 0 (fmk mo i)) 0).set 0 (hr + (cs.getD k (0, 0)).2, (k : Int), nb + 1)) 0 := by
        show fturn tlt (fmk mo i) (fnx cs) (fhp cs mo i) = _
        unfold fturn
        rw [show (fhp cs mo i).getD 0 Z3 = _ from htop]
        rfl
      refine useN (heapreplace (D := H) (ts := sift tlt ((fhp cs mo i).set 0 (fmk mo i)) 0) (t := (hr + (cs.getD k (0, 0)).2, (k : Int), nb + 1)) (by omega) (by omega)) hd hu G F20 N20 (fun b hb => by rw [List.mem_singleton.mp hb]; exact .tail _ (.tail _ (.head _))) ⟨⟨_, _, (N20 _ (.tail _ (.tail _ (.head _)))).1, hTX'.are fun p hp => (N20 p (.tail _ (.tail _ (.tail _ (.tail _ (.tail _ (List.mem_append_left _ hp))))))).1⟩, ⟨_, _, _, _, rfl, (N20 _ (.head _)).1⟩⟩ ?_
      intro r21 h21 tk21 x21 q21
      obtain ⟨vs9, c9, ar2, w4, w5, w6, v4, v5, v6, rfl, har2, hTX9, F21, N21⟩ := rep1 (hr + (cs.getD k (0, 0)).2, (k : Int), nb + 1) N20 (fun p hp => hp) ap hTX' hTu.cons hY F20 x21 q21
      rw [hmt] at har2
      rw [← e1] at hTX9
      clear F20 N20 x21 q21 hTX' e1 hmt
      k_steps
      refine appMk (X := (T2, trO (hr + (cs.getD k (0, 0)).2, (k : Int), nb + 1) v4 v5 v6) :: (T1, trO (fmk mo i) v1 v2 v3) :: X2) F21 N21 ap hTu.cons.cons hY (by rw [hTm.1, tab0_length]; exact Nat.le_trans (Nat.le_of_lt hi) (Nat.le_trans hn (by decide))) ?_
      intro h22 F22 N22
      clear F21 N21
      k_steps
      exact nx _ _ _ _ F22 N22 ⟨⟨vs9, c9, _, _, _, _, _, rfl, hTX9, by rw [tab0, show (fhp cs mo i).getD 0 Z3 = _ from htop]; exact (hTd.mono fun p hp => .tail _ (.tail _ hp)).snoc (.tail _ (.tail _ har)), by rw [tab0]; exact (hTm.mono fun p hp => .tail _ (.tail _ hp)).snoc (.tail _ har2), hTu.cons.cons⟩, rfl, rfl, rfl, rfl, rfl, trivial⟩
    · rintro m₁ _ h13 tk13 ⟨⟨vs, c, ds, dc, ms, mc, X2, rfl, hTX, hTd, hTm, hTu⟩, kn⟩ F13 N13
      replace F13 := fr_kn0 F13 kn
      replace N13 : News g L h13 _ := N13
      replace F13 : Fr g L h13 _ := F13
      clear hTX8 hR hR2 N12 F12
      k_steps
      obtain ⟨hl, -⟩ := fhp_inv (mo := mo) hpos hc2 hc4 n
      refine sort_place (s := ⟨h13, sg, sd, tk13, so⟩) (vs := vs) G F13 N13 (N13 _ (.head _)).1 (hTX.are fun p hp => (N13 p (.tail _ (.tail _ (.tail _ (List.mem_append_left _ hp))))).1) (by rw [hTX.1]; omega) (by omega) (by omega) (fun v hv a e => .inl (by
        obtain ⟨a', o, e', m⟩ := hTX.ref hv
        rw [e] at e'; cases e'
        exact ⟨o, .tail _ (.tail _ (.tail _ (List.mem_append_left _ m)))⟩)) ?_
      intro S h14 tk14 out oc ls F14 N14 hlt14 hT14 hp14 hw14 hs14
      have hTX14 := TX.back (X := X2) hT14 (fun p hp => (N14 p (.tail _ (.tail _ (.tail _ (.tail _ (List.mem_append_left _ hp)))))).1) (fun v hv => hTX.ref (hs14 v hv))
      clear F13 N13 hlt14 hT14 hs14 hTX
      k_steps
      (rename Fr _ _ _ _ => F15); (rename News _ _ _ _ => N15)
      exact (ret _ _ _ F15.keep (half_end K1 N15 hTu hF1 hF2 hTd hTm hTX14 hp14 hw14)).1
end Mine
end

section
open PySem PySem.W PyProof.Rows PySem.Spec PySem.Calls
set_option Elab.async false
set_option maxRecDepth 100000
set_option maxHeartbeats 800000
namespace Mine
def bst0 (cs : List (Int × Int)) (fin : T3) (i : Nat) : T3 := (bndN fin i - (bndN fin i - (cs.getD i (0, 0)).1) % (cs.getD i (0, 0)).2, (i : Int), (bndN fin i - (cs.getD i (0, 0)).1) / (cs.getD i (0, 0)).2)
def bmk (fin : T3) (i : Nat) : T3 := (fin.1 + 1, (i : Int), 0)
def bnx (cs : List (Int × Int)) (t : T3) : T3 := (t.1 - (cs.getD t.2.1.toNat (0, 0)).2, t.2.1, t.2.2 - 1)
abbrev bhp (cs : List (Int × Int)) (fin : T3) (i : Nat) : List T3 := fheap tgt (bmk fin) (bnx cs) (hfy tgt (tab0 (bst0 cs fin) cs.length)) i
def btold (cs : List (Int × Int)) (fin : T3) (n : Nat) : List T3 := tab0 (fun i => (bhp cs fin i).getD 0 Z3) n
/-- a stroke of back, as the walk sees it -/
def BIn (cs : List (Int × Int)) (fin : T3) (x : T3) : Prop := x.1 ≤ fin.1 ∧ ∃ k : Nat, k < cs.length ∧ x.2.1 = (k : Int)
theorem bndN_le {fin : T3} {i : Nat} : bndN fin i ≤ fin.1 := by unfold bndN; split <;> omega
theorem bhp_inv {cs : List (Int × Int)} {fin : T3} (hpos : ∀ p ∈ cs, 0 < p.2) (h2 : 2 ≤ cs.length) (h4 : cs.length ≤ 4) (i : Nat) :
    (bhp cs fin i).length = cs.length ∧ Heapy tgt (bhp cs fin i) ∧ (∀ x ∈ bhp cs fin i, BIn cs fin x) ∧ ∀ x ∈ bhp cs fin i, tgt (bmk fin i) x = true := by
  have l0 := tab0_length (f := bst0 cs fin) cs.length
  obtain ⟨a, b⟩ := hfy_ok ord_tgt (ts := tab0 (bst0 cs fin) cs.length) (by omega) (by omega)
  have hl := b.length_eq
  have hm : ∀ i x, BIn cs fin x → tgt (bmk fin i) x = true := by
    intro i x hx
    have := hx.1
    unfold tgt tlt bmk
    dsimp only
    rw [if_neg (by omega)]
    simp; omega
  have q1 : ∀ x ∈ hfy tgt (tab0 (bst0 cs fin) cs.length), BIn cs fin x := by
    intro x hx
    obtain ⟨k, hk, rfl⟩ := tab0_mem (b.mem_iff.mp hx)
    have := Int.emod_nonneg (bndN fin k - (cs.getD k (0, 0)).1) (Int.ne_of_gt (hpos _ (getD_mem (d := (0, 0)) hk)))
    have := bndN_le (fin := fin) (i := k)
    exact ⟨by show bndN fin k - _ ≤ fin.1; omega, k, hk, rfl⟩
  have q2 : ∀ x, BIn cs fin x → BIn cs fin (bnx cs x) := by
    rintro x ⟨h, k, hk, e⟩
    have := hpos _ (getD_mem (d := (0, 0)) hk)
    refine ⟨?_, k, hk, e⟩
    show x.1 - (cs.getD x.2.1.toNat (0, 0)).2 ≤ fin.1
    rw [e, Int.toNat_natCast]; omega
  obtain ⟨c, d, e⟩ := fheap_inv ord_tgt (mk := bmk fin) (nx := bnx cs) (BIn cs fin) (by omega) (by omega) a q1 q2 hm i
  exact ⟨by rw [c, hl, l0], d, e, fun x hx => hm i x (e x hx)⟩
end Mine
end

section
open PySem PySem.W PyProof.Rows PySem.Spec PySem.Calls
set_option Elab.async false
set_option maxRecDepth 100000
set_option maxHeartbeats 800000
set_option pp.deepTerms false
set_option pp.deepTerms.threshold 3
set_option pp.maxSteps 6000
namespace Mine
local macro_rules | `(tactic| walk_at "storeName") => `(tactic| (k_here; k_dflt (refine' storeX_P ?F ?N ?_ ?a ?b; (case F => k_asm); (case N => k_asm); (case a => rfl); (case b => rfl); k_whole; intro h' tk' F' N'; (try k_sweep))))
local macro_rules | `(tactic| walk_at "subscriptTail") => `(tactic| refine Stop.go ?_)
local macro_rules | `(tactic| walk_at "call builtin:len") => `(tactic| refine Stop.go ?_)
local macro_rules | `(tactic| walk_at "eval IfExp") => `(tactic| refine Stop.go ?_)
local macro_rules | `(tactic| walk_at "call ref") => `(tactic| refine Stop.go ?_)
local macro_rules | `(tactic| walk_at "call type:range") => `(tactic| refine Stop.go ?_)
local macro_rules | `(tactic| walk_at "pyIter ref") => `(tactic| refine Stop.go ?_)
local macro_rules | `(tactic| walk_at "exec For Name Call cons nil") => `(tactic| refine Stop.go ?_)
local macro_rules | `(tactic| walk_at "exec For") => `(tactic| refine Stop.go ?_)
local macro_rules | `(tactic| walk_at "call builtin:list.append") => `(tactic| refine Stop.go ?_)
local macro_rules | `(tactic| walk_at "call builtin:sorted") => `(tactic| refine Stop.go ?_)
section
variable {M : Model} {A : Around} {E : Value → Shared → Prop} {sg : Array GenState} {sd : Drawn} {so : OsState} {g : Heap} {L : Addr} {m : Str → Option Value} {news : List (Addr × Obj)} {s : Shared}
/-- two ways that meet: the rest is walked once -/
theorem cutV {t : Sem Value} {Q : Value → Shared → Prop} {h : Heap} (_ : Fr g L h m) (_ : News g L h news) (P : Value → Prop) (walk : ∀ Q' : Value → Shared → Prop, (∀ v h' tk', P v → Fr g L h' m → News g L h' news → Q' v ⟨h', sg, sd, tk', so⟩) → wpAny M A t Q' E s)
    (cont : ∀ v h' tk', P v → Fr g L h' m → News g L h' news → Q v ⟨h', sg, sd, tk', so⟩) : wpAny M A t Q E s := walk Q cont
end
theorem back {w : World} {loose : List Str} {mean : ExcName → Option Value} {mg mb : Str → Option Value} {C : Addr} {cs : List (Int × Int)} {fv : Value} {fin : T3} {n : Nat} {t2 : Tok} {tb1 tb2 : List (Addr × Obj)} (hpos : ∀ p ∈ cs, 0 < p.2) (hc2 : 2 ≤ cs.length) (hc4 : cs.length ≤ 4) (hn : n ≤ 100)
    (hbit : ∀ i, i < cs.length → Builtin.Int.intBits (bndN fin i - (cs.getD i (0, 0)).1) ≤ 1900000 ∧ Builtin.Int.intBits (cs.getD i (0, 0)).2 ≤ 1900000) (hT1 : TabLed 86 q91 p91 tb1) (hT2 : TabLed 93 q98 p98 tb2) :
    Meets w loose mean mg mb 152 [.ref C, fv, .int (n : Int) t2] 430 420 ((tb1 ++ tb2).map (·.1)) (fun h => Clk h C cs ∧ IsT h fv fin ∧ ∀ p ∈ tb1 ++ tb2, h.get? p.1 = some p.2) (HalfPost (btold cs fin n) (tab0 (bmk fin) n) (bhp cs fin n) tb1 tb2) := by
  have Z : (hd.heap_39 w.params).In { objs := #[] } → Challenge.rw_mq0294_01.foot = 11 → True := fun _ _ => trivial
  revert Z; k_fill; intro _
  refine enterN (f := 152) (args := [.ref C, fv, .int (n : Int) t2]) (d := 430) (u := 420) (binds := [("clocks", .ref C), ("final", fv), ("count", .int (n : Int) t2)]) ((tb1 ++ tb2).map (·.1)) (by k_is) (by k_is) (fun s => BindsTo.of_eq rfl) (locs rfl) rfl rfl rfl (by decide) (by decide) ?_
  intro dp un gd outer sh sg sd so Q g h₁ L tk hd hu hpre G K1 K2 K3 hlt K4 F ret
  obtain ⟨hC0, hF0, hpre⟩ := hpre
  have hC : Clk g C cs := hC0.off (clk_off (cs := cs) (C := C) K1 hpre hT1 hT2)
  obtain ⟨fa, f1, f2, f3, rfl, hfa⟩ := hF0.offS (clk_off (cs := cs) (C := C) K1 hpre hT1 hT2)
  have hft : IsTup g fa #[.int fin.1 f1, .int fin.2.1 f2, .int fin.2.2 f3] := ⟨_, hfa, rfl, _, rfl⟩
  clear hfa
  have X := G.X
  have T := G.T
  have N : News g L h₁ (tb1 ++ tb2) := fun p hp => ⟨K4 _ _ (hpre p hp), Nat.ne_of_lt (hlt _ _ (hpre p hp)), K3 _ (List.mem_map_of_mem hp)⟩
  have h100 : cs.length ≤ 100 := Nat.le_trans hc4 (by decide)
  (try dsimp only)
  (try k_fold)
  k_steps
  refine For_invV g rfl rfl ?_ (fun _ => rfl) (fun _ _ h => h.elim)
  k_steps
  (rename Fr _ _ _ _ => F1)
  refine len_clk (hC.keeps F1.keep) ?_ h100
  k_steps
  (rename Fr _ _ _ _ => F2); (rename News _ _ _ _ => N2)
  refine range1_rows F2 N2 ?_
  intro h3 tk3 r1 r2 r3 hR F3 N3 _
  k_steps
  rename_i H _ lH _ _ _
  clear lH
  dsimp only
  refine for_rangeN (n := cs.length) (fun i m news => FJ1 (bst0 cs fin) sh tb1 tb2 H i news ∧ Kn m [("clocks", .ref C), ("final", .ref fa), ("count", .int (n : Int) t2), ("heap", .ref H)]) hR h100 F3 N3 ⟨⟨[], 0, [], tb1, tb2, rfl, TX.nil, Tups.nil, TabFrom.refl hT1, TabFrom.refl hT2⟩, rfl, rfl, rfl, rfl, trivial⟩ rfl (fun i m news j => j.1.nori) ?_ ?_
  · rintro i I tv m₁ _ h5 tk5 oI Qt hi ⟨⟨vs, c, X1, tb1', tb2', rfl, hTX, hTu, hF1, hF2⟩, kn⟩ hne F5 N5 nx -
    replace F5 := fr_kn F5 kn
    replace N5 : News g L h5 _ := N5
    replace F5 : Fr g L h5 _ := F5
    k_steps
    refine get_clk hC F5.keep hi h100 ?_
    intro pa pt pu hpa
    obtain ⟨sta, stp, hcp, hst, hb1, hb2⟩ : ∃ a b, cs.getD i (0, 0) = (a, b) ∧ 0 < b ∧ Builtin.Int.intBits (bndN fin i - a) ≤ 1900000 ∧ Builtin.Int.intBits b ≤ 1900000 := by
      exact ⟨_, _, rfl, hpos _ (getD_mem hi), hbit i hi⟩
    have hnew : bst0 cs fin i = (bndN fin i - (bndN fin i - sta) % stp, (i : Int), (bndN fin i - sta) / stp) := by rw [bst0, hcp]
    obtain ⟨bd, hbd⟩ : ∃ b, bndN fin i = b := ⟨_, rfl⟩
    rw [hbd] at hnew hb1
    rw [hcp] at hpa
    have hpt : IsTup g pa #[.int sta pt, .int stp pu] := ⟨_, hpa, rfl, _, rfl⟩
    clear hpa
    k_steps
    (rename Fr _ _ _ _ => F7); (rename News _ _ _ _ => N7)
    refine cutV (h := _) (sg := sg) (sd := sd) (so := so) F7 N7 (fun v => ∃ tb, v = .int bd tb) ?wk ?ct
    case wk =>
      intro Q' k'
      refine IfExp_ ?_
      k_steps
      (rename Fr _ _ _ _ => Fw)
      refine item_tupleT (Fr.tup Fw hft) (by decide) (by decide) rfl rfl ?_
      k_steps
      · (rename Fr _ _ _ _ => Fw1)
        refine item_tupleT (Fr.tup Fw1 hft) (by decide) (by decide) rfl rfl ?_
        have e : fin.1 = bd := by rw [← hbd]; exact (if_pos (by assumption)).symm
        rw [e]
        k_steps
        (rename Fr _ _ _ _ => Fw2); (rename News _ _ _ _ => Nw2)
        exact k' _ _ _ ⟨_, rfl⟩ Fw2 Nw2
      · (rename Fr _ _ _ _ => Fw1)
        refine item_tupleT (Fr.tup Fw1 hft) (by decide) (by decide) rfl rfl ?_
        have e : fin.1 - 1 = bd := by rw [← hbd]; exact (if_neg (by omega)).symm
        k_steps
        (rename Fr _ _ _ _ => Fw2); (rename News _ _ _ _ => Nw2)
        exact k' _ _ _ ⟨_, by rw [← e]⟩ Fw2 Nw2
    case ct =>
    rintro _ h6 tk6 ⟨tb, rfl⟩ F7 N7
    k_steps
    (rename Fr _ _ _ _ => F7); (rename News _ _ _ _ => N7)
    refine useN (idm (tb1 := tb1') (tb2 := tb2') hst hb1 hb2 hF1.1 hF2.1) hd hu G F7 N7 (fun b hb => by obtain ⟨p, hp, rfl⟩ := List.mem_map.mp hb; exact List.mem_map_of_mem (.tail _ (.tail _ (List.mem_append_right _ hp)))) (led_get N7 fun p hp => .tail _ (.tail _ (List.mem_append_right _ hp))) ?_
    intro v h8 tk8 x8 d8
    obtain ⟨p2, tq, tr, tb1'', tb2'', rfl, F8, N8, hF1', hF2'⟩ := half_dm K1 F7 N7 hTu hne hF1 hF2 x8 d8
    clear F7 N7 x8 d8 hF1 hF2
    k_steps
    (rename Fr _ _ _ _ => F9); (rename News _ _ _ _ => N9)
    rename_i T1 _ lT
    clear lT
    refine app1 (bd - (bd - sta) % stp, (i : Int), (bd - sta) / stp) F9 N9 (hne _ (.head _)) hTu (tabs_fields hF1'.1 hF2'.1) (by rw [hTX.1, tab0_length]; exact Nat.le_trans (Nat.le_of_lt hi) (Nat.le_trans h100 (by decide))) ?_
    intro h10 u1 u2 u3 F10 N10
    clear F9 N9
    k_steps
    exact nx _ _ _ _ F10 N10 ⟨⟨_, _, _, _, _, rfl, by rw [tab0, hnew]; exact (hTX.mono fun p hp => .tail _ hp).snoc (.head _), hTu.cons, hF1', hF2'⟩, rfl, rfl, rfl, rfl, trivial⟩
  · rintro m₁ _ h5 tk5 ⟨⟨vs, c, X1, tb1', tb2', rfl, hTX, hTu, hF1, hF2⟩, kn⟩ F5 N5
    replace F5 := fr_kn0 F5 kn
    replace N5 : News g L h5 _ := N5
    replace F5 : Fr g L h5 _ := F5
    k_steps
    have hl0 := tab0_length (f := bst0 cs fin) cs.length
    refine useN (heapifyMax (D := H) (ts := tab0 (bst0 cs fin) cs.length) (by rw [hl0]; exact hc2) (by rw [hl0]; exact hc4)) hd hu G F5 N5 (fun b hb => by rw [List.mem_singleton.mp hb]; exact .head _) ⟨_, _, (N5 _ (.head _)).1, hTX.are fun p hp => (N5 p (.tail _ (List.mem_append_left _ hp))).1⟩ ?_
    rintro _ h8 tk8 x8 ⟨rfl, q8⟩
    have hY := tabs_fields hF1.1 hF2.1
    obtain ⟨vs8, c8, hTX8, N8⟩ := hfy_next (rest := X1 ++ (tb1' ++ tb2')) N5 (.head _) hTX (fun p hp => List.mem_append_left _ hp) (fun p hp => .tail _ hp) (sep_all N5 (.head _) (fun p hp => .tail _ hp) hTu hY) x8 q8
    have F8 := rep_fr F5 N5 x8 (.head _)
    clear F5 N5 x8 q8 hTX
    k_steps
    rename_i D _ lD _ _ M _ lM _ _ _ _
    have hDH : D ≠ H := fun e => Nat.lt_irrefl H (by rw [← e]; first | exact lD.1 | exact e ▸ lD.1)
    have hMD : M ≠ D := fun e => Nat.lt_irrefl D (by first | exact e ▸ lM.1)
    have hMH : M ≠ H := fun e => Nat.lt_irrefl H (by first | exact e ▸ lM.2.1)
    clear lD lM
    refine For_invV g rfl rfl ?_ (fun _ => rfl) (fun _ _ h => h.elim)
    k_steps
    (rename Fr _ _ _ _ => Fa); (rename News _ _ _ _ => Na)
    refine range1_rows Fa Na ?_
    intro h12 tk12 r4 r5 r6 hR2 F12 N12 _
    clear Fa Na
    k_steps
    refine for_rangeN (n := n) (fun i m news => FJ2 (bhp cs fin) (bmk fin) (tb1' ++ tb2') H D M i news ∧ Kn m [("clocks", .ref C), ("final", .ref fa), ("heap", .ref H), ("told", .ref D), ("marks", .ref M)]) hR2 hn F12 (news_sub' N12 _ (by intro p hp; simp only [List.mem_cons] at hp ⊢; grind)) ⟨⟨vs8, c8, [], 0, [], 0, X1, rfl, hTX8, TX.nil, TX.nil, hTu⟩, rfl, rfl, rfl, rfl, rfl, trivial⟩ rfl (fun i m news j => j.1.nori (tabs_nori hF1.1 hF2.1)) ?_ ?_
    · rintro i I tv m₁ _ h13 tk13 oI Qt hi ⟨⟨vs, c, ds, dc, ms, mc, X2, rfl, hTX, hTd, hTm, hTu⟩, kn⟩ hne F13 N13 nx -
      have ap : Apart I H D M := ⟨hne _ (.head _), hne _ (.tail _ (.head _)), hne _ (.tail _ (.tail _ (.head _))), hDH, hMH, hMD⟩
      obtain ⟨hl, hhp, hin, hmk⟩ := bhp_inv (fin := fin) hpos hc2 hc4 i
      obtain ⟨htm, k, hk, hpl⟩ := hin _ (getD_mem (d := (0, 0, 0)) (i := 0) (by rw [hl]; exact Nat.lt_of_lt_of_le (by decide) hc2))
      replace F13 := fr_kn F13 kn
      replace N13 : News g L h13 (Shp I oI H vs c D ds dc M ms mc (X2 ++ (tb1' ++ tb2'))) := N13
      replace F13 : Fr g L h13 _ := F13
      have hY := tabs_fields hF1.1 hF2.1
      clear hne hTX8 hR hR2 N12 F12
      k_steps
      refine top0 F13 N13 hTX (by omega) ?_
      intro a u1 u2 u3 F14 N14
      obtain ⟨⟨hr, pl, nb⟩, htop⟩ : ∃ t, (bhp cs fin i).getD 0 (0, 0, 0) = t := ⟨_, rfl⟩
      rw [htop] at N14 hpl
      dsimp only at hpl
      subst hpl
      replace N14 : News g L h13 ((a, tupO [.int hr u1, .int (k : Int) u2, .int nb u3]) :: Shp I oI H vs c D ds dc M ms mc (X2 ++ (tb1' ++ tb2'))) := N14
      k_steps
      (rename Fr _ _ _ _ => Fm)
      refine item_tupleT (Fr.tup Fm hft) (by decide) (by decide) rfl rfl ?_
      k_steps
      (rename Fr _ _ _ _ => F15); (rename News _ _ _ _ => N15)
      rename_i T1 _ lT1
      clear lT1
      refine useN (heapreplaceMax (D := H) (ts := bhp cs fin i) (t := bmk fin i) (by omega) (by omega)) hd hu G F15 N15 (fun b hb => by rw [List.mem_singleton.mp hb]; exact .tail _ (.tail _ (.tail _ (.head _)))) ⟨⟨_, _, (N15 _ (.tail _ (.tail _ (.tail _ (.head _))))).1, hTX.are fun p hp => (N15 p (.tail _ (.tail _ (.tail _ (.tail _ (.tail _ (.tail _ (List.mem_append_left _ hp)))))))).1⟩, ⟨_, _, _, _, rfl, (N15 _ (.head _)).1⟩⟩ ?_
      intro r16 h16 tk16 x16 q16
      obtain ⟨vs8', c8', ar, w1, w2, w3, v1, v2, v3, rfl, har, hTX', F16, N16⟩ := rep1 (bmk fin i) N15 (fun p hp => .tail _ hp) ap hTX hTu hY F15 x16 q16
      clear F15 N15 x16 q16 hTX
      rw [htop] at har
      k_steps
      refine appD (X := (T1, trO (bmk fin i) v1 v2 v3) :: X2) F16 N16 ap hTu.cons hY (by rw [hTd.1, tab0_length]; exact Nat.le_trans (Nat.le_of_lt hi) (Nat.le_trans hn (by decide))) ?_
      intro h17 F17 N17
      clear F16 N16
      k_steps
      (rename Fr _ _ _ _ => F18)
      refine get_clk hC F18.keep hk h100 ?_
      intro pa pt pu hpa
      have hpt : IsTup g pa #[.int (cs.getD k (0, 0)).1 pt, .int (cs.getD k (0, 0)).2 pu] := ⟨_, hpa, rfl, _, rfl⟩
      clear hpa
      k_steps
      (rename Fr _ _ _ _ => F19)
      refine item_tupleT (Fr.tup F19 hpt) (by decide) (by decide) rfl rfl ?_
      k_steps
      (rename Fr _ _ _ _ => F20); (rename News _ _ _ _ => N20)
      rename_i T2 _ lT2
      clear lT2
      have hl2 : (sift tgt ((bhp cs fin i).set 0 (bmk fin i)) 0).length = cs.length := by rw [sift_length, List.length_set, hl]
      have hmt : (sift tgt ((bhp cs fin i).set 0 (bmk fin i)) 0).getD 0 (0, 0, 0) = bmk fin i := top_mark ord_tgt (by omega) (by omega) hhp hmk
      have e1 : bhp cs fin (i + 1) = sift tgt ((sift tgt ((bhp cs fin i).set 0 (bmk fin i)) 0).set 0 (hr - (cs.getD k (0, 0)).2, (k : Int), nb - 1)) 0 := by
        show fturn tgt (bmk fin i) (bnx cs) (bhp cs fin i) = _
        unfold fturn
        rw [show (bhp cs fin i).getD 0 Z3 = _ from htop]
        rfl
      refine useN (heapreplaceMax (D := H) (ts := sift tgt ((bhp cs fin i).set 0 (bmk fin i)) 0) (t := (hr - (cs.getD k (0, 0)).2, (k : Int), nb - 1)) (by omega) (by omega)) hd hu G F20 N20 (fun b hb => by rw [List.mem_singleton.mp hb]; exact .tail _ (.tail _ (.head _))) ⟨⟨_, _, (N20 _ (.tail _ (.tail _ (.head _)))).1, hTX'.are fun p hp => (N20 p (.tail _ (.tail _ (.tail _ (.tail _ (.tail _ (List.mem_append_left _ hp))))))).1⟩, ⟨_, _, _, _, rfl, (N20 _ (.head _)).1⟩⟩ ?_
      intro r21 h21 tk21 x21 q21
      obtain ⟨vs9, c9, ar2, w4, w5, w6, v4, v5, v6, rfl, har2, hTX9, F21, N21⟩ := rep1 (hr - (cs.getD k (0, 0)).2, (k : Int), nb - 1) N20 (fun p hp => hp) ap hTX' hTu.cons hY F20 x21 q21
      rw [hmt] at har2
      rw [← e1] at hTX9
      clear F20 N20 x21 q21 hTX' e1 hmt
      k_steps
      refine appMk (X := (T2, trO (hr - (cs.getD k (0, 0)).2, (k : Int), nb - 1) v4 v5 v6) :: (T1, trO (bmk fin i) v1 v2 v3) :: X2) F21 N21 ap hTu.cons.cons hY (by rw [hTm.1, tab0_length]; exact Nat.le_trans (Nat.le_of_lt hi) (Nat.le_trans hn (by decide))) ?_
      intro h22 F22 N22
      clear F21 N21
      k_steps
      exact nx _ _ _ _ F22 N22 ⟨⟨vs9, c9, _, _, _, _, _, rfl, hTX9, by rw [tab0, show (bhp cs fin i).getD 0 Z3 = _ from htop]; exact (hTd.mono fun p hp => .tail _ (.tail _ hp)).snoc (.tail _ (.tail _ har)), by rw [tab0]; exact (hTm.mono fun p hp => .tail _ (.tail _ hp)).snoc (.tail _ har2), hTu.cons.cons⟩, rfl, rfl, rfl, rfl, rfl, trivial⟩
    · rintro m₁ _ h13 tk13 ⟨⟨vs, c, ds, dc, ms, mc, X2, rfl, hTX, hTd, hTm, hTu⟩, kn⟩ F13 N13
      replace F13 := fr_kn0 F13 kn
      replace N13 : News g L h13 _ := N13
      replace F13 : Fr g L h13 _ := F13
      clear hTX8 hR hR2 N12 F12
      k_steps
      obtain ⟨hl, -⟩ := bhp_inv (fin := fin) hpos hc2 hc4 n
      refine sort_place (s := ⟨h13, sg, sd, tk13, so⟩) (vs := vs) G F13 N13 (N13 _ (.head _)).1 (hTX.are fun p hp => (N13 p (.tail _ (.tail _ (.tail _ (List.mem_append_left _ hp))))).1) (by rw [hTX.1]; omega) (by omega) (by omega) (fun v hv a e => .inl (by
        obtain ⟨a', o, e', m⟩ := hTX.ref hv
        rw [e] at e'; cases e'
        exact ⟨o, .tail _ (.tail _ (.tail _ (List.mem_append_left _ m)))⟩)) ?_
      intro S h14 tk14 out oc ls F14 N14 hlt14 hT14 hp14 hw14 hs14
      have hTX14 := TX.back (X := X2) hT14 (fun p hp => (N14 p (.tail _ (.tail _ (.tail _ (.tail _ (List.mem_append_left _ hp)))))).1) (fun v hv => hTX.ref (hs14 v hv))
      clear F13 N13 hlt14 hT14 hs14 hTX
      k_steps
      (rename Fr _ _ _ _ => F15); (rename News _ _ _ _ => N15)
      exact (ret _ _ _ F15.keep (half_end K1 N15 hTu hF1 hF2 hTd hTm hTX14 hp14 hw14)).1
end Mine
end

section
open PySem PySem.W PyProof.Rows PySem.Spec PySem.Calls
set_option Elab.async false
set_option maxRecDepth 100000
set_option maxHeartbeats 800000
namespace Mine
/-- no table, no code: by its data -/
def NoFl (o : Obj) : Prop := ∀ vf, o.data ≠ .fields vf
theorem NoFl.seq {o : Obj} {v : Array Value} {n : Nat} (h : o.data = .seq v n) : NoFl o := fun vf e => by rw [h] at e; cases e
theorem NoFl.cell {o : Obj} {v : Option Value} (h : o.data = .cell v) : NoFl o := fun vf e => by rw [h] at e; cases e
def SeqO (o : Obj) : Prop := ∃ v n, o.data = .seq v n
theorem SeqO.nofl {o : Obj} (h : SeqO o) : NoFl o := let ⟨_, _, e⟩ := h; NoFl.seq e
/-- a cell lies at no list's, tuple's, table's address -/
theorem cell_apart {g h : Heap} {L a : Addr} {o : Obj} {v : Option Value} {news X tb1 tb2 : List (Addr × Obj)} (N : News g L h news) (hm : (a, o) ∈ news) (hd : o.data = .cell v) (sx : ∀ p ∈ X ++ (tb1 ++ tb2), p ∈ news) (hX : ∀ p ∈ X, SeqO p.2) (hT1 : TabLed 86 q91 p91 tb1) (hT2 : TabLed 93 q98 p98 tb2) : ∀ p ∈ X ++ (tb1 ++ tb2), p.1 ≠ a := fun p hp e => by
  have h1 := (N p (sx p hp)).1
  rw [e, (N _ hm).1] at h1
  have e1 := Option.some.inj h1
  dsimp only at e1
  rcases List.mem_append.mp hp with hp | hp
  · obtain ⟨_, _, q⟩ := hX p hp
    rw [← e1, hd] at q; cases q
  · obtain ⟨_, q⟩ := tabs_fields hT1 hT2 p hp
    rw [← e1, hd] at q; cases q
theorem off_tabs {g h : Heap} {L : Addr} {news cl tb1 tb2 : List (Addr × Obj)} (N : News g L h news) (sc : ∀ p ∈ cl, p ∈ news) (st : ∀ p ∈ tb1 ++ tb2, p ∈ news) (hcl : ∀ p ∈ cl, NoFl p.2) (hT1 : TabLed 86 q91 p91 tb1) (hT2 : TabLed 93 q98 p98 tb2) : ∀ p ∈ cl, p.1 ∉ (tb1 ++ tb2).map (·.1) := fun p hp hm => by
  obtain ⟨q, hq, e⟩ := List.mem_map.mp hm
  obtain ⟨vf, hv⟩ := tabs_fields hT1 hT2 q hq
  have h1 := (N q (st q hq)).1
  rw [e, (N p (sc p hp)).1] at h1
  exact hcl p hp vf (by rw [Option.some.inj h1]; exact hv)
/-- behind a half of the film -/
theorem half_led {g h h' : Heap} {L : Addr} {m : Str → Option Value} {cl tb1 tb2 : List (Addr × Obj)} {told marks lf : List T3} {r : Value} (F : Fr g L h m) (N : News g L h (cl ++ (tb1 ++ tb2))) (hcl : ∀ p ∈ cl, NoFl p.2) (hT1 : TabLed 86 q91 p91 tb1) (hT2 : TabLed 93 q98 p98 tb2)
    (x : Ext ((tb1 ++ tb2).map (·.1)) h h') (q : HalfPost told marks lf tb1 tb2 h r h') :
    ∃ Ta D M S X ls tb1' tb2', r = .ref Ta ∧ LX X D told ∧ LX X M marks ∧ LX X S ls ∧ ls.Perm lf ∧ ls.Pairwise (fun a b => a.2.1 ≤ b.2.1) ∧ (∀ p ∈ X, SeqO p.2) ∧ TabLed 86 q91 p91 tb1' ∧ TabLed 93 q98 p98 tb2' ∧
      Fr g L h' m ∧ News g L h' ((Ta, tupO [.ref D, .ref M, .ref S]) :: (cl ++ (X ++ (tb1' ++ tb2')))) := by
  obtain ⟨Ta, D, M, S, X, ls, rfl, hTa, hD, hM, hS, hp, hw, hX, ⟨tb1', n1⟩, ⟨tb2', n2⟩⟩ := q
  have st : ∀ p ∈ tb1 ++ tb2, p ∈ cl ++ (tb1 ++ tb2) := fun p hp => List.mem_append_right _ hp
  have NC : News g L h' cl := news_ext (news_sub N fun p hp => List.mem_append_left _ hp) x (off_tabs N (fun p hp => List.mem_append_left _ hp) st hcl hT1 hT2)
  have NT := tabs_both F N (fun p hp => st p (List.mem_append_left _ hp)) (fun p hp => st p (List.mem_append_right _ hp)) hT1 hT2 n1 n2
  have NX : ∀ p ∈ X, h'.get? p.1 = some p.2 ∧ p.1 ≠ L ∧ g.get? p.1 = none := fun p hp => ⟨(hX p hp).1, freshL F (hX p hp).2.1, fresh0 F (hX p hp).2.1⟩
  refine ⟨Ta, D, M, S, X, ls, tb1', tb2', rfl, hD, hM, hS, hp, hw, fun p hp => (hX p hp).2.2, n1.1, n2.1, fr_ext F x (led_notL N st) (led_none N st), fun p hp => ?_⟩
  rcases List.mem_cons.mp hp with rfl | hp
  · exact NX _ hTa
  · rcases List.mem_append.mp hp with hp | hp
    · exact NC p hp
    rcases List.mem_append.mp hp with hp | hp
    · exact NX p hp
    · exact NT p hp
theorem TabLed.grown {P : Addr} {q : Str} {pos : Pos} {tb : List (Addr × Obj)} {h : Heap} (x : TabLed P q pos tb) (g : ∀ p ∈ tb, h.get? p.1 = some p.2) : GrownAt P h := by
  rcases x with rfl | ⟨c', oc, vs, t, rfl, _⟩
  · exact ⟨_, g _ (.head _)⟩
  · exact ⟨_, g _ (.tail _ (.head _))⟩
theorem ghost_seer {h : Heap} {tabs : List (Addr × Addr)} (hT : TabsAt tabs h) (S : h.NoSeer) : (ghostOf h tabs).NoSeer where
  statics := let ⟨m, a, b⟩ := S.statics; ⟨m, ghost_ns hT a, b⟩
  mods := let ⟨m, a, b⟩ := S.mods; ⟨m, ghost_ns hT a, b⟩
  imp := let ⟨m, a, b⟩ := S.imp; ⟨m, ghost_ns hT a, b⟩
  main := let ⟨m, bm, ob, a, b, c, d, e⟩ := S.main; ⟨m, bm, ob, ghost_ns hT a, b, ghost_get hT c (fun q => by rw [q] at d; cases d), d, e⟩
theorem TX.rev {X : List (Addr × Obj)} {vs : List Value} {ts : List T3} (x : TX X vs ts) : TX X vs.reverse ts.reverse := by
  refine ⟨by rw [List.length_reverse, List.length_reverse, x.1], fun i v t h1 h2 => ?_⟩
  have hi : i < vs.length := by
    have := (List.getElem?_eq_some_iff.mp h1).1
    rwa [List.length_reverse] at this
  rw [List.getElem?_reverse hi] at h1
  rw [List.getElem?_reverse (by rw [← x.1]; exact hi), ← x.1] at h2
  exact x.2 _ v t h1 h2
section
variable {w : World} {A : Around} {E : Value → Shared → Prop} {h : Heap} {sg : Array GenState} {sd : Drawn} {t0 : Nat} {so : OsState} {g : Heap} {L D : Addr} {X news : List (Addr × Obj)} {vs : List Value} {c : Nat} {ts : List T3}
/-- the last of a list -/
theorem lastT {value slice : Expr} {Q : Value → Shared → Prop} {t : Tok} (N : News g L h news) (hm : (D, W.listOf (List.toArray vs) c) ∈ news) (hx : TX X vs ts) (h0 : 0 < ts.length)
    (k : ∀ a u1 u2 u3, (a, trO (ts.getD (ts.length - 1) (0, 0, 0)) u1 u2 u3) ∈ X → Q (.ref a) ⟨h, sg, sd, t0, so⟩)
    (hs : subscripted slice false (.ref D) (.int (-1) t) = operate [.ref D, .int (-1) t] (getItem (.ref D) (.int (-1) t)) := by with_unfolding_all rfl) (hg : ∀ r, letTemporaryGo value (.ref D) r = pure () := by intro _; with_unfolding_all rfl) :
    wpAny (model PR w) A (subscriptTail value slice (.ref D) (.int (-1) t)) Q E ⟨h, sg, sd, t0, so⟩ := by
  obtain ⟨a, u1, u2, u3, e, ha⟩ := hx.get (i := ts.length - 1) (by omega)
  have hl := hx.1
  exact kim_back (s := ⟨h, sg, sd, t0, so⟩) N hm rfl rfl (by decide) (by omega) (by decide) (x := .ref a) (by rw [hl, show (-1 + (ts.length : Int)).toNat = ts.length - 1 by omega]; exact e) (k a u1 u2 u3 ha) hs hg
end
end Mine
end

section
open PySem PySem.W PyProof.Rows PySem.Spec PySem.Calls
set_option Elab.async false
set_option maxRecDepth 100000
set_option maxHeartbeats 800000
set_option pp.deepTerms false
set_option pp.deepTerms.threshold 3
set_option pp.maxSteps 6000
namespace Mine
local macro_rules | `(tactic| walk_at "storeName") => `(tactic| (k_here; k_dflt (refine' storeX_P ?F ?N ?_ ?a ?b; (case F => k_asm); (case N => k_asm); (case a => rfl); (case b => rfl); k_whole; intro h' tk' F' N'; (try k_sweep))))
local macro_rules | `(tactic| walk_at "subscriptTail") => `(tactic| refine Stop.go ?_)
local macro_rules | `(tactic| walk_at "call ref") => `(tactic| refine Stop.go ?_)
local macro_rules | `(tactic| walk_at "call type:range") => `(tactic| refine Stop.go ?_)
local macro_rules | `(tactic| walk_at "eval ListComp") => `(tactic| refine Stop.go ?_)
local macro_rules | `(tactic| walk_at "compareOp NotEq") => `(tactic| refine Stop.go ?_)
local macro_rules | `(tactic| walk_at "compareOp Eq") => `(tactic| refine Stop.go ?_)
theorem film {w : World} {loose : List Str} {mean : ExcName → Option Value} {mg mb : Str → Option Value} {C : Addr} {cs : List (Int × Int)} {mo : Int} {n : Nat} {fin : T3} {t1 t2 : Tok} {tb1 tb2 : List (Addr × Obj)} (hpos : ∀ p ∈ cs, 0 < p.2) (hc2 : 2 ≤ cs.length) (hc4 : cs.length ≤ 4) (hn : n ≤ 100) (hn0 : 0 < n)
    (hbit : ∀ p ∈ cs, Builtin.Int.intBits (p.1 - mo) ≤ 1900000 ∧ Builtin.Int.intBits p.2 ≤ 1900000) (hbit2 : ∀ i, i < cs.length → Builtin.Int.intBits (bndN fin i - (cs.getD i (0, 0)).1) ≤ 1900000 ∧ Builtin.Int.intBits (cs.getD i (0, 0)).2 ≤ 1900000)
    (hfin : (ftold cs mo n).getD (n - 1) (0, 0, 0) = fin) (hst : ∀ k, k < n → StrokeOk cs mo k ((ftold cs mo n).getD k (0, 0, 0))) (hrev : btold cs fin n = (ftold cs mo n).reverse)
    (hlf : ∀ bs as : List T3, bs.Perm (fhp cs mo n) → bs.Pairwise (fun a b => a.2.1 ≤ b.2.1) → as.Perm (bhp cs fin n) → as.Pairwise (fun a b => a.2.1 ≤ b.2.1) → ∀ k, k < cs.length → LeftOk cs mo fin bs as k)
    (hT1 : TabLed 86 q91 p91 tb1) (hT2 : TabLed 93 q98 p98 tb2) :
    Meets w loose mean mg mb 178 [.ref C, .int mo t1, .int (n : Int) t2] 460 450 ((tb1 ++ tb2).map (·.1)) (fun h => Clk h C cs ∧ ∀ p ∈ tb1 ++ tb2, h.get? p.1 = some p.2) (fun _ r h => r = .bool true ∧ GrownAt 86 h ∧ GrownAt 93 h) := by
  have Z : (hd.heap_39 w.params).In { objs := #[] } → Challenge.rw_mq0294_01.foot = 11 → True := fun _ _ => trivial
  revert Z; k_fill; intro _
  refine enterCN (f := 178) (args := [.ref C, .int mo t1, .int (n : Int) t2]) (d := 460) (u := 450) (binds := [("clocks", .ref C), ("moment", .int mo t1), ("count", .int (n : Int) t2)]) ((tb1 ++ tb2).map (·.1)) (by k_is) (by k_is) rfl rfl (by decide +kernel) rfl rfl rfl (by omega) ?_
  intro dp un gd outer sh sg sd so Q g h₁ L tk cells hd hu hpre G K1 K2 K3 hlt K4 F N Y ret
  obtain ⟨hC0, hpre⟩ := hpre
  have hC : Clk g C cs := hC0.off (clk_off (cs := cs) (C := C) K1 hpre hT1 hT2)
  have NT : News g L h₁ (tb1 ++ tb2) := fun p hp => ⟨K4 _ _ (hpre p hp), Nat.ne_of_lt (hlt _ _ (hpre p hp)), K3 _ (List.mem_map_of_mem hp)⟩
  have X := G.X
  have T := G.T
  have h100 : cs.length ≤ 100 := Nat.le_trans hc4 (by decide)
  k_cells Y
  (try dsimp only)
  (try k_fold)
  k_steps
  rename_i oF oM dF dM
  replace dF : oF.data = .cell none := dF
  replace dM : oM.data = .cell (some (.int mo t1)) := dM
  have N0 : News g L h₁ (_ ++ (tb1 ++ tb2)) := fun p hp => (List.mem_append.mp hp).elim (N p) (NT p)
  clear N NT
  refine useN (forth (n := n) hpos hc2 hc4 hn hbit hT1 hT2) hd hu G F N0 (fun b hb => by rw [List.map_append]; exact List.mem_append_right _ hb) ⟨hC.keeps F.keep, led_get N0 fun p hp => List.mem_append_right _ hp⟩ ?_
  intro v1 h2 tk2 x2 q2
  obtain ⟨Ta, D, M, S, X1, ls, ta1, ta2, rfl, hD, hM, hS, hp1, hw1, hX1, hA1, hA2, F2, N2⟩ := half_led F N0 (fun p hp => by
    simp only [List.mem_cons, List.not_mem_nil, or_false] at hp
    rcases hp with rfl | rfl
    · exact NoFl.cell dF
    · exact NoFl.cell dM) hT1 hT2 x2 q2
  clear N0 F x2 q2
  k_steps
  (rename Fr _ _ _ _ => F3)
  refine LCg.ListComp_U F3 (by with_unfolding_all rfl) (by decide) rfl (by decide) rfl ?_
  k_steps
  (rename News _ _ _ _ => N3)
  have N4 : News g L _ ((L + 1 + 1, oF) :: (L + 1, oM) :: (X1 ++ (ta1 ++ ta2))) := news_sub N3 fun p hp => .tail _ hp
  refine range1_rows F3 N4 ?_
  intro h5 tk5 r1 r2 r3 hR F5 N5 _
  clear N3 N4
  refine LCg.CompSrc.range rfl F5 N5 hR (small_range hn) (by rw [rangeSize_nat]) (by rw [sizeLine_eq]; omega) ?_
  intro g6
  refine comp_inv (n := n) (fun i ys news => ∃ tp, news = (L + 1 + 1, oF) :: (L + 1, oM) :: tp ∧ TX tp ys (tab0 (fmk mo) i) ∧ ∀ p ∈ X1 ++ (ta1 ++ ta2), p ∈ tp) ?_ ?_ _ 0 [] _ (by omega) ⟨_, rfl, TX.nil, fun p hp => hp⟩
  · rintro i ys _ v I oI C oC D m₂ h6 tk6 E' hi ⟨tp, rfl, hys, hsb⟩ ⟨tv, rfl⟩ hCo hm2 F6 N6 o1 o2
    k_steps
    (rename Fr _ _ _ _ => F7); (rename News _ _ _ _ => N7)
    rename_i l7
    rw [Int.zero_add] at N7
    exact compEnd_tup F7 N7 ⟨Nat.ne_of_gt l7.1, Nat.ne_of_gt l7.2.1, Nat.ne_of_gt l7.2.2.1⟩ o1 ⟨_, rfl, by rw [tab0]; exact (hys.mono fun p hp => .tail _ hp).snoc (t := fmk mo i) (.head _), fun p hp => .tail _ (hsb p hp)⟩
  · rintro ys _ ⟨tp, rfl, hys, hsb⟩ D' h6 tk6 F6 N6 o1
    clear hR F3 F5 N5 o1
    k_steps
    refine ne_ts (s := ⟨h6, sg, sd, tk6, so⟩) (hM.lts fun p hp => (N6 p (.tail _ (.tail _ (.tail _ (hsb p (List.mem_append_left _ hp)))))).1) ⟨_, _, (N6 _ (.head _)).1, hys.are fun p hp => (N6 p (.tail _ (.tail _ (.tail _ hp)))).1⟩ (by show un + 64 < cLine; omega) ?_
    rw [decide_eq_true rfl, Bool.not_true]
    have N7 : News g L h6 ((L + 1 + 1, oF) :: (L + 1, oM) :: (X1 ++ (ta1 ++ ta2))) := news_sub N6 fun p hp => by
      rcases List.mem_cons.mp hp with rfl | hp
      · exact .tail _ (.head _)
      rcases List.mem_cons.mp hp with rfl | hp
      · exact .tail _ (.tail _ (.head _))
      · exact .tail _ (.tail _ (.tail _ (hsb p hp)))
    clear N6 hys hsb
    k_steps
    have hlt1 : (ftold cs mo n).length = n := tab0_length n
    refine useN (strokes (ts := ftold cs mo n) (t1 := _) hpos h100 (by rw [hlt1]; exact hn) (fun k hk => hst k (by rw [← hlt1]; exact hk))) hd hu G F6 N7 (fun b hb => nomatch hb) ⟨hC.keeps F6.keep, hD.lts fun p hp => (N7 p (.tail _ (.tail _ (List.mem_append_left _ hp)))).1⟩ ?_
    rintro _ h8 tk8 x8 rfl
    have F8 := fr_ext0 F6 x8
    have N8 := news_ext0 N7 x8
    clear F6 N7 x8
    k_steps
    obtain ⟨dvs, dc, hDm, hDt⟩ := hD
    refine lastT N8 (.tail _ (.tail _ (List.mem_append_left _ hDm))) hDt (by rw [hlt1]; exact hn0) ?_
    rw [hlt1, hfin]
    intro fa u1 u2 u3 hfm
    k_steps
    refine storeX_C (s := ⟨h8, sg, sd, _, so⟩) F8 N8 rfl (UpdF.head fun p hp => ?_) dF ?_ rfl rfl
    · rcases List.mem_cons.mp hp with rfl | hp
      · exact fun e => absurd e (Nat.ne_of_lt (Nat.lt_succ_self _))
      · exact cell_apart N8 (.head _) dF (fun p hp => .tail _ (.tail _ hp)) hX1 hA1 hA2 p hp
    intro h9 oG F9 N9 dG
    clear F8 N8 dF
    k_steps
    have N10 : News g L h9 (((L + 1 + 1, oG) :: (L + 1, oM) :: X1) ++ (ta1 ++ ta2)) := N9
    have hff := fun p hp => N10 p (List.mem_append_left _ (.tail _ (.tail _ hp)))
    refine useN (back (fv := .ref fa) (fin := fin) (n := n) hpos hc2 hc4 hn hbit2 hA1 hA2) hd hu G F9 N10 (fun b hb => by rw [List.map_append]; exact List.mem_append_right _ hb) ⟨hC.keeps F9.keep, ⟨fa, u1, u2, u3, rfl, (hff _ hfm).1⟩, led_get N10 fun p hp => List.mem_append_right _ hp⟩ ?_
    intro v1 h11 tk11 x11 q11
    obtain ⟨Ta2, D2, M2, S2, X2, ls2, tc1, tc2, rfl, hD2, hM2, hS2, hp2, hw2, hX2, hB1, hB2, F11, N11⟩ := half_led F9 N10 (fun p hp => by
      rcases List.mem_cons.mp hp with rfl | hp
      · exact NoFl.cell dG
      rcases List.mem_cons.mp hp with rfl | hp
      · exact NoFl.cell dM
      · exact (hX1 p hp).nofl) hA1 hA2 x11 q11
    clear F9 N9 N10 hff x11 q11
    k_steps
    (rename Fr _ _ _ _ => F12); (rename News _ _ _ _ => N12)
    have N13 : News g L _ ((L + 1 + 1, oG) :: (L + 1, oM) :: (X1 ++ (X2 ++ (tc1 ++ tc2)))) := news_sub N12 fun p hp => .tail _ hp
    clear N12
    refine LCg.ListComp_U F12 (by with_unfolding_all rfl) (by decide) rfl (by decide) rfl ?_
    k_steps
    refine range1_rows F12 N13 ?_
    intro h14 tk14 r4 r5 r6 hR2 F14 N14 _
    refine LCg.CompSrc.range rfl F14 N14 hR2 (small_range hn) (by rw [rangeSize_nat]) (by rw [sizeLine_eq]; omega) ?_
    intro g15
    refine comp_inv (n := n) (fun i ys news => ∃ tp, news = (L + 1 + 1, oG) :: (L + 1, oM) :: tp ∧ TX tp ys (tab0 (bmk fin) i) ∧ ∀ p ∈ X1 ++ (X2 ++ (tc1 ++ tc2)), p ∈ tp) ?_ ?_ _ 0 [] _ (by omega) ⟨_, rfl, TX.nil, fun p hp => hp⟩
    · rintro i ys _ v I oI C oC D m₂ h6 tk6 E' hi ⟨tp, rfl, hys, hsb⟩ ⟨tv, rfl⟩ hCo hm2 F6 N6 o1 o2
      k_steps
      refine item_tupleT (show IsTup h6 fa #[.int fin.1 u1, .int fin.2.1 u2, .int fin.2.2 u3] from ⟨_, (N6 _ (.tail _ (.tail _ (.tail _ (.tail _ (.tail _ (hsb _ (List.mem_append_left _ hfm)))))))).1, rfl, _, rfl⟩) (by decide) (by decide) rfl rfl ?_
      k_steps
      (rename Fr _ _ _ _ => F7); (rename News _ _ _ _ => N7)
      rename_i l7
      rw [Int.zero_add] at N7
      exact compEnd_tup F7 N7 ⟨Nat.ne_of_gt l7.1, Nat.ne_of_gt l7.2.1, Nat.ne_of_gt l7.2.2.1⟩ o1 ⟨_, rfl, by rw [tab0]; exact (hys.mono fun p hp => .tail _ hp).snoc (t := bmk fin i) (.head _), fun p hp => .tail _ (hsb p hp)⟩
    · rintro ys _ ⟨tp, rfl, hys, hsb⟩ D' h6 tk6 F6 N6 o1
      clear hR2 F12 N13 F14 N14 o1
      k_steps
      refine ne_ts (s := ⟨h6, sg, sd, tk6, so⟩) (hM2.lts fun p hp => (N6 p (.tail _ (.tail _ (.tail _ (hsb p (List.mem_append_right _ (List.mem_append_left _ hp))))))).1) ⟨_, _, (N6 _ (.head _)).1, hys.are fun p hp => (N6 p (.tail _ (.tail _ (.tail _ hp)))).1⟩ (by show un + 64 < cLine; omega) ?_
      rw [decide_eq_true rfl, Bool.not_true]
      have N7 : News g L h6 ((L + 1 + 1, oG) :: (L + 1, oM) :: (D, W.listOf dvs.toArray dc) :: (X1 ++ (X2 ++ (tc1 ++ tc2)))) := news_sub N6 fun p hp => by
        rcases List.mem_cons.mp hp with rfl | hp
        · exact .tail _ (.head _)
        rcases List.mem_cons.mp hp with rfl | hp
        · exact .tail _ (.tail _ (.head _))
        rcases List.mem_cons.mp hp with rfl | hp
        · exact .tail _ (.tail _ (.tail _ (hsb _ (List.mem_append_left _ hDm))))
        · exact .tail _ (.tail _ (.tail _ (hsb p hp)))
      clear N6 hys hsb
      k_steps
      refine krv_lit (s := ⟨h6, sg, sd, _, so⟩) (its := dvs.toArray) F6 N7 ⟨_, (N7 _ (.tail _ (.tail _ (.head _)))).1, rfl, _, rfl⟩ (IsPart.int _ _) rfl ?_ (by with_unfolding_all rfl) (by kmk_pure) (by rw [List.size_toArray, hDt.1, hlt1, sizeLine_eq]; omega)
      intro R h16 F16 N16 _
      clear F6 N7
      k_steps
      have hg1 := fun p hp => (N16 p (.tail _ (.tail _ (.tail _ (.tail _ (List.mem_append_left _ hp)))))).1
      have hg2 := fun p hp => (N16 p (.tail _ (.tail _ (.tail _ (.tail _ (List.mem_append_right _ (List.mem_append_left _ hp))))))).1
      refine eq_ts (s := ⟨h16, sg, sd, _, so⟩) (hD2.lts hg2) ⟨_, _, (N16 _ (.head _)).1, hDt.rev.are hg1⟩ (by show un + 64 < cLine; omega) ?_
      rw [hrev, decide_eq_true rfl]
      k_steps
      refine useN (left (fv := .ref fa) (fin := fin) (bs := ls) (as := ls2) hpos h100 (hp1.length_eq.trans (fhp_inv hpos hc2 hc4 n).1) (hp2.length_eq.trans (bhp_inv hpos hc2 hc4 n).1) (hlf ls ls2 hp1 hw1 hp2 hw2)) hd hu G F16 N16 (fun b hb => nomatch hb) ⟨hC.keeps F16.keep, ⟨fa, u1, u2, u3, rfl, hg1 _ hfm⟩, hS.lts hg1, hS2.lts hg2⟩ ?_
      rintro _ h17 tk17 x17 rfl
      have N17 := news_ext0 N16 x17
      exact (ret _ _ _ (fr_ext0 F16 x17).keep ⟨rfl, hB1.grown fun p hp => (N17 p (.tail _ (.tail _ (.tail _ (.tail _ (List.mem_append_right _ (List.mem_append_right _ (List.mem_append_left _ hp)))))))).1, hB2.grown fun p hp => (N17 p (.tail _ (.tail _ (.tail _ (.tail _ (List.mem_append_right _ (List.mem_append_right _ (List.mem_append_right _ hp)))))))).1⟩).1
end Mine
end

section
open PySem PySem.W PyProof.Rows
set_option Elab.async false
set_option maxHeartbeats 800000
namespace Mine
theorem tlt_iff {x y : T3} : tlt x y = true ↔ x.1 < y.1 ∨ (x.1 = y.1 ∧ (x.2.1 < y.2.1 ∨ (x.2.1 = y.2.1 ∧ x.2.2 < y.2.2))) := by
  unfold tlt
  split
  · rename_i h
    split
    · rename_i h2
      simp only [decide_eq_true_eq]; omega
    · simp only [decide_eq_true_eq]; omega
  · simp only [decide_eq_true_eq]; omega
theorem tab0_congr {f f' : Nat → T3} : ∀ {m : Nat}, (∀ i, i < m → f i = f' i) → tab0 f m = tab0 f' m
  | 0, _ => rfl
  | m + 1, h => by rw [tab0, tab0, tab0_congr fun i hi => h i (by omega), h m (by omega)]
theorem tab0_swap {f f' : Nat → T3} : ∀ {m p : Nat}, p < m → (∀ i, i < m → i ≠ p → f i = f' i) → ∃ rest, (tab0 f m).Perm (f p :: rest) ∧ (tab0 f' m).Perm (f' p :: rest)
  | m + 1, p, hp, h => by
    by_cases e : p = m
    · subst e
      refine ⟨tab0 f p, List.perm_append_singleton _ _, ?_⟩
      rw [tab0_congr fun i hi => h i (by omega) (by omega)]
      exact List.perm_append_singleton _ _
    · obtain ⟨rest, a, b⟩ := tab0_swap (m := m) (p := p) (by omega) fun i hi => h i (by omega)
      refine ⟨rest ++ [f m], a.append_right _, ?_⟩
      rw [h m (by omega) fun q => e q.symm]
      exact b.append_right _
theorem perm_step {f f' : Nat → T3} {m p : Nat} {l : List T3} (h : (f p :: l).Perm (tab0 f m)) (hp : p < m) (ag : ∀ i, i < m → i ≠ p → f i = f' i) : (f' p :: l).Perm (tab0 f' m) := by
  obtain ⟨rest, a, b⟩ := tab0_swap hp ag
  exact (List.Perm.cons _ (List.Perm.cons_inv (h.trans a))).trans b.symm
theorem tab0_get {f : Nat → T3} : ∀ {m i : Nat}, i < m → (tab0 f m).getD i (0, 0, 0) = f i
  | m + 1, i, h => by
    have hl := tab0_length (f := f) m
    rw [tab0, List.getD_eq_getElem?_getD]
    by_cases e : i < m
    · rw [List.getElem?_append_left (by omega), ← List.getD_eq_getElem?_getD, tab0_get e]
    · rw [List.getElem?_append_right (by omega), hl, show i - m = 0 by omega, show i = m by omega]; rfl
/-- stroke number k of clock i -/
def pt (cs : List (Int × Int)) (i : Nat) (k : Int) : T3 := ((cs.getD i (0, 0)).1 + k * (cs.getD i (0, 0)).2, (i : Int), k)
/-- the number of each clock's next stroke, ahead of turn t -/
def av (cs : List (Int × Int)) (mo : Int) : Nat → Nat → Int
  | 0, i => -(((cs.getD i (0, 0)).1 - mo) / (cs.getD i (0, 0)).2)
  | t + 1, i => if (i : Int) = ((fhp cs mo t).getD 0 Z3).2.1 then av cs mo t i + 1 else av cs mo t i
abbrev pav (cs : List (Int × Int)) (mo : Int) (t i : Nat) : T3 := pt cs i (av cs mo t i)
theorem fst0_pt {cs : List (Int × Int)} {mo : Int} {i : Nat} : fst0 cs mo i = pav cs mo 0 i := by
  unfold fst0 pav pt av
  have h := Int.emod_add_mul_ediv ((cs.getD i (0, 0)).1 - mo) (cs.getD i (0, 0)).2
  have e : -(((cs.getD i (0, 0)).1 - mo) / (cs.getD i (0, 0)).2) * (cs.getD i (0, 0)).2 = -((cs.getD i (0, 0)).2 * (((cs.getD i (0, 0)).1 - mo) / (cs.getD i (0, 0)).2)) := by
    rw [Int.neg_mul, Int.mul_comm]
  rw [e]
  refine Prod.ext ?_ rfl
  show mo + _ = _
  omega
theorem pos_at {cs : List (Int × Int)} (hpos : ∀ p ∈ cs, 0 < p.2) {i : Nat} (hi : i < cs.length) : 0 < (cs.getD i (0, 0)).2 := hpos _ (getD_mem hi)
theorem succ_mul' (k d : Int) : (k + 1) * d = k * d + d := by rw [Int.add_mul, Int.one_mul]
theorem pred_mul' (k d : Int) : (k - 1) * d = k * d - d := by rw [Int.sub_mul, Int.one_mul]
structure FI (cs : List (Int × Int)) (mo : Int) (t : Nat) : Prop where
  perm : (fhp cs mo t).Perm (tab0 (pav cs mo t) cs.length)
  low : ∀ i j, i < cs.length → j < cs.length → tlt (pt cs i (av cs mo t i - 1)) (pav cs mo t j) = true
structure TopAt (cs : List (Int × Int)) (mo : Int) (t p : Nat) : Prop where
  hp : p < cs.length
  top : (fhp cs mo t).getD 0 Z3 = pav cs mo t p
  least : ∀ j, j < cs.length → j ≠ p → tlt (pav cs mo t p) (pav cs mo t j) = true
  here : av cs mo (t + 1) p = av cs mo t p + 1
  there : ∀ i, i ≠ p → av cs mo (t + 1) i = av cs mo t i
section
variable {cs : List (Int × Int)} {mo : Int} (hpos : ∀ p ∈ cs, 0 < p.2) (h2 : 2 ≤ cs.length) (h4 : cs.length ≤ 4)
include hpos h2 h4
theorem top_at {t : Nat} (I : FI cs mo t) : ∃ p, TopAt cs mo t p := by
  obtain ⟨hl, hh, hin, hmk⟩ := fhp_inv (mo := mo) hpos h2 h4 t
  obtain ⟨p, hp, e⟩ := tab0_mem (I.perm.mem_iff.mp (getD_mem (d := Z3) (l := fhp cs mo t) (i := 0) (by omega)))
  have e3 : ((fhp cs mo t).getD 0 Z3).2.1 = (p : Int) := by rw [e]; rfl
  refine ⟨p, hp, e, fun j hj hne => ?_, ?_, fun i hi => ?_⟩
  · have hm : pav cs mo t j ∈ fhp cs mo t := I.perm.mem_iff.mpr (by
      have := getD_mem (d := (0, 0, 0)) (l := tab0 (pav cs mo t) cs.length) (i := j) (by rw [tab0_length]; exact hj)
      rwa [tab0_get hj] at this)
    have hle := top_least ord_tlt (by omega) (by omega) hh _ hm
    rw [show (fhp cs mo t).getD 0 (0, 0, 0) = _ from e] at hle
    have hne' : ¬ tlt (pav cs mo t j) (pav cs mo t p) = true := by rw [hle]; exact Bool.false_ne_true
    rw [tlt_iff] at hne' ⊢
    have e1 : (pav cs mo t j).2.1 = (j : Int) := rfl
    have e2 : (pav cs mo t p).2.1 = (p : Int) := rfl
    rw [e1, e2] at hne' ⊢
    omega
  · show (if (p : Int) = ((fhp cs mo t).getD 0 Z3).2.1 then _ else _) = _
    rw [if_pos e3.symm]
  · show (if (i : Int) = ((fhp cs mo t).getD 0 Z3).2.1 then _ else _) = _
    rw [if_neg (by rw [e3]; omega)]
theorem fi_zero : FI cs mo 0 := by
  have l0 := tab0_length (f := fst0 cs mo) cs.length
  obtain ⟨a, b⟩ := hfy_ok ord_tlt (ts := tab0 (fst0 cs mo) cs.length) (by omega) (by omega)
  refine ⟨?_, fun i j hi hj => ?_⟩
  · rw [← tab0_congr (f := fst0 cs mo) fun i _ => fst0_pt]; exact b
  · have hin := (fhp_inv (mo := mo) hpos h2 h4 0).2.2.1
    have q : FIn cs mo (pav cs mo 0 j) := hin _ (b.mem_iff.mpr (by
      have := getD_mem (d := (0, 0, 0)) (l := tab0 (fst0 cs mo) cs.length) (i := j) (by omega)
      rwa [tab0_get hj, fst0_pt] at this))
    have hd := pos_at hpos hi
    have h := Int.emod_add_mul_ediv ((cs.getD i (0, 0)).1 - mo) (cs.getD i (0, 0)).2
    have hlt := Int.emod_lt_of_pos ((cs.getD i (0, 0)).1 - mo) hd
    have e : (pt cs i (av cs mo 0 i - 1)).1 < mo := by
      show (cs.getD i (0, 0)).1 + (-(((cs.getD i (0, 0)).1 - mo) / (cs.getD i (0, 0)).2) - 1) * (cs.getD i (0, 0)).2 < mo
      rw [pred_mul', Int.neg_mul, Int.mul_comm]
      omega
    rw [tlt_iff]
    have := q.1
    omega
theorem fi_succ {t : Nat} (I : FI cs mo t) : FI cs mo (t + 1) := by
  obtain ⟨hl, hh, hin, hmk⟩ := fhp_inv (mo := mo) hpos h2 h4 t
  obtain ⟨p, P⟩ := top_at hpos h2 h4 I
  have hd := pos_at hpos P.hp
  have hnx : fnx cs (pav cs mo t p) = pav cs mo (t + 1) p := by
    unfold fnx pav pt
    rw [P.here, succ_mul']
    refine Prod.ext ?_ rfl
    show _ + _ + (cs.getD (p : Int).toNat (0, 0)).2 = _
    rw [Int.toNat_natCast]; omega
  have up : tlt (pav cs mo t p) (pav cs mo (t + 1) p) = true := by
    rw [← hnx, tlt_iff]
    left
    show _ < _ + (cs.getD (p : Int).toNat (0, 0)).2
    rw [Int.toNat_natCast]; omega
  refine ⟨?_, fun i j hi hj => ?_⟩
  · obtain ⟨_, _, e⟩ := turn_ok ord_tlt (nx := fnx cs) (by omega) (by omega) hh hmk
    rw [P.top, hnx] at e
    refine e.trans (perm_step (f := pav cs mo t) ?_ P.hp fun i _ hne => by unfold pav; rw [P.there i hne])
    rw [← P.top, ← head_tail (by omega)]
    exact I.perm
  · have l1 : tlt (pt cs i (av cs mo (t + 1) i - 1)) (pav cs mo t j) = true ∨ (i = p ∧ j = p) := by
      by_cases e : i = p
      · by_cases e' : j = p
        · exact .inr ⟨e, e'⟩
        · left
          rw [e, P.here, show av cs mo t p + 1 - 1 = av cs mo t p by omega]
          exact P.least j hj e'
      · left
        rw [P.there i e]
        exact I.low i j hi hj
    by_cases e' : j = p
    · rw [e'] at l1 ⊢
      rcases l1 with l1 | ⟨rfl, _⟩
      · rw [tlt_iff] at l1 up ⊢; omega
      · rw [P.here, show av cs mo t i + 1 - 1 = av cs mo t i by omega]
        exact up
    · rcases l1 with l1 | ⟨_, e⟩
      · rw [show pav cs mo (t + 1) j = pav cs mo t j by unfold pav; rw [P.there j e']]; exact l1
      · exact absurd e e'
theorem fi_all : ∀ t, FI cs mo t
  | 0 => fi_zero hpos h2 h4
  | t + 1 => fi_succ hpos h2 h4 (fi_all t)
end
end Mine
end

section
open PySem PySem.W PyProof.Rows
set_option Elab.async false
set_option maxHeartbeats 800000
namespace Mine
theorem div_is {x d k : Int} (hd : 0 < d) (h1 : k * d ≤ x) (h2 : x < k * d + d) : x / d = k := by
  rw [Int.mul_comm] at h1 h2
  exact ((Int.ediv_emod_unique hd (a := x) (q := k) (r := x - d * k)).mpr ⟨by omega, by omega, by omega⟩).1
theorem fdiv_of {x d k : Int} (hd : 0 < d) (h1 : k * d ≤ x) (h2 : x < k * d + d) : x.fdiv d = k := by
  rw [Int.fdiv_eq_ediv_of_nonneg _ (Int.le_of_lt hd)]; exact div_is hd h1 h2
def sumD (cs : List (Int × Int)) (mo : Int) (t : Nat) : Nat → Int
  | 0 => 0
  | k + 1 => sumD cs mo t k + (av cs mo t k - av cs mo 0 k)
theorem sumD_zero {cs : List (Int × Int)} {mo : Int} : ∀ k, sumD cs mo 0 k = 0
  | 0 => rfl
  | k + 1 => by rw [sumD, sumD_zero k]; omega
theorem sumD_succ {cs : List (Int × Int)} {mo : Int} {t p : Nat} (P : TopAt cs mo t p) : ∀ k, sumD cs mo (t + 1) k = sumD cs mo t k + if p < k then 1 else 0
  | 0 => by rw [if_neg (Nat.not_lt_zero _)]; rfl
  | k + 1 => by
    rw [sumD, sumD, sumD_succ P k]
    by_cases e : k = p
    · rw [e, P.here, if_neg (Nat.lt_irrefl _), if_pos (Nat.lt_succ_self _)]; omega
    · rw [P.there k e]
      by_cases h : p < k
      · rw [if_pos h, if_pos (by omega)]; omega
      · rw [if_neg h, if_neg (by omega)]; omega
theorem tab0_map {f : Nat → T3} : ∀ n, tab0 f n = (List.range n).map f
  | 0 => rfl
  | n + 1 => by rw [tab0, tab0_map n, List.range_succ, List.map_append]; rfl
theorem tab0_rev {f g : Nat → T3} {n : Nat} (h : ∀ t, t < n → g t = f (n - 1 - t)) : tab0 g n = (tab0 f n).reverse := by
  rw [tab0_map, tab0_map, ← List.map_reverse, ← krv_range, List.map_map]
  exact List.map_congr_left fun t ht => h t (List.mem_range.mp ht)
theorem tab0_sorted {f : Nat → T3} {m : Nat} (hf : ∀ i, (f i).2.1 = (i : Int)) {ls : List T3} (hp : ls.Perm (tab0 f m)) (hw : ls.Pairwise (fun a b => a.2.1 ≤ b.2.1)) : ls = tab0 f m := by
  refine List.Perm.eq_of_pairwise (le := fun a b : T3 => a.2.1 ≤ b.2.1) (fun a b ha hb h1 h2 => ?_) hw ?_ hp
  · obtain ⟨i, _, rfl⟩ := tab0_mem (hp.mem_iff.mp ha)
    obtain ⟨j, _, rfl⟩ := tab0_mem hb
    rw [hf, hf] at h1 h2
    rw [show i = j by omega]
  · rw [tab0_map, List.pairwise_map]
    exact List.pairwise_lt_range.imp fun h => by rw [hf, hf]; omega
section
variable {cs : List (Int × Int)} {mo : Int} (hpos : ∀ p ∈ cs, 0 < p.2) (h2 : 2 ≤ cs.length) (h4 : cs.length ≤ 4)
include hpos h2 h4
theorem sumD_all : ∀ t : Nat, sumD cs mo t cs.length = (t : Int)
  | 0 => sumD_zero _
  | t + 1 => by
    obtain ⟨p, P⟩ := top_at hpos h2 h4 (fi_all (mo := mo) hpos h2 h4 t)
    rw [sumD_succ P, sumD_all t, if_pos P.hp]; omega
theorem av_bounds (i : Nat) : ∀ t : Nat, av cs mo 0 i ≤ av cs mo t i ∧ av cs mo t i ≤ av cs mo 0 i + t
  | 0 => ⟨Int.le_refl _, by omega⟩
  | t + 1 => by
    obtain ⟨p, P⟩ := top_at hpos h2 h4 (fi_all (mo := mo) hpos h2 h4 t)
    have := av_bounds i t
    by_cases e : i = p
    · rw [e] at this ⊢; rw [P.here]; omega
    · rw [P.there i e]; omega
theorem ahd_eq {t p : Nat} (P : TopAt cs mo t p) : ∀ k, k ≤ cs.length → ahd cs mo (pav cs mo t p).1 (p : Int) k = sumD cs mo t k
  | 0, _ => rfl
  | k + 1, hk => by
    have hd := pos_at hpos (i := k) (by omega)
    have I := fi_all (mo := mo) hpos h2 h4 t
    have lo := I.low k p (by omega) P.hp
    rw [ahd, ahd_eq P k (by omega), sumD]
    have e0 : ((cs.getD k (0, 0)).1 - mo).fdiv (cs.getD k (0, 0)).2 = -(av cs mo 0 k) := by
      rw [Int.fdiv_eq_ediv_of_nonneg _ (Int.le_of_lt hd)]
      show _ = - -_
      omega
    rw [e0]
    have e1 : ((cs.getD k (0, 0)).1 - (if (k : Int) < (p : Int) then (pav cs mo t p).1 + 1 else (pav cs mo t p).1)).fdiv (cs.getD k (0, 0)).2 = -(av cs mo t k) := by
      rw [tlt_iff] at lo
      have q1 : (pt cs k (av cs mo t k - 1)).1 = (cs.getD k (0, 0)).1 + av cs mo t k * (cs.getD k (0, 0)).2 - (cs.getD k (0, 0)).2 := by
        show _ + (av cs mo t k - 1) * _ = _
        rw [pred_mul']; omega
      have q2 : (pt cs k (av cs mo t k - 1)).2.1 = (k : Int) := rfl
      have q3 : (pav cs mo t p).2.1 = (p : Int) := rfl
      rw [q1, q2, q3] at lo
      have hi : k = p ∨ tlt (pav cs mo t p) (pav cs mo t k) = true := by
        by_cases e : k = p
        · exact .inl e
        · exact .inr (P.least k (by omega) e)
      refine fdiv_of hd ?_ ?_
      · rw [Int.neg_mul]
        rcases hi with e | hi
        · subst e
          rw [if_neg (Int.lt_irrefl _)]
          show -(_ * _) ≤ _ - (_ + _)
          omega
        · rw [tlt_iff] at hi
          have q4 : (pav cs mo t k).1 = (cs.getD k (0, 0)).1 + av cs mo t k * (cs.getD k (0, 0)).2 := rfl
          have q5 : (pav cs mo t k).2.1 = (k : Int) := rfl
          rw [q3, q4, q5] at hi
          by_cases e : k = p
          · subst e
            rw [if_neg (Int.lt_irrefl _)]
            show -(_ * _) ≤ _ - (_ + _)
            omega
          · split <;> omega
      · rw [Int.neg_mul]
        by_cases e : k = p
        · subst e
          rw [if_neg (Int.lt_irrefl _)]
          show _ - (_ + _) < _
          omega
        · split <;> omega
    rw [e1]; omega
end
end Mine
end

section
open PySem PySem.W PyProof.Rows
set_option Elab.async false
set_option maxHeartbeats 800000
namespace Mine
/-- the last told stroke, and the bound of clock i by it -/
abbrev tol (cs : List (Int × Int)) (mo : Int) (t : Nat) : T3 := (fhp cs mo t).getD 0 Z3
abbrev pbk (cs : List (Int × Int)) (mo : Int) (t i : Nat) : T3 := pt cs i (av cs mo t i - 1)
section
variable {cs : List (Int × Int)} {mo : Int} (hpos : ∀ p ∈ cs, 0 < p.2) (h2 : 2 ≤ cs.length) (h4 : cs.length ≤ 4)
include hpos h2 h4
theorem bnd_div {t i : Nat} (hi : i < cs.length) : (bndN (tol cs mo t) i - (cs.getD i (0, 0)).1) / (cs.getD i (0, 0)).2 = av cs mo (t + 1) i - 1 := by
  have I := fi_all (mo := mo) hpos h2 h4 t
  obtain ⟨p, P⟩ := top_at hpos h2 h4 I
  have hd := pos_at hpos hi
  have e0 : tol cs mo t = pav cs mo t p := P.top
  have e1 : (pav cs mo t p).2.1 = (p : Int) := rfl
  rw [e0]
  unfold bndN
  rw [e1]
  by_cases e : i = p
  · subst e
    rw [if_pos (Int.le_refl _), P.here, show av cs mo t i + 1 - 1 = av cs mo t i by omega]
    refine div_is hd ?_ ?_
    · show _ ≤ (_ + _) - _
      omega
    · show (_ + _) - _ < _
      omega
  · rw [P.there i e]
    have lo := I.low i p hi P.hp
    have hi' := P.least i hi e
    rw [tlt_iff] at lo hi'
    have q1 : (pt cs i (av cs mo t i - 1)).1 = (cs.getD i (0, 0)).1 + (av cs mo t i * (cs.getD i (0, 0)).2 - (cs.getD i (0, 0)).2) := by
      show _ + (av cs mo t i - 1) * _ = _
      rw [pred_mul']
    have q2 : (pt cs i (av cs mo t i - 1)).2.1 = (i : Int) := rfl
    have q4 : (pav cs mo t i).1 = (cs.getD i (0, 0)).1 + av cs mo t i * (cs.getD i (0, 0)).2 := rfl
    have q5 : (pav cs mo t i).2.1 = (i : Int) := rfl
    rw [q1, q2, e1] at lo
    rw [q4, q5, e1] at hi'
    refine div_is hd ?_ ?_
    · rw [pred_mul']
      split <;> omega
    · rw [pred_mul']
      split <;> omega
theorem bst0_pt {t i : Nat} (hi : i < cs.length) : bst0 cs (tol cs mo t) i = pbk cs mo (t + 1) i := by
  have h := bnd_div (mo := mo) (t := t) hpos h2 h4 hi
  unfold bst0
  have e := Int.emod_add_mul_ediv (bndN (tol cs mo t) i - (cs.getD i (0, 0)).1) (cs.getD i (0, 0)).2
  rw [h] at e ⊢
  refine Prod.ext ?_ rfl
  show bndN (tol cs mo t) i - _ = (cs.getD i (0, 0)).1 + (av cs mo (t + 1) i - 1) * (cs.getD i (0, 0)).2
  rw [Int.mul_comm (av cs mo (t + 1) i - 1)]
  omega
theorem back_top {fin : T3} {j t : Nat} (h : (bhp cs fin t).Perm (tab0 (pbk cs mo (j + 1)) cs.length)) : (bhp cs fin t).getD 0 Z3 = tol cs mo j := by
  have I := fi_all (mo := mo) hpos h2 h4 j
  obtain ⟨p, P⟩ := top_at hpos h2 h4 I
  obtain ⟨hl, hh, -, -⟩ := bhp_inv (fin := fin) hpos h2 h4 t
  obtain ⟨q, hq, e⟩ := tab0_mem (h.mem_iff.mp (getD_mem (d := Z3) (l := bhp cs fin t) (i := 0) (by omega)))
  have hp : pbk cs mo (j + 1) p = tol cs mo j := by
    unfold pbk
    rw [P.here, show av cs mo j p + 1 - 1 = av cs mo j p by omega]
    exact P.top.symm
  by_cases eq : q = p
  · rw [e, eq, hp]
  · have hm : tol cs mo j ∈ bhp cs fin t := h.mem_iff.mpr (by
      have := getD_mem (d := (0, 0, 0)) (l := tab0 (pbk cs mo (j + 1)) cs.length) (i := p) (by rw [tab0_length]; exact P.hp)
      rwa [tab0_get P.hp, hp] at this)
    have hle := top_least ord_tgt (by omega) (by omega) hh _ hm
    rw [show (bhp cs fin t).getD 0 (0, 0, 0) = _ from e] at hle
    have lo := I.low q p hq P.hp
    have hle2 : tlt (pbk cs mo (j + 1) q) (tol cs mo j) = false := hle
    unfold pbk at hle2
    rw [P.there q eq, show tol cs mo j = _ from P.top, lo] at hle2
    cases hle2
theorem back_perm {n : Nat} (hn : 0 < n) : ∀ t : Nat, t ≤ n → (bhp cs (tol cs mo (n - 1)) t).Perm (tab0 (pbk cs mo (n - t)) cs.length)
  | 0, _ => by
    have l0 := tab0_length (f := bst0 cs (tol cs mo (n - 1))) cs.length
    obtain ⟨a, b⟩ := hfy_ok ord_tgt (ts := tab0 (bst0 cs (tol cs mo (n - 1))) cs.length) (by omega) (by omega)
    rw [show n - 0 = n - 1 + 1 by omega, ← tab0_congr (f := bst0 cs (tol cs mo (n - 1))) fun i hi => bst0_pt hpos h2 h4 hi]
    exact b
  | t + 1, ht => by
    have ih := back_perm hn t (by omega)
    obtain ⟨j, hj⟩ : ∃ j, n - t = j + 1 := ⟨n - t - 1, by omega⟩
    rw [hj] at ih
    rw [show n - (t + 1) = j by omega]
    obtain ⟨hl, hh, -, hmk⟩ := bhp_inv (fin := tol cs mo (n - 1)) hpos h2 h4 t
    obtain ⟨p, P⟩ := top_at hpos h2 h4 (fi_all (mo := mo) hpos h2 h4 j)
    have top := back_top hpos h2 h4 ih
    have hp : pbk cs mo (j + 1) p = tol cs mo j := by
      unfold pbk
      rw [P.here, show av cs mo j p + 1 - 1 = av cs mo j p by omega]
      exact P.top.symm
    have hnx : bnx cs (tol cs mo j) = pbk cs mo j p := by
      rw [show tol cs mo j = _ from P.top]
      unfold bnx pbk pav pt
      rw [pred_mul']
      refine Prod.ext ?_ rfl
      show _ + _ - (cs.getD (p : Int).toNat (0, 0)).2 = _
      rw [Int.toNat_natCast]; omega
    obtain ⟨_, _, e⟩ := turn_ok ord_tgt (nx := bnx cs) (by omega) (by omega) hh hmk
    rw [top, hnx] at e
    refine e.trans (perm_step (f := pbk cs mo (j + 1)) ?_ P.hp fun i _ hne => by unfold pbk; rw [P.there i hne])
    rw [hp, ← top, ← head_tail (by omega)]
    exact ih
theorem back_rev {n : Nat} (hn : 0 < n) : btold cs (tol cs mo (n - 1)) n = (ftold cs mo n).reverse := by
  refine tab0_rev fun t ht => ?_
  have ih := back_perm (mo := mo) hpos h2 h4 hn t (by omega)
  rw [show n - t = n - 1 - t + 1 by omega] at ih
  exact back_top hpos h2 h4 ih
end
end Mine
end

section
open PySem PySem.W PyProof.Rows
open PySem.Builtin.Int
set_option Elab.async false
set_option maxHeartbeats 800000
namespace Mine
theorem bits7 {j : Int} (h0 : 0 ≤ j) (h : j ≤ 100) : intBits j ≤ 7 := bits_lt h0 (by rw [show (2 : Int) ^ 7 = 128 by decide]; omega)
structure Small (cs : List (Int × Int)) (mo : Int) : Prop where
  m : intBits mo ≤ 1048576
  s : ∀ i, i < cs.length → intBits (cs.getD i (0, 0)).1 ≤ 1048576
  d : ∀ i, i < cs.length → intBits (cs.getD i (0, 0)).2 ≤ 1048577
section
variable {cs : List (Int × Int)} {mo : Int} (hpos : ∀ p ∈ cs, 0 < p.2) (h2 : 2 ≤ cs.length) (h4 : cs.length ≤ 4) (hS : Small cs mo)
include hpos h2 h4 hS
theorem av0_bits {i : Nat} (hi : i < cs.length) : intBits (av cs mo 0 i) ≤ 1048577 := by
  have hd := pos_at hpos hi
  have := intBits_fdiv_le (y := (cs.getD i (0, 0)).2) (intBits_sub_le (hS.s i hi) hS.m)
  rw [Int.fdiv_eq_ediv_of_nonneg _ (Int.le_of_lt hd)] at this
  exact intBits_neg_le this
theorem av_bits {i t : Nat} (hi : i < cs.length) (ht : t ≤ 100) : intBits (av cs mo t i) ≤ 1048578 := by
  have b := av_bounds (mo := mo) hpos h2 h4 i t
  have h := intBits_add_le (av0_bits hpos h2 h4 hS hi) (bits7 (j := av cs mo t i - av cs mo 0 i) (by omega) (by omega))
  rw [show av cs mo 0 i + (av cs mo t i - av cs mo 0 i) = av cs mo t i by omega] at h
  exact h
theorem hour_bits {t : Nat} (ht : t ≤ 100) : intBits (tol cs mo t).1 ≤ 1048590 := by
  obtain ⟨p, P⟩ := top_at hpos h2 h4 (fi_all (mo := mo) hpos h2 h4 t)
  have hd := pos_at hpos P.hp
  have b := av_bounds (mo := mo) hpos h2 h4 p t
  rw [show tol cs mo t = _ from P.top]
  have e0 : (cs.getD p (0, 0)).1 + av cs mo 0 p * (cs.getD p (0, 0)).2 = mo + ((cs.getD p (0, 0)).1 - mo) % (cs.getD p (0, 0)).2 := (congrArg Prod.fst (fst0_pt (cs := cs) (mo := mo) (i := p))).symm
  have e : (pav cs mo t p).1 = mo + ((cs.getD p (0, 0)).1 - mo) % (cs.getD p (0, 0)).2 + (av cs mo t p - av cs mo 0 p) * (cs.getD p (0, 0)).2 := by
    rw [← e0, Int.sub_mul]
    show _ + _ = _
    omega
  rw [e]
  have r0 := Int.emod_nonneg ((cs.getD p (0, 0)).1 - mo) (Int.ne_of_gt hd)
  have r1 := Int.emod_lt_of_pos ((cs.getD p (0, 0)).1 - mo) hd
  have hr := intBits_le_of_natAbs (x := ((cs.getD p (0, 0)).1 - mo) % (cs.getD p (0, 0)).2) (by omega) (hS.d p P.hp)
  have hj := intBits_mul_le (bits7 (j := av cs mo t p - av cs mo 0 p) (by omega) (by omega)) (hS.d p P.hp)
  exact Nat.le_trans (intBits_add_le (intBits_add_le hS.m hr) hj) (by decide)
theorem bnd_bits {t i : Nat} (ht : t ≤ 100) : intBits (bndN (tol cs mo t) i) ≤ 1048591 := by
  have h := hour_bits hpos h2 h4 hS ht
  unfold bndN
  split
  · exact Nat.le_trans h (by decide)
  · exact Nat.le_trans (intBits_sub_le h (show intBits 1 ≤ 1 by decide)) (by decide)
theorem mem_at {p : Int × Int} (hp : p ∈ cs) : ∃ i, i < cs.length ∧ cs.getD i (0, 0) = p := by
  obtain ⟨i, hi, e⟩ := List.mem_iff_getElem.mp hp
  exact ⟨i, hi, by rw [List.getD_eq_getElem?_getD, List.getElem?_eq_getElem hi, e]; rfl⟩
theorem fact_bit : ∀ p ∈ cs, intBits (p.1 - mo) ≤ 1900000 ∧ intBits p.2 ≤ 1900000 := fun p hp => by
  obtain ⟨i, hi, rfl⟩ := mem_at hpos h2 h4 hS hp
  exact ⟨Nat.le_trans (intBits_sub_le (hS.s i hi) hS.m) (by decide), Nat.le_trans (hS.d i hi) (by decide)⟩
theorem fact_bit2 {t : Nat} (ht : t ≤ 100) : ∀ i, i < cs.length → intBits (bndN (tol cs mo t) i - (cs.getD i (0, 0)).1) ≤ 1900000 ∧ intBits (cs.getD i (0, 0)).2 ≤ 1900000 := fun i hi =>
  ⟨Nat.le_trans (intBits_sub_le (bnd_bits hpos h2 h4 hS ht) (hS.s i hi)) (by decide), Nat.le_trans (hS.d i hi) (by decide)⟩
theorem fact_st {n : Nat} (hn : n ≤ 100) : ∀ k, k < n → StrokeOk cs mo k ((ftold cs mo n).getD k (0, 0, 0)) := fun k hk => by
  rw [show (ftold cs mo n).getD k (0, 0, 0) = tol cs mo k from tab0_get hk]
  obtain ⟨p, P⟩ := top_at hpos h2 h4 (fi_all (mo := mo) hpos h2 h4 k)
  obtain ⟨hl, _, hin, _⟩ := fhp_inv (mo := mo) hpos h2 h4 k
  have ge := (hin _ (getD_mem (d := Z3) (l := fhp cs mo k) (i := 0) (by omega))).1
  have e : tol cs mo k = pav cs mo k p := P.top
  refine ⟨ge, ?_, ?_, ?_⟩
  · rw [e]; exact ⟨p, rfl, P.hp, rfl, Nat.le_trans (hS.d p P.hp) (by decide)⟩
  · rw [e]; exact Nat.le_trans (av_bits hpos h2 h4 hS (t := k) P.hp (by omega)) (by decide)
  · rw [e]; exact (ahd_eq hpos h2 h4 P _ (Nat.le_refl _)).trans (sumD_all hpos h2 h4 k)
theorem fact_left {n : Nat} (hn0 : 0 < n) (hn : n ≤ 100) (bs as : List T3) (hb : bs.Perm (fhp cs mo n)) (hbw : bs.Pairwise (fun a b => a.2.1 ≤ b.2.1)) (ha : as.Perm (bhp cs (tol cs mo (n - 1)) n)) (haw : as.Pairwise (fun a b => a.2.1 ≤ b.2.1)) :
    ∀ k, k < cs.length → LeftOk cs mo (tol cs mo (n - 1)) bs as k := fun k hk => by
  have hd := pos_at hpos hk
  have e1 := tab0_sorted (f := pav cs mo n) (fun i => rfl) (hb.trans (fi_all (mo := mo) hpos h2 h4 n).perm) hbw
  have e2 := tab0_sorted (f := pbk cs mo 0) (fun i => rfl) (ha.trans (by have := back_perm (mo := mo) hpos h2 h4 hn0 n (Nat.le_refl _); rwa [Nat.sub_self] at this)) haw
  have q1 : (bndN (tol cs mo (n - 1)) k - (cs.getD k (0, 0)).1).fdiv (cs.getD k (0, 0)).2 = av cs mo n k - 1 := by
    rw [Int.fdiv_eq_ediv_of_nonneg _ (Int.le_of_lt hd), bnd_div hpos h2 h4 hk, show n - 1 + 1 = n by omega]
  have q2 : (mo - 1 - (cs.getD k (0, 0)).1).fdiv (cs.getD k (0, 0)).2 = av cs mo 0 k - 1 := by
    have h := Int.emod_add_mul_ediv ((cs.getD k (0, 0)).1 - mo) (cs.getD k (0, 0)).2
    have r0 := Int.emod_nonneg ((cs.getD k (0, 0)).1 - mo) (Int.ne_of_gt hd)
    have r1 := Int.emod_lt_of_pos ((cs.getD k (0, 0)).1 - mo) hd
    have e : av cs mo 0 k * (cs.getD k (0, 0)).2 = -((cs.getD k (0, 0)).2 * (((cs.getD k (0, 0)).1 - mo) / (cs.getD k (0, 0)).2)) := by
      show -_ * _ = _
      rw [Int.neg_mul, Int.mul_comm]
    refine fdiv_of hd ?_ ?_
    · rw [pred_mul', e]; omega
    · rw [pred_mul', e]; omega
  refine ⟨?_, ?_, ?_, ?_, Nat.le_trans (hS.d k hk) (by decide)⟩
  · rw [e1, tab0_get hk, q1, show av cs mo n k - 1 + 1 = av cs mo n k by omega]; rfl
  · rw [e2, tab0_get hk, q2]; rfl
  · rw [q1, show av cs mo n k - 1 + 1 = av cs mo n k by omega]
    exact Nat.le_trans (av_bits hpos h2 h4 hS hk hn) (by decide)
  · rw [q2]
    exact Nat.le_trans (intBits_sub_le (av0_bits hpos h2 h4 hS hk) (show intBits 1 ≤ 1 by decide)) (by decide)
end
theorem clk0_mem {cl : List Int} {p : Int × Int} : ∀ {k : Nat}, p ∈ clk0 cl k → ∃ j, p = (cl.getD (2 * j) 0, ((cl.getD (2 * j + 1) 0).natAbs : Int) + 1)
  | 0, h => nomatch h
  | k + 1, h => by
    rw [clk0] at h
    rcases List.mem_append.mp h with h | h
    · exact clk0_mem h
    · exact ⟨k, List.mem_singleton.mp h⟩
theorem item_bits {ns : List Int} (hb : ∀ x ∈ ns, intBits x ≤ 1048576) (j : Nat) : intBits (ns.getD j 0) ≤ 1048576 := by
  by_cases h : j < ns.length
  · exact hb _ (getD_mem h)
  · rw [List.getD_eq_getElem?_getD, List.getElem?_eq_none (by omega)]; decide
theorem clk_facts {ns : List Int} (hb : ∀ x ∈ ns, intBits x ≤ 1048576) : 2 ≤ (clk ns).length ∧ (clk ns).length ≤ 4 ∧ (∀ p ∈ clk ns, 0 < p.2) ∧ Small (clk ns) (ns.getD 0 0) := by
  obtain ⟨cl, hcl⟩ : ∃ cl, cl = (ns.drop 1).take 8 := ⟨_, rfl⟩
  have hl : cl.length ≤ 8 := by rw [hcl, List.length_take]; omega
  have hbc : ∀ x ∈ cl, intBits x ≤ 1048576 := fun x hx => hb x (List.mem_of_mem_drop (List.mem_of_mem_take (hcl ▸ hx)))
  have hmem : ∀ p ∈ clk ns, (0 < p.2 ∧ intBits p.1 ≤ 1048576 ∧ intBits p.2 ≤ 1048577) := by
    intro p hp
    have hz : p ∈ clk0 cl (cl.length / 2) ∨ p = (0, 2) ∨ p = (1, 3) := by
      by_cases h : cl.length / 2 < 2
      · rw [clk_few hcl h] at hp
        rcases List.mem_append.mp hp with hp | hp
        · exact .inl hp
        · simp only [List.mem_cons, List.not_mem_nil, or_false] at hp; exact .inr hp
      · rw [clk_many hcl h, List.append_nil] at hp; exact .inl hp
    rcases hz with hp | rfl | rfl
    · obtain ⟨j, rfl⟩ := clk0_mem hp
      refine ⟨by show (0 : Int) < _ + 1; omega, item_bits hbc _, ?_⟩
      exact Nat.le_trans (intBits_add_le (intBits_natAbs_le (item_bits hbc _)) (show intBits 1 ≤ 1 by decide)) (by decide)
    · exact ⟨by decide, by decide, by decide⟩
    · exact ⟨by decide, by decide, by decide⟩
  refine ⟨?_, ?_, fun p hp => (hmem p hp).1, item_bits hb 0, fun i hi => (hmem _ (getD_mem hi)).2.1, fun i hi => (hmem _ (getD_mem hi)).2.2⟩
  · by_cases h : cl.length / 2 < 2
    · rw [clk_few hcl h, List.length_append, clk0_length]; simp
    · rw [clk_many hcl h, List.length_append, clk0_length]; simp; omega
  · by_cases h : cl.length / 2 < 2
    · rw [clk_few hcl h, List.length_append, clk0_length]; simp; omega
    · rw [clk_many hcl h, List.length_append, clk0_length]; simp; omega
theorem count_facts (ns : List Int) : ∃ n : Nat, (12 + if 9 < ns.length then (ns.getD 9 0).fmod 25 else 0 : Int) = (n : Int) ∧ 0 < n ∧ n ≤ 100 := by
  have h0 := Int.fmod_nonneg_of_pos (ns.getD 9 0) (show (0 : Int) < 25 by decide)
  have h1 := Int.fmod_lt_of_pos (ns.getD 9 0) (show (0 : Int) < 25 by decide)
  refine ⟨(12 + if 9 < ns.length then (ns.getD 9 0).fmod 25 else 0 : Int).toNat, ?_, ?_, ?_⟩
  · split <;> omega
  · split <;> omega
  · split <;> omega
end Mine
end

section
open PySem PySem.W PyProof.Rows PySem.Spec PySem.Calls
set_option Elab.async false
set_option maxRecDepth 100000
set_option maxHeartbeats 800000
set_option pp.deepTerms false
set_option pp.deepTerms.threshold 3
set_option pp.maxSteps 6000
namespace Mine
theorem filmOk {w : World} {loose : List Str} {mean : ExcName → Option Value} {mg mb : Str → Option Value} {C : Addr} {cs : List (Int × Int)} {mo : Int} {n : Nat} {t1 t2 : Tok} {tb1 tb2 : List (Addr × Obj)} (hpos : ∀ p ∈ cs, 0 < p.2) (hc2 : 2 ≤ cs.length) (hc4 : cs.length ≤ 4) (hS : Small cs mo) (hn : n ≤ 100) (hn0 : 0 < n)
    (hT1 : TabLed 86 q91 p91 tb1) (hT2 : TabLed 93 q98 p98 tb2) :
    Meets w loose mean mg mb 178 [.ref C, .int mo t1, .int (n : Int) t2] 460 450 ((tb1 ++ tb2).map (·.1)) (fun h => Clk h C cs ∧ ∀ p ∈ tb1 ++ tb2, h.get? p.1 = some p.2) (fun _ r h => r = .bool true ∧ GrownAt 86 h ∧ GrownAt 93 h) :=
  film (fin := tol cs mo (n - 1)) hpos hc2 hc4 hn hn0 (fact_bit hpos hc2 hc4 hS) (fact_bit2 hpos hc2 hc4 hS (by omega)) (tab0_get (by omega)) (fact_st hpos hc2 hc4 hS hn) (back_rev hpos hc2 hc4 hn0) (fact_left hpos hc2 hc4 hS hn0 hn) hT1 hT2
theorem hdK {d : DefRec} {kwd : List (Str × Expr)} (e1 : defOf hd.view_39 rr.name = some (d, kwd)) (e2 : rr.prog.theDef rr.name = some (d.params, d.body, d.scope)) (e3 : kwWritten? d.params.kwonlyargs d.params.kw_defaults = some kwd)
    (walk : WalkO hd.view_39 [] (XL hd.view_39 []) (kmHook hd.heap_39 hd.at39 (fun _ => rfl) [93, 86]).says rr.toRowW d kwd fun f vs => call f vs) : Challenge.rw_mq0294_01.Holds := hd e1 e2 e3 walk
local macro_rules | `(tactic| walk_at "call ref") => `(tactic| refine Stop.go ?_)
local macro_rules | `(tactic| walk_at "GrownAll") => `(tactic| refine Stop.go ?_)
theorem final : Challenge.rw_mq0294_01.Holds := by
  refine hdK rfl rfl rfl ?_
  k_go0
  rename Top hd.view_39 _ _ _ _ _ => T0
  rename Top topProg _ _ _ _ _ => T1
  rename Frag.In _ _ => X1
  rename Fr _ _ _ _ => F1
  rename News _ _ _ _ => N1
  rename CodeHd _ _ _ => c86
  rename IntsAre _ _ => hi
  rename ReadsAll _ _ _ _ => hra
  rename Heap.IsList _ _ _ => hl
  rename ¬ _ < _ => h63
  rename PyData.layable0 _ = true => hlay
  have S1 := ghost_seer hT9 (T0.seer (by decide +kernel))
  have hb : ∀ x ∈ _, Builtin.Int.intBits x ≤ 1048576 := fun x hx => intBits_le_of_item hx hlay
  (try dsimp only)
  (try k_fold)
  k_steps
  have hlen := h63
  rw [Int.not_lt] at hlen
  have hlen' := Int.ofNat_le.mp hlen
  clear hlen h63
  refine use (lclocks (Nat.le_trans hlen' (by decide))) (by decide) (by decide) ⟨X1, T1, S1, codeHd, c86⟩ F1 N1 (fun b hb => nomatch hb) ⟨_, Heap.IsList.keepsK hl F1.keep, hi⟩ ?_
  rintro _ h2 tk2 x2 ⟨C, rfl, hC⟩
  have F2 := fr_ext0 F1 x2
  have N2 := news_ext0 N1 x2
  clear F1 N1
  clear x2
  k_steps
  refine use (lmoment (Nat.le_trans hlen' (by decide))) (by decide) (by decide) ⟨X1, T1, S1, codeHd, c86⟩ F2 N2 (fun b hb => nomatch hb) ⟨_, Heap.IsList.keepsK hl F2.keep, hi⟩ ?_
  rintro _ h4 tk4 x4 ⟨u4, rfl⟩
  have F4 := fr_ext0 F2 x4
  have N4 := news_ext0 N2 x4
  replace hC := hC.keeps fun b o e => x4 b o (fun q => nomatch q) e
  clear F2 N2 x4
  k_steps
  refine use (lcount (Nat.le_trans hlen' (by decide))) (by decide) (by decide) ⟨X1, T1, S1, codeHd, c86⟩ F4 N4 (fun b hb => nomatch hb) ⟨_, Heap.IsList.keepsK hl F4.keep, hi⟩ ?_
  rintro _ h6 tk6 x6 ⟨u6, rfl⟩
  have F6 := fr_ext0 F4 x6
  have N6 := news_ext0 N4 x6
  replace hC := hC.keeps fun b o e => x6 b o (fun q => nomatch q) e
  clear F4 N4 x6
  k_steps
  obtain ⟨n, en, hn0, hn⟩ := count_facts _
  rw [en]
  obtain ⟨hc2, hc4, hpos, hS⟩ := clk_facts hb
  have hW : ∀ b ∈ [86, 93], ∃ o, (b, o) ∈ [((93 : Addr), tabObj #[]), (86, tabObj #[])] := fun b hb => by
    simp only [List.mem_cons, List.not_mem_nil, or_false] at hb
    rcases hb with rfl | rfl
    · exact ⟨_, .tail _ (.head _)⟩
    · exact ⟨_, .head _⟩
  refine use (filmOk (tb1 := [(86, tabObj #[])]) (tb2 := [(93, tabObj #[])]) hpos hc2 hc4 hS hn hn0 (.inl rfl) (.inl rfl)) (by decide) (by decide) ⟨X1, T1, S1, codeHd, c86⟩ F6 N6 (fun b hb => let ⟨o, m⟩ := hW b hb; List.mem_map.mpr ⟨_, m, rfl⟩) ⟨hC, fun p hp => ?_⟩ ?_
  · rcases List.mem_cons.mp hp with rfl | hp
    · exact (N6 _ (.tail _ (.head _))).1
    · rw [List.mem_singleton.mp hp]; exact (N6 _ (.head _)).1
  rintro _ h8 tk8 x8 ⟨rfl, g86, g93⟩
  have F8 := fr_ext F6 x8 (fun q => let ⟨o, m⟩ := hW _ q; (N6 _ m).2.1 rfl) (fun b q => let ⟨o, m⟩ := hW b q; (N6 _ m).2.2)
  clear F6 N6 x8
  k_steps
  all_goals exact ⟨g93, g86, trivial⟩
end Mine
end

theorem PySem.Challenge.cw_mq0294_01_holds : PySem.Challenge.rw_mq0294_01.Holds :=
  Mine.final
