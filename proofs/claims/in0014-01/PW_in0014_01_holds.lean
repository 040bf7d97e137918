import PyProof.Rows.All
import Wide.All
import OpenK.AllK
import Wide.FinOn
import PySem.Challenge.RW_in0014_01
open PySem PySem.W PyProof.Rows
set_option Elab.async false
namespace Mine
set_option maxRecDepth 100000
set_option maxHeartbeats 4000000
noncomputable abbrev fd_skip : { x : PySem.Arguments × List PySem.Stmt × PySem.Scope // ∃ n d r t o q p, PySem.Challenge.pw_in0014_01.main.body[5]? = some (.FunctionDef n x.1 x.2.1 d r t x.2.2 o q p) } := ⟨(_, _, _), _, _, _, _, _, _, _, rfl⟩
noncomputable abbrev a_skip : PySem.Arguments := fd_skip.1.1
noncomputable abbrev b_skip : List PySem.Stmt := fd_skip.1.2.1
noncomputable abbrev s_skip : PySem.Scope := fd_skip.1.2.2
noncomputable abbrev fd_parse : { x : PySem.Arguments × List PySem.Stmt × PySem.Scope // ∃ n d r t o q p, PySem.Challenge.pw_in0014_01.main.body[6]? = some (.FunctionDef n x.1 x.2.1 d r t x.2.2 o q p) } := ⟨(_, _, _), _, _, _, _, _, _, _, rfl⟩
noncomputable abbrev a_parse : PySem.Arguments := fd_parse.1.1
noncomputable abbrev b_parse : List PySem.Stmt := fd_parse.1.2.1
noncomputable abbrev s_parse : PySem.Scope := fd_parse.1.2.2
noncomputable abbrev fd_suf : { x : PySem.Arguments × List PySem.Stmt × PySem.Scope // ∃ n d r t o q p, PySem.Challenge.pw_in0014_01.main.body[7]? = some (.FunctionDef n x.1 x.2.1 d r t x.2.2 o q p) } := ⟨(_, _, _), _, _, _, _, _, _, _, rfl⟩
noncomputable abbrev a_suf : PySem.Arguments := fd_suf.1.1
noncomputable abbrev b_suf : List PySem.Stmt := fd_suf.1.2.1
noncomputable abbrev s_suf : PySem.Scope := fd_suf.1.2.2
noncomputable abbrev fd_ctk : { x : PySem.Arguments × List PySem.Stmt × PySem.Scope // ∃ n d r t o q p, PySem.Challenge.pw_in0014_01.main.body[9]? = some (.FunctionDef n x.1 x.2.1 d r t x.2.2 o q p) } := ⟨(_, _, _), _, _, _, _, _, _, _, rfl⟩
noncomputable abbrev a_ctk : PySem.Arguments := fd_ctk.1.1
noncomputable abbrev b_ctk : List PySem.Stmt := fd_ctk.1.2.1
noncomputable abbrev s_ctk : PySem.Scope := fd_ctk.1.2.2
noncomputable abbrev fd_red : { x : PySem.Arguments × List PySem.Stmt × PySem.Scope // ∃ n d r t o q p, PySem.Challenge.pw_in0014_01.main.body[11]? = some (.FunctionDef n x.1 x.2.1 d r t x.2.2 o q p) } := ⟨(_, _, _), _, _, _, _, _, _, _, rfl⟩
noncomputable abbrev a_red : PySem.Arguments := fd_red.1.1
noncomputable abbrev b_red : List PySem.Stmt := fd_red.1.2.1
noncomputable abbrev s_red : PySem.Scope := fd_red.1.2.2
noncomputable abbrev fd_whr : { x : PySem.Arguments × List PySem.Stmt × PySem.Scope // ∃ n d r t o q p, PySem.Challenge.pw_in0014_01.main.body[13]? = some (.FunctionDef n x.1 x.2.1 d r t x.2.2 o q p) } := ⟨(_, _, _), _, _, _, _, _, _, _, rfl⟩
noncomputable abbrev a_whr : PySem.Arguments := fd_whr.1.1
noncomputable abbrev b_whr : List PySem.Stmt := fd_whr.1.2.1
noncomputable abbrev s_whr : PySem.Scope := fd_whr.1.2.2
noncomputable abbrev fd_gat : { x : PySem.Arguments × List PySem.Stmt × PySem.Scope // ∃ n d r t o q p, PySem.Challenge.pw_in0014_01.main.body[14]? = some (.FunctionDef n x.1 x.2.1 d r t x.2.2 o q p) } := ⟨(_, _, _), _, _, _, _, _, _, _, rfl⟩
noncomputable abbrev a_gat : PySem.Arguments := fd_gat.1.1
noncomputable abbrev b_gat : List PySem.Stmt := fd_gat.1.2.1
noncomputable abbrev s_gat : PySem.Scope := fd_gat.1.2.2
noncomputable abbrev fd_due : { x : PySem.Arguments × List PySem.Stmt × PySem.Scope // ∃ n d r t o q p, PySem.Challenge.pw_in0014_01.main.body[15]? = some (.FunctionDef n x.1 x.2.1 d r t x.2.2 o q p) } := ⟨(_, _, _), _, _, _, _, _, _, _, rfl⟩
noncomputable abbrev a_due : PySem.Arguments := fd_due.1.1
noncomputable abbrev b_due : List PySem.Stmt := fd_due.1.2.1
noncomputable abbrev s_due : PySem.Scope := fd_due.1.2.2
noncomputable abbrev fd_law : { x : PySem.Arguments × List PySem.Stmt × PySem.Scope // ∃ n d r t o q p, PySem.Challenge.pw_in0014_01.main.body[16]? = some (.FunctionDef n x.1 x.2.1 d r t x.2.2 o q p) } := ⟨(_, _, _), _, _, _, _, _, _, _, rfl⟩
noncomputable abbrev a_law : PySem.Arguments := fd_law.1.1
noncomputable abbrev b_law : List PySem.Stmt := fd_law.1.2.1
noncomputable abbrev s_law : PySem.Scope := fd_law.1.2.2
noncomputable abbrev fd_crd : { x : PySem.Arguments × List PySem.Stmt × PySem.Scope // ∃ n d r t o q p, b_suf[0]? = some (.FunctionDef n x.1 x.2.1 d r t x.2.2 o q p) } := ⟨(_, _, _), _, _, _, _, _, _, _, rfl⟩
noncomputable abbrev a_crd := fd_crd.1.1
noncomputable abbrev b_crd := fd_crd.1.2.1
noncomputable abbrev s_crd := fd_crd.1.2.2
noncomputable def K0 (P : PySem.Params) : PySem.W.Frag :=
  (nat_lit 2, Obj.mk Value.none Option.none (Data.dict #[]) #[]) ::
  (nat_lit 3, Obj.mk (Value.type "dict") Option.none
  (Data.dict
    #[DictEntry.mk (PyData.keyHash P (Str.ofString "__name__")) (Value.str (Str.ofString "__name__") 165) (Value.str (Str.ofString "law_in0014_01") 411), DictEntry.mk (PyData.keyHash P (Str.ofString "__doc__")) (Value.str (Str.ofString "__doc__") 166) Value.none,
      DictEntry.mk (PyData.keyHash P (Str.ofString "__package__")) (Value.str (Str.ofString "__package__") 167) Value.none, DictEntry.mk (PyData.keyHash P (Str.ofString "__loader__")) (Value.str (Str.ofString "__loader__") 168) (Value.builtin "__main__.__loader__#opaque"),
      DictEntry.mk (PyData.keyHash P (Str.ofString "__spec__")) (Value.str (Str.ofString "__spec__") 169) Value.none, DictEntry.mk (PyData.keyHash P (Str.ofString "__annotations__")) (Value.str (Str.ofString "__annotations__") 170) (Value.ref 6),
      DictEntry.mk (PyData.keyHash P (Str.ofString "__builtins__")) (Value.str (Str.ofString "__builtins__") 171) (Value.ref 4), DictEntry.mk (PyData.keyHash P (Str.ofString "__file__")) (Value.str (Str.ofString "__file__") 173) (Value.str (Str.ofString "/claim/cut.py") 172),
      DictEntry.mk (PyData.keyHash P (Str.ofString "__cached__")) (Value.str (Str.ofString "__cached__") 174) Value.none, DictEntry.mk (PyData.keyHash P (Str.ofString "ASCII_CTRL")) (Value.str (Str.ofString "ASCII_CTRL") 332) (Value.ref 31),
      DictEntry.mk (PyData.keyHash P (Str.ofString "ILLEGAL_BASIC_STR_CHARS")) (Value.str (Str.ofString "ILLEGAL_BASIC_STR_CHARS") 336) (Value.ref 36), DictEntry.mk (PyData.keyHash P (Str.ofString "ILLEGAL_LITERAL_STR_CHARS")) (Value.str (Str.ofString "ILLEGAL_LITERAL_STR_CHARS") 337) (Value.ref 36),
      DictEntry.mk (PyData.keyHash P (Str.ofString "TOMLDecodeError")) (Value.str (Str.ofString "TOMLDecodeError") 355) (Value.ref 46), DictEntry.mk (PyData.keyHash P (Str.ofString "skip_until")) (Value.str (Str.ofString "skip_until") 367) (Value.ref 56),
      DictEntry.mk (PyData.keyHash P (Str.ofString "parse_literal_str")) (Value.str (Str.ofString "parse_literal_str") 376) (Value.ref 63), DictEntry.mk (PyData.keyHash P (Str.ofString "suffixed_err")) (Value.str (Str.ofString "suffixed_err") 386) (Value.ref 70),
      DictEntry.mk (PyData.keyHash P (Str.ofString "cmp_to_key")) (Value.str (Str.ofString "cmp_to_key") 397) (Value.ref 77), DictEntry.mk (PyData.keyHash P (Str.ofString "_initial_missing")) (Value.str (Str.ofString "_initial_missing") 398) (Value.ref 78),
      DictEntry.mk (PyData.keyHash P (Str.ofString "reduce")) (Value.str (Str.ofString "reduce") 410) (Value.ref 86), DictEntry.mk (PyData.keyHash P (Str.ofString "_law_where")) (Value.str (Str.ofString "_law_where") 423) (Value.ref 93),
      DictEntry.mk (PyData.keyHash P (Str.ofString "_law_gathered")) (Value.str (Str.ofString "_law_gathered") 434) (Value.ref 100), DictEntry.mk (PyData.keyHash P (Str.ofString "_law_due")) (Value.str (Str.ofString "_law_due") 440) (Value.ref 105),
      DictEntry.mk (PyData.keyHash P (Str.ofString "law")) (Value.str (Str.ofString "law") 446) (Value.ref 110)]
    23)
  #[]) ::
  (nat_lit 6, Obj.mk (Value.type "dict") Option.none (Data.dict #[]) #[]) ::
  (nat_lit 37, Obj.mk (Value.type "tuple") Option.none (Data.seq #[Value.type "ValueError"]) #[]) ::
  (nat_lit 44, Obj.mk (Value.type "tuple") Option.none (Data.seq #[]) #[]) ::
  (nat_lit 45, Obj.mk (Value.type "dict") Option.none
  (Data.dict
    #[DictEntry.mk (PyData.keyHash P (Str.ofString "__module__")) (Value.str (Str.ofString "__module__") 345) (Value.str (Str.ofString "cpy313.tomllib._parser") 187), DictEntry.mk (PyData.keyHash P (Str.ofString "__firstlineno__")) (Value.str (Str.ofString "__firstlineno__") 349) (Value.int 5 348),
      DictEntry.mk (PyData.keyHash P (Str.ofString "__static_attributes__")) (Value.str (Str.ofString "__static_attributes__") 350) (Value.ref 44), DictEntry.mk (PyData.keyHash P (Str.ofString "__weakref__")) (Value.str (Str.ofString "__weakref__") 352) (Value.ref 47),
      DictEntry.mk (PyData.keyHash P (Str.ofString "__doc__")) (Value.str (Str.ofString "__doc__") 353) Value.none]
    3)
  #[]) ::
  (nat_lit 46, Obj.mk (Value.type "type") Option.none (Data.cls (ClassData.mk (Str.ofString "TOMLDecodeError") [Value.type "ValueError"] [Value.ref 46, Value.type "ValueError", Value.type "Exception", Value.type "BaseException", Value.type "object"] 45 (Str.ofString "TOMLDecodeError") Bool.true [] [] Bool.false Option.none Bool.false))
  #[Option.some (Value.ref 37), Option.none, Option.some (Value.str (Str.ofString "TOMLDecodeError") 338), Option.some (Value.str (Str.ofString "TOMLDecodeError") 346), Option.some (Value.builtin "ValueError.__new__"), Option.some (Value.bool Bool.true)]) ::
  (nat_lit 47, Obj.mk (Value.type "getset_descriptor") Option.none (Data.fields #[Value.str (Str.ofString "__weakref__") 351, Value.ref 46, Value.builtin "ExceptionGroup.__weakref__", Value.none]) #[]) ::
  (nat_lit 50, Obj.mk (Value.type "tuple") Option.none (Data.seq #[]) #[]) ::
  (nat_lit 52, Obj.mk (Value.type "tuple") Option.none (Data.seq #[Value.str (Str.ofString "src") 359, Value.str (Str.ofString "pos") 360, Value.str (Str.ofString "expect") 361, Value.str (Str.ofString "error_on") 362, Value.str (Str.ofString "error_on_eof") 363, Value.str (Str.ofString "new_pos") 364]) #[]) ::
  (nat_lit 53, Obj.mk (Value.type "tuple") Option.none (Data.seq #[]) #[]) ::
  (nat_lit 55, Obj.mk (Value.type "code") Option.none
  (Data.fields
    #[Value.str (Str.ofString "skip_until") 356, Value.str (Str.ofString "skip_until") 357, Value.str (Str.ofString "/claim/cut.py") 358, Value.int 7 0, Value.int 3 0, Value.int 0 0, Value.int 2 0, Value.int 3 0, Value.ref 50, Value.bool Bool.true, Value.int 181 0, Value.ref 51, Value.none,
      Value.ref 52, Value.ref 53, Value.ref 54, Value.int 365 0, Value.int 7 0, Value.str (Str.ofString "/claim/cut.py") 366])
  #[]) ::
  (nat_lit 56, Obj.mk (Value.type "function") Option.none
  (Data.func
    (FuncData.mk (Str.ofString "skip_until") (Str.ofString "skip_until")
      a_skip
      (FuncBody.stmts b_skip)
      s_skip
      3 [] Value.none Value.none Value.none (Value.str (Str.ofString "cpy313.tomllib._parser") 187) Option.none (Value.ref 55) Value.none 0))
  #[]) ::
  (nat_lit 57, Obj.mk (Value.type "tuple") Option.none (Data.seq #[]) #[]) ::
  (nat_lit 59, Obj.mk (Value.type "tuple") Option.none (Data.seq #[Value.str (Str.ofString "src") 371, Value.str (Str.ofString "pos") 372, Value.str (Str.ofString "start_pos") 373]) #[]) ::
  (nat_lit 60, Obj.mk (Value.type "tuple") Option.none (Data.seq #[]) #[]) ::
  (nat_lit 62, Obj.mk (Value.type "code") Option.none
  (Data.fields
    #[Value.str (Str.ofString "parse_literal_str") 368, Value.str (Str.ofString "parse_literal_str") 369, Value.str (Str.ofString "/claim/cut.py") 370, Value.int 19 0, Value.int 2 0, Value.int 0 0, Value.int 0 0, Value.int 3 0, Value.ref 57, Value.bool Bool.true, Value.int 181 0, Value.ref 58,
      Value.none, Value.ref 59, Value.ref 60, Value.ref 61, Value.int 374 0, Value.int 19 0, Value.str (Str.ofString "/claim/cut.py") 375])
  #[]) ::
  (nat_lit 63, Obj.mk (Value.type "function") Option.none
  (Data.func
    (FuncData.mk (Str.ofString "parse_literal_str") (Str.ofString "parse_literal_str") a_parse
      (FuncBody.stmts b_parse)
      s_parse 3 [] Value.none
      Value.none Value.none (Value.str (Str.ofString "cpy313.tomllib._parser") 187) Option.none (Value.ref 62) Value.none 0))
  #[]) ::
  (nat_lit 64, Obj.mk (Value.type "tuple") Option.none (Data.seq #[]) #[]) ::
  (nat_lit 66, Obj.mk (Value.type "tuple") Option.none (Data.seq #[Value.str (Str.ofString "src") 380, Value.str (Str.ofString "pos") 381, Value.str (Str.ofString "msg") 382, Value.str (Str.ofString "coord_repr") 383]) #[]) ::
  (nat_lit 67, Obj.mk (Value.type "tuple") Option.none (Data.seq #[]) #[]) ::
  (nat_lit 69, Obj.mk (Value.type "code") Option.none
  (Data.fields
    #[Value.str (Str.ofString "suffixed_err") 377, Value.str (Str.ofString "suffixed_err") 378, Value.str (Str.ofString "/claim/cut.py") 379, Value.int 24 0, Value.int 3 0, Value.int 0 0, Value.int 0 0, Value.int 3 0, Value.ref 64, Value.bool Bool.true, Value.int 181 0, Value.ref 65, Value.none,
      Value.ref 66, Value.ref 67, Value.ref 68, Value.int 384 0, Value.int 24 0, Value.str (Str.ofString "/claim/cut.py") 385])
  #[]) ::
  (nat_lit 70, Obj.mk (Value.type "function") Option.none
  (Data.func
    (FuncData.mk (Str.ofString "suffixed_err") (Str.ofString "suffixed_err") a_suf
      (FuncBody.stmts b_suf)
      s_suf 3 [] Value.none Value.none
      Value.none (Value.str (Str.ofString "cpy313.tomllib._parser") 187) Option.none (Value.ref 69) Value.none 0))
  #[]) ::
  (nat_lit 71, Obj.mk (Value.type "tuple") Option.none (Data.seq #[]) #[]) ::
  (nat_lit 73, Obj.mk (Value.type "tuple") Option.none (Data.seq #[Value.str (Str.ofString "mycmp") 392, Value.str (Str.ofString "K") 393]) #[]) ::
  (nat_lit 74, Obj.mk (Value.type "tuple") Option.none (Data.seq #[Value.str (Str.ofString "mycmp") 394]) #[]) ::
  (nat_lit 76, Obj.mk (Value.type "code") Option.none
  (Data.fields
    #[Value.str (Str.ofString "cmp_to_key") 389, Value.str (Str.ofString "cmp_to_key") 390, Value.str (Str.ofString "/claim/cut.py") 391, Value.int 37 0, Value.int 1 0, Value.int 0 0, Value.int 0 0, Value.int 3 0, Value.ref 71, Value.bool Bool.true, Value.int 181 0, Value.ref 72, Value.none,
      Value.ref 73, Value.ref 74, Value.ref 75, Value.int 395 0, Value.int 37 0, Value.str (Str.ofString "/claim/cut.py") 396])
  #[]) ::
  (nat_lit 77, Obj.mk (Value.type "function") Option.none
  (Data.func
    (FuncData.mk (Str.ofString "cmp_to_key") (Str.ofString "cmp_to_key") a_ctk
      (FuncBody.stmts b_ctk)
      s_ctk 3 [] Value.none Value.none Value.none (Value.str (Str.ofString "cpy313.functools") 387) Option.none (Value.ref 76)
      Value.none 0))
  #[]) ::
  (nat_lit 78, Obj.mk (Value.type "object") Option.none Data.plain #[]) ::
  (nat_lit 79, Obj.mk (Value.type "tuple") Option.none (Data.seq #[Value.ref 78]) #[]) ::
  (nat_lit 80, Obj.mk (Value.type "tuple") Option.none (Data.seq #[]) #[]) ::
  (nat_lit 82, Obj.mk (Value.type "tuple") Option.none (Data.seq #[Value.str (Str.ofString "function") 402, Value.str (Str.ofString "sequence") 403, Value.str (Str.ofString "initial") 404, Value.str (Str.ofString "it") 405, Value.str (Str.ofString "value") 406, Value.str (Str.ofString "element") 407]) #[]) ::
  (nat_lit 83, Obj.mk (Value.type "tuple") Option.none (Data.seq #[]) #[]) ::
  (nat_lit 85, Obj.mk (Value.type "code") Option.none
  (Data.fields
    #[Value.str (Str.ofString "reduce") 399, Value.str (Str.ofString "reduce") 400, Value.str (Str.ofString "/claim/cut.py") 401, Value.int 63 0, Value.int 3 0, Value.int 0 0, Value.int 0 0, Value.int 3 0, Value.ref 80, Value.bool Bool.true, Value.int 181 0, Value.ref 81, Value.none, Value.ref 82,
      Value.ref 83, Value.ref 84, Value.int 408 0, Value.int 63 0, Value.str (Str.ofString "/claim/cut.py") 409])
  #[]) ::
  (nat_lit 86, Obj.mk (Value.type "function") Option.none
  (Data.func
    (FuncData.mk (Str.ofString "reduce") (Str.ofString "reduce")
      a_red
      (FuncBody.stmts b_red)
      s_red
      3 [] (Value.ref 79) Value.none Value.none (Value.str (Str.ofString "cpy313.functools") 387) Option.none (Value.ref 85) Value.none 0))
  #[]) ::
  (nat_lit 87, Obj.mk (Value.type "tuple") Option.none (Data.seq #[]) #[]) ::
  (nat_lit 89, Obj.mk (Value.type "tuple") Option.none (Data.seq #[Value.str (Str.ofString "src") 416, Value.str (Str.ofString "words") 417, Value.str (Str.ofString "told") 418, Value.str (Str.ofString "line") 419, Value.str (Str.ofString "column") 420]) #[]) ::
  (nat_lit 90, Obj.mk (Value.type "tuple") Option.none (Data.seq #[]) #[]) ::
  (nat_lit 92, Obj.mk (Value.type "code") Option.none
  (Data.fields
    #[Value.str (Str.ofString "_law_where") 413, Value.str (Str.ofString "_law_where") 414, Value.str (Str.ofString "/claim/cut.py") 415, Value.int 76 0, Value.int 2 0, Value.int 0 0, Value.int 0 0, Value.int 3 0, Value.ref 87, Value.bool Bool.true, Value.int 181 0, Value.ref 88, Value.none,
      Value.ref 89, Value.ref 90, Value.ref 91, Value.int 421 0, Value.int 76 0, Value.str (Str.ofString "/claim/cut.py") 422])
  #[]) ::
  (nat_lit 93, Obj.mk (Value.type "function") Option.none
  (Data.func
    (FuncData.mk (Str.ofString "_law_where") (Str.ofString "_law_where") a_whr
      (FuncBody.stmts b_whr)
      s_whr
      3 [] Value.none Value.none Value.none (Value.str (Str.ofString "law_in0014_01") 411) Option.none (Value.ref 92) Value.none 0))
  #[]) ::
  (nat_lit 94, Obj.mk (Value.type "tuple") Option.none (Data.seq #[]) #[]) ::
  (nat_lit 96, Obj.mk (Value.type "tuple") Option.none (Data.seq #[Value.str (Str.ofString "report") 427, Value.str (Str.ofString "item") 428, Value.str (Str.ofString "where") 429, Value.str (Str.ofString "words") 430, Value.str (Str.ofString "start") 431]) #[]) ::
  (nat_lit 97, Obj.mk (Value.type "tuple") Option.none (Data.seq #[]) #[]) ::
  (nat_lit 99, Obj.mk (Value.type "code") Option.none
  (Data.fields
    #[Value.str (Str.ofString "_law_gathered") 424, Value.str (Str.ofString "_law_gathered") 425, Value.str (Str.ofString "/claim/cut.py") 426, Value.int 82 0, Value.int 2 0, Value.int 0 0, Value.int 0 0, Value.int 3 0, Value.ref 94, Value.bool Bool.true, Value.int 181 0, Value.ref 95, Value.none,
      Value.ref 96, Value.ref 97, Value.ref 98, Value.int 432 0, Value.int 82 0, Value.str (Str.ofString "/claim/cut.py") 433])
  #[]) ::
  (nat_lit 100, Obj.mk (Value.type "function") Option.none
  (Data.func
    (FuncData.mk (Str.ofString "_law_gathered") (Str.ofString "_law_gathered") a_gat
      (FuncBody.stmts b_gat)
      s_gat 3 [] Value.none Value.none Value.none
      (Value.str (Str.ofString "law_in0014_01") 411) Option.none (Value.ref 99) Value.none 0))
  #[]) ::
  (nat_lit 101, Obj.mk (Value.type "tuple") Option.none (Data.seq #[]) #[]) ::
  (nat_lit 104, Obj.mk (Value.type "code") Option.none
  (Data.fields
    #[Value.str (Str.ofString "_law_due") 435, Value.str (Str.ofString "_law_due") 436, Value.str (Str.ofString "/claim/cut.py") 437, Value.int 87 0, Value.int 1 0, Value.int 0 0, Value.int 0 0, Value.int 3 0, Value.ref 101, Value.bool Bool.true, Value.int 181 0, Value.ref 102, Value.none,
      Value.none, Value.none, Value.ref 103, Value.int 438 0, Value.int 87 0, Value.str (Str.ofString "/claim/cut.py") 439])
  #[]) ::
  (nat_lit 105, Obj.mk (Value.type "function") Option.none
  (Data.func
    (FuncData.mk (Str.ofString "_law_due") (Str.ofString "_law_due") a_due
      (FuncBody.stmts b_due)
      s_due
      3 [] Value.none Value.none Value.none (Value.str (Str.ofString "law_in0014_01") 411) Option.none (Value.ref 104) Value.none 0))
  #[]) ::
  (nat_lit 106, Obj.mk (Value.type "tuple") Option.none (Data.seq #[]) #[]) ::
  (nat_lit 109, Obj.mk (Value.type "code") Option.none
  (Data.fields
    #[Value.str (Str.ofString "law") 441, Value.str (Str.ofString "law") 442, Value.str (Str.ofString "/claim/cut.py") 443, Value.int 105 0, Value.int 1 0, Value.int 0 0, Value.int 0 0, Value.int 3 0, Value.ref 106, Value.bool Bool.true, Value.int 181 0, Value.ref 107, Value.none, Value.none,
      Value.none, Value.ref 108, Value.int 444 0, Value.int 105 0, Value.str (Str.ofString "/claim/cut.py") 445])
  #[]) ::
  (nat_lit 110, Obj.mk (Value.type "function") Option.none
  (Data.func
    (FuncData.mk (Str.ofString "law") (Str.ofString "law") a_law
      (FuncBody.stmts b_law)
      s_law
      3 [] Value.none Value.none Value.none (Value.str (Str.ofString "law_in0014_01") 411) Option.none (Value.ref 109) Value.none 0))
  #[])
 :: []
noncomputable abbrev lawEnv (L : Addr) : Env := envOfC (Str.ofString "law") s_law L 110 (.ref 109)
noncomputable abbrev lawA (L : Addr) : Around := callerA.deeper (lawEnv L)
noncomputable abbrev whrEnv (L : Addr) : Env := envOf (Str.ofString "_law_where") s_whr L 93 (.ref 92)
noncomputable abbrev parseEnv (L : Addr) : Env := envOf (Str.ofString "parse_literal_str") s_parse L 63 (.ref 62)
noncomputable abbrev skipEnv (L : Addr) : Env := envOf (Str.ofString "skip_until") s_skip L 56 (.ref 55)
noncomputable abbrev sufEnv (L : Addr) : Env := envOf (Str.ofString "suffixed_err") s_suf L 70 (.ref 69)
noncomputable abbrev gatEnv (L : Addr) : Env := envOf (Str.ofString "_law_gathered") s_gat L 100 (.ref 99)
noncomputable abbrev dueEnv (L : Addr) : Env := envOf (Str.ofString "_law_due") s_due L 105 (.ref 104)
noncomputable abbrev redEnv (L : Addr) : Env := envOf (Str.ofString "reduce") s_red L 86 (.ref 85)
noncomputable abbrev ctkEnv (L : Addr) : Env := envOfC (Str.ofString "cmp_to_key") s_ctk L 77 (.ref 76)
end Mine
namespace Mine
set_option maxRecDepth 100000
set_option linter.unusedVariables false
set_option maxHeartbeats 4000000
local macro_rules | `(tactic| k_steps) => `(tactic| repeat' (first | (k_unfold; (try dsimp only)) | walk1 | (dsimp only; walk1)))
section
local macro_rules | `(tactic| omega) => `(tactic| first | lia | omega +splitDisjunctions)
theorem two_strs {l : List (Str × Tok)} {x y : Str} (h : l.map (·.1) = [x, y]) : ∃ t u, l = [(x, t), (y, u)] := by
  match l, h with
  | [(a, t), (b, u)], h =>
    simp only [List.map_cons, List.map_nil, List.cons.injEq, and_true] at h
    obtain ⟨rfl, rfl⟩ := h
    exact ⟨t, u, rfl⟩
theorem split_two {prog : Program} {w : World} {A : Around} {E : Value → Shared → Prop} {s : Shared} {h₀ : Heap} {L : Addr} {m : Str → Option Value} {news : List (Addr × Obj)} {x y a b : Str} {t u : Tok} {Q : Value → Shared → Prop}
    (hF : Fr h₀ L s.heap m) (hN : News h₀ L s.heap news) (hsp : Txt.split x y = [a, b]) (hx : x.length ≤ 1000) (hy : (y.length == 0) = false)
    (h : ∀ D h' k ta tb, Fr h₀ L h' m → News h₀ L h' ((D, listOf #[.str a ta, .str b tb] 0) :: news) → Q (.ref D) { s with heap := h', toks := k }) :
    wpAny (model prog w) A (call (.builtin "str.split") [.str x t, .str y u]) Q E s := by
  refine splitN1 hF hN hy ?_ (by rw [sizeLine_eq]; omega)
  intro l h' k hl F' N'
  rw [hsp] at hl
  obtain ⟨tk1, tk2, rfl⟩ := two_strs hl
  exact h _ h' k tk1 tk2 F' N'
theorem sz {n : Nat} (h : n ≤ 1000) : n ≤ sizeLine := by rw [sizeLine_eq]; omega
section
variable {prog : Program} {w : World} {A : Around} {E : Value → Shared → Prop} {s : Shared} {h₀ : Heap} {L : Addr} {m : Str → Option Value} {news : List (Addr × Obj)} {x y : Str} {t : Tok} {Q : Value → Shared → Prop} {value slice : PySem.Expr}
theorem slc_ns {j : Int} {uj : Tok} (hF : Fr h₀ L s.heap m) (hN : News h₀ L s.heap news) (e : Txt.slice x none (some j) = y) (hz : x.length ≤ 1000)
    (h : ∀ h' t' k, Fr h₀ L h' m → News h₀ L h' news → Q (.str y t') { s with heap := h', toks := k })
    (hs : subscripted slice false (.str x t) (.ref s.heap.objs.size) = operate [.ref s.heap.objs.size, .str x t] (getItem (.str x t) (.ref s.heap.objs.size)))
    (ht : ∀ r, letTemporaryGo value (.str x t) r = pure ()) :
    wpAny (model prog w) A (subscriptTail value slice (.str x t) (.ref s.heap.objs.size)) Q E { s with heap := s.heap.push { cls := .type "slice", data := .fields #[.none, .int j uj, .none] } } := by
  subst e; exact slice_strN_ns hF hN h hs ht (sz hz)
theorem slc_sn {i i' : Int} {ui : Tok} (hF : Fr h₀ L s.heap m) (hN : News h₀ L s.heap news) (e : Txt.slice x (some i') none = y) (hi : i = i') (hz : x.length ≤ 1000)
    (h : ∀ h' t' k, Fr h₀ L h' m → News h₀ L h' news → Q (.str y t') { s with heap := h', toks := k })
    (hs : subscripted slice false (.str x t) (.ref s.heap.objs.size) = operate [.ref s.heap.objs.size, .str x t] (getItem (.str x t) (.ref s.heap.objs.size)))
    (ht : ∀ r, letTemporaryGo value (.str x t) r = pure ()) :
    wpAny (model prog w) A (subscriptTail value slice (.str x t) (.ref s.heap.objs.size)) Q E { s with heap := s.heap.push { cls := .type "slice", data := .fields #[.int i ui, .none, .none] } } := by
  subst e hi; exact slice_strN_sn hF hN h hs ht (sz hz)
theorem slc_ss {i j : Int} {ui uj : Tok} (hF : Fr h₀ L s.heap m) (hN : News h₀ L s.heap news) (e : Txt.slice x (some i) (some j) = y) (hz : x.length ≤ 1000)
    (h : ∀ h' t' k, Fr h₀ L h' m → News h₀ L h' news → Q (.str y t') { s with heap := h', toks := k })
    (hs : subscripted slice false (.str x t) (.ref s.heap.objs.size) = operate [.ref s.heap.objs.size, .str x t] (getItem (.str x t) (.ref s.heap.objs.size)))
    (ht : ∀ r, letTemporaryGo value (.str x t) r = pure ()) :
    wpAny (model prog w) A (subscriptTail value slice (.str x t) (.ref s.heap.objs.size)) Q E { s with heap := s.heap.push { cls := .type "slice", data := .fields #[.int i ui, .int j uj, .none] } } := by
  subst e; exact slice_strN_ss hF hN h hs ht (sz hz)
end
section
variable {prog : Program} {w : World} {A : Around} {E : Value → Shared → Prop} {s : Shared} {h₀ : Heap} {L a b : Addr} {m : Str → Option Value} {news : List (Addr × Obj)} {Q : Value → Shared → Prop} {value slice : PySem.Expr} {xs ys : List Value} {v : Value} {n k : Nat}
theorem isList_of (N : News h₀ L s.heap news) (hm : (a, listOf xs.toArray n) ∈ news) : s.heap.IsList a xs.toArray := ⟨_, N.get hm, rfl, n, rfl⟩
theorem item_neg1 {u : Tok} (N : News h₀ L s.heap news) (hm : (a, listOf (xs ++ [v]).toArray n) ∈ news) (h : Q v s)
    (hs : subscripted slice false (.ref a) (.int (-1) u) = operate [.ref a, .int (-1) u] (getItem (.ref a) (.int (-1) u))) :
    wpAny (model prog w) A (subscriptTail value slice (.ref a) (.int (-1) u)) Q E s := by
  have hx : (xs ++ [v]).toArray[((-1 : Int) + ((xs ++ [v]).toArray.size : Int)).toNat]? = some v := by
    have e : ((-1 : Int) + ((xs ++ [v]).toArray.size : Int)).toNat = xs.length := by simp; omega
    rw [e]; simp
  exact tail_any (isList_of N hm).typeIs slot_list_getitem.lookup (wpAny_getItem_list_neg (isList_of N hm) (by decide) (by simp; omega) (by decide) hx h) hs
theorem add_lst (F : Fr h₀ L s.heap m) (N : News h₀ L s.heap news) (ha : (a, listOf xs.toArray n) ∈ news) (hb : (b, listOf ys.toArray k) ∈ news) (hx : xs.length ≤ 1000) (hy : ys.length ≤ 1000)
    (h : ∀ D h', Fr h₀ L h' m → News h₀ L h' ((D, listOf (xs ++ ys).toArray 0) :: news) → Q (.ref D) { s with heap := h' }) :
    wpAny (model prog w) A (binaryOp .Add (.ref a) (.ref b)) Q E s :=
  add_arrays F N (isList_of N ha) (isList_of N hb) (fun h' F' N' => h _ h' F' (by simpa using N')) (by simp only [List.size_toArray]; rw [sizeLine_eq]; omega)
theorem pick_m1 : slicePick (xs ++ [v]).toArray none (some (-1)) none = xs.toArray := by
  have := slicePick_butLast (xs ++ [v]).toArray 1 (by omega)
  rw [show (-((1 : Nat) : Int)) = -1 from rfl] at this
  rw [this]; simp
theorem slice_m1 {uj : Tok} (F : Fr h₀ L s.heap m) (N : News h₀ L s.heap news) (ha : (a, listOf (xs ++ [v]).toArray n) ∈ news) (hx : xs.length ≤ 1000)
    (h : ∀ D h', Fr h₀ L h' m → News h₀ L h' ((D, listOf xs.toArray 0) :: news) → Q (.ref D) { s with heap := h' })
    (hs : subscripted slice false (.ref a) (.ref s.heap.objs.size) = operate [.ref s.heap.objs.size, .ref a] (getItem (.ref a) (.ref s.heap.objs.size)))
    (ht : ∀ r, letTemporaryGo value (.ref a) r = pure ()) :
    wpAny (model prog w) A (subscriptTail value slice (.ref a) (.ref s.heap.objs.size)) Q E { s with heap := s.heap.push { cls := .type "slice", data := .fields #[.none, .int (-1) uj, .none] } } :=
  slice_list F N (isList_of N ha) .none (.int _ _) (fun h' F' N' => h _ h' F' (by rw [pick_m1] at N'; exact N')) hs ht (by simp; rw [sizeLine_eq]; omega)
end
noncomputable def repD (r : List (Str × List Int)) : List Dat := r.map fun e => .list [.str e.1, .list (e.2.map .int)]
noncomputable def gath (rep : List (Str × List Int)) (wd : Str) (k : Int) : List (Str × List Int) :=
  match rep.getLast? with
  | some e => if e.1 == wd then rep.dropLast ++ [(wd, e.2 ++ [k])] else rep ++ [(wd, [k])]
  | none => [(wd, [k])]
noncomputable def repOk (r : List (Str × List Int)) : Prop := r.length ≤ 1000 ∧ ∀ e ∈ r, PyData.strOk e.1 = true ∧ e.2.length ≤ 1000
theorem news_mem {h₀ h : Heap} {L : Addr} {news : List (Addr × Obj)} {p : Addr × Obj} (N : News h₀ L h news) (hp : p ∈ news) : News h₀ L h (p :: news) := fun q hq => by
  rcases List.mem_cons.mp hq with rfl | hq
  · exact N _ hp
  · exact N _ hq
theorem dat_inv_list {news : List (Addr × Obj)} {v : Value} {ds : List Dat} (h : DatIn news v (.list ds)) : ∃ a vs n, v = .ref a ∧ (a, listOf (vs : List Value).toArray n) ∈ news ∧ DatAll news vs ds := by
  cases h with
  | list hm r => exact ⟨_, _, _, rfl, hm, r⟩
theorem dat_inv_str {news : List (Addr × Obj)} {v : Value} {x : Str} (h : DatIn news v (.str x)) : ∃ t, v = .str x t := by
  cases h; exact ⟨_, rfl⟩
theorem dat_inv_two {news : List (Addr × Obj)} {vs : List Value} {d e : Dat} (h : DatAll news vs [d, e]) : ∃ u v, vs = [u, v] ∧ DatIn news u d ∧ DatIn news v e := by
  cases h with
  | cons h1 r => cases r with
    | cons h2 r => cases r; exact ⟨_, _, rfl, h1, h2⟩
theorem dat_inv_nil {news : List (Addr × Obj)} {vs : List Value} (h : DatAll news vs []) : vs = [] := by cases h; rfl
theorem kqdOk_rep {r : List (Str × List Int)} (h : repOk r) : ∀ d ∈ repD r, kqdOk 8 d = true := by
  intro d hd
  obtain ⟨e, he, rfl⟩ := List.mem_map.mp hd
  have := (h.2 e he).1
  simp only [kqdOk, List.all_cons, List.all_nil, this, Bool.and_true, Bool.true_and, List.all_map, List.all_eq_true]
  intro x _; rfl
theorem repD_append (a b : List (Str × List Int)) : repD (a ++ b) = repD a ++ repD b := List.map_append
section
open PySem.Builtin PySem.Builtin.Str
theorem gives_count4 (x y : Str) (i j : Int) (t u v v' : Tok) : Gives («str.count» ⟨[.str x t, .str y u, .int i v, .int j v'], []⟩) (.int (occurrences x y (fromIndex x.length i) (min (fromIndex x.length j) x.length) (x.length + 1)).length) := by
  show Gives (retInt (occurrences x y (fromIndex x.length i) (min (fromIndex x.length j) x.length) (x.length + 1)).length) _
  exact .of_eq rfl
theorem gives_rindex4 (x y : Str) (i j : Int) (t u v v' : Tok) (k : Nat) (h : lastOccurrence x y (fromIndex x.length i) (min (fromIndex x.length j) x.length) = some k) : Gives («str.rindex» ⟨[.str x t, .str y u, .int i v, .int j v'], []⟩) (.int k) := by
  show Gives (match lastOccurrence x y (fromIndex x.length i) (min (fromIndex x.length j) x.length) with | some i => retInt i | none => (do rule "str.rindex.not-found"; raiseError "ValueError" "substring not found")) _
  rw [h]
  exact .of_eq rfl
theorem gives_index3 (x y : Str) (i : Int) (t u v : Tok) (k : Nat) (rest : List Nat) (h : occurrences x y (fromIndex x.length i) x.length 1 = k :: rest) : Gives («str.index» ⟨[.str x t, .str y u, .int i v], []⟩) (.int k) := by
  show Gives (match occurrences x y (fromIndex x.length i) (min x.length x.length) 1 with | i :: _ => retInt i | [] => (do rule "str.index.not-found"; raiseError "ValueError" "substring not found")) _
  rw [Nat.min_self, h]
  exact .of_eq rfl
theorem raises_index3 (x y : Str) (i : Int) (t u v : Tok) (h : occurrences x y (fromIndex x.length i) x.length 1 = []) : Meets («str.index» ⟨[.str x t, .str y u, .int i v], []⟩) (raisesNew "ValueError") := by
  intro prog w A R s hS
  show wpAny _ _ (match occurrences x y (fromIndex x.length i) (min x.length x.length) 1 with | i :: _ => retInt i | [] => _) _ _ s
  rw [Nat.min_self, h]
  first
    | exact wpAny_bind (wpAny_rule (by exact_raiseError plainExc_ValueError hS.1 hS.2))
    | exact wpAny_bind (wpAny_rule (wpAny_bind (by exact_raiseError plainExc_ValueError hS.1 hS.2)))
variable {prog : Program} {w : World} {A : Around} {E : Value → Shared → Prop} {s : Shared} {x y : Str} {t u v v' : Tok} {i j : Int} {Q : Value → Shared → Prop}
theorem count4 {c : Int} (e : ((occurrences x y (fromIndex x.length i) (min (fromIndex x.length j) x.length) (x.length + 1)).length : Int) = c) (hq : Q (.int c s.toks) { s with toks := s.toks + 1 }) : wpAny (model prog w) A (call (.builtin "str.count") [.str x t, .str y u, .int i v, .int j v']) Q E s :=
  call_gives F.slot_str_count (typeIs_str _ _ _) F.entry_str_count (F.args_str_count_4 _ _ _ _) (gives_count4 x y i j t u v v') (by rw [e]; exact hq)
theorem rindex4 {k : Nat} (h : lastOccurrence x y (fromIndex x.length i) (min (fromIndex x.length j) x.length) = some k) (hq : Q (.int k s.toks) { s with toks := s.toks + 1 }) : wpAny (model prog w) A (call (.builtin "str.rindex") [.str x t, .str y u, .int i v, .int j v']) Q E s :=
  call_gives F.slot_str_rindex (typeIs_str _ _ _) F.entry_str_rindex (F.args_str_rindex_4 _ _ _ _) (gives_rindex4 x y i j t u v v' k h) hq
theorem index3 {k : Nat} {rest : List Nat} (h : occurrences x y (fromIndex x.length i) x.length 1 = k :: rest) (hq : Q (.int k s.toks) { s with toks := s.toks + 1 }) : wpAny (model prog w) A (call (.builtin "str.index") [.str x t, .str y u, .int i v]) Q E s :=
  call_gives F.slot_str_index (typeIs_str _ _ _) F.entry_str_index (F.args_str_index_3 _ _ _) (gives_index3 x y i t u v k rest h) hq
theorem index3_raises (hA : A.handled = none) (h : occurrences x y (fromIndex x.length i) x.length 1 = []) (hE : ∀ h' tk e, Heap.NewExc s.heap h' e "ValueError" → E (.ref e) { s with heap := h', toks := tk }) : wpAny (model prog w) A (call (.builtin "str.index") [.str x t, .str y u, .int i v]) Q E s :=
  call_meets F.slot_str_index (typeIs_str _ _ _) F.entry_str_index (F.args_str_index_3 _ _ _) (raises_index3 x y i t u v h) ⟨hA, hE⟩
end
section
local macro_rules | `(tactic| walk_at $s:str) => `(tactic| k_extra $s)
theorem rs_W4 : True := by w_top off; k_with_none; trivial
theorem rk_W4_mac2_2 : True := by
  k_with "call builtin:str.count" => (k_here; (with_reducible show wpAny _ _ (call _ [Value.str _ _, Value.str _ _, Value.int _ _, Value.int _ _]) _ _ _); (with_reducible refine count4 (by assumption) ?_))
  k_with "call builtin:str.rindex" => (k_here; (with_reducible show wpAny _ _ (call _ [Value.str _ _, Value.str _ _, Value.int _ _, Value.int _ _]) _ _ _); (with_reducible refine rindex4 (by assumption) ?_))
  trivial
section
variable {w : World} {A₀ : Around} {base g : Heap} {outer : List Env} {L0 L : Addr} {m mg mb : Str → Option Value} {p : Program} {loose : List Str} {mean : ExcName → Option Value} {news : List (Addr × Obj)} {s : Shared}
  {Q : Flow → Shared → Prop} {E : Value → Shared → Prop}
noncomputable abbrev crdEnv (L f c' : Addr) : Env := envX (Str.ofString "suffixed_err.<locals>.coord_repr") s_crd L f (.ref c') []
noncomputable abbrev parseA (L0 L1 : Addr) : Around := (lawA L0).deeper (parseEnv L1)
noncomputable abbrev skipA (L0 L1 L2 : Addr) : Around := (parseA L0 L1).deeper (skipEnv L2)
noncomputable abbrev sufA (L0 L1 L2 L3 : Addr) : Around := (skipA L0 L1 L2).deeper (sufEnv L3)
theorem crd_end {f c' : Addr} {t1 t2 : Tok} {src : Str} {pos : Int} (hlen : src.length ≤ 1000) (hp : decide (pos ≥ (src.length : Int)) = true)
  (B : Below A₀ base outer g) (F : Fr g L s.heap (fun y => [(Str.ofString "src", Value.str src t1), (Str.ofString "pos", Value.int pos t2)].reverse.lookup y)) (X : (K0 w.params).In g) (N : News g L s.heap news) (T : Top p loose mean mg mb g)
  (hQ : ∀ h' tk m' t, Fr g L h' m' → News g L h' news → Q (.ret (.str (Str.ofString "end of document") t)) { s with heap := h', toks := tk })
  : wpAny (model PySem.Challenge.rw_in0014_01.row.prog w) (A₀.deeper (crdEnv L f c')) (execs b_crd (crdEnv L f c')) Q E s := by
  revert X; k_fill; intro X
  k_steps
  all_goals exact hQ _ _ _ _ (by assumption) (by assumption)
noncomputable abbrev lineCol (l c : Int) : Str := Str.empty ++ Str.ofString "line " ++ Str.ofString (toString l) ++ Str.ofString ", column " ++ Str.ofString (toString c)
theorem crd_one {f c' : Addr} {t1 t2 : Tok} {src : Str} {pos : Int} {cn : Int} (hlen : src.length ≤ 1000) (hp : ¬ pos ≥ (src.length : Int)) (hp0 : 0 ≤ pos)
  (hcn : ((Builtin.Str.occurrences src (Str.ofString "\n") (fromIndex src.length 0) (min (fromIndex src.length pos) src.length) (src.length + 1)).length : Int) = cn) (hcb : cn ≤ 1000) (hc0 : 0 ≤ cn)
  (h1 : cn + 1 = 1)
  (B : Below A₀ base outer g) (F : Fr g L s.heap (fun y => [(Str.ofString "src", Value.str src t1), (Str.ofString "pos", Value.int pos t2)].reverse.lookup y)) (X : (K0 w.params).In g) (N : News g L s.heap news) (T : Top p loose mean mg mb g)
  (hQ : ∀ h' tk m' t, Fr g L h' m' → News g L h' news → Q (.ret (.str (lineCol (cn + 1) (pos + 1)) t)) { s with heap := h', toks := tk })
  : wpAny (model PySem.Challenge.rw_in0014_01.row.prog w) (A₀.deeper (crdEnv L f c')) (execs b_crd (crdEnv L f c')) Q E s := by
  revert X; k_fill; intro X
  k_steps
  all_goals first | exact hQ _ _ _ _ (by assumption) (by assumption) | exact absurd h1 (by assumption)
theorem crd_more {f c' : Addr} {t1 t2 : Tok} {src : Str} {pos : Int} {cn : Int} {k : Nat} (hlen : src.length ≤ 1000) (hp : ¬ pos ≥ (src.length : Int)) (hp0 : 0 ≤ pos)
  (hcn : ((Builtin.Str.occurrences src (Str.ofString "\n") (fromIndex src.length 0) (min (fromIndex src.length pos) src.length) (src.length + 1)).length : Int) = cn) (hcb : cn ≤ 1000) (hc0 : 0 ≤ cn)
  (h1 : ¬ cn + 1 = 1) (hk : Builtin.Str.lastOccurrence src (Str.ofString "\n") (fromIndex src.length 0) (min (fromIndex src.length pos) src.length) = some k) (hkp : (k : Int) < pos)
  (B : Below A₀ base outer g) (F : Fr g L s.heap (fun y => [(Str.ofString "src", Value.str src t1), (Str.ofString "pos", Value.int pos t2)].reverse.lookup y)) (X : (K0 w.params).In g) (N : News g L s.heap news) (T : Top p loose mean mg mb g)
  (hQ : ∀ h' tk m' t, Fr g L h' m' → News g L h' news → Q (.ret (.str (lineCol (cn + 1) (pos - k)) t)) { s with heap := h', toks := tk })
  : wpAny (model PySem.Challenge.rw_in0014_01.row.prog w) (A₀.deeper (crdEnv L f c')) (execs b_crd (crdEnv L f c')) Q E s := by
  revert X; k_fill; intro X
  k_steps
  all_goals first | exact hQ _ _ _ _ (by assumption) (by assumption) | exact absurd (by assumption) h1
end
inductive Coord (src : Str) (pos : Int) : Str → Prop
  | eod : decide (pos ≥ (src.length : Int)) = true → Coord src pos (Str.ofString "end of document")
  | one {cn : Int} : ¬ pos ≥ (src.length : Int) → 0 ≤ pos → ((Builtin.Str.occurrences src (Str.ofString "\n") (fromIndex src.length 0) (min (fromIndex src.length pos) src.length) (src.length + 1)).length : Int) = cn → cn ≤ 1000 → 0 ≤ cn → cn + 1 = 1 → Coord src pos (lineCol (cn + 1) (pos + 1))
  | more {cn : Int} {k : Nat} : ¬ pos ≥ (src.length : Int) → 0 ≤ pos → ((Builtin.Str.occurrences src (Str.ofString "\n") (fromIndex src.length 0) (min (fromIndex src.length pos) src.length) (src.length + 1)).length : Int) = cn → cn ≤ 1000 → 0 ≤ cn → ¬ cn + 1 = 1 →
      Builtin.Str.lastOccurrence src (Str.ofString "\n") (fromIndex src.length 0) (min (fromIndex src.length pos) src.length) = some k → (k : Int) < pos → Coord src pos (lineCol (cn + 1) (pos - k))
section
variable {w : World} {A₀ : Around} {base g : Heap} {outer : List Env} {L0 L : Addr} {m mg mb : Str → Option Value} {p : Program} {loose : List Str} {mean : ExcName → Option Value} {news : List (Addr × Obj)} {s : Shared}
  {Q : Flow → Shared → Prop} {E : Value → Shared → Prop}
theorem crd_spec {f c' : Addr} {t1 t2 : Tok} {src txt : Str} {pos : Int} (C : Coord src pos txt) (hlen : src.length ≤ 1000)
  (B : Below A₀ base outer g) (F : Fr g L s.heap (fun y => [(Str.ofString "src", Value.str src t1), (Str.ofString "pos", Value.int pos t2)].reverse.lookup y)) (X : (K0 w.params).In g) (N : News g L s.heap news) (T : Top p loose mean mg mb g)
  (hQ : ∀ h' tk m' t, Fr g L h' m' → News g L h' news → Q (.ret (.str txt t)) { s with heap := h', toks := tk })
  : wpAny (model PySem.Challenge.rw_in0014_01.row.prog w) (A₀.deeper (crdEnv L f c')) (execs b_crd (crdEnv L f c')) Q E s := by
  cases C with
  | eod h => exact crd_end hlen h B F X N T hQ
  | one h1 h2 h3 h4 h5 h6 => exact crd_one hlen h1 h2 h3 h4 h5 h6 B F X N T hQ
  | more h1 h2 h3 h4 h5 h6 h7 h8 => exact crd_more hlen h1 h2 h3 h4 h5 h6 h7 h8 B F X N T hQ
end
noncomputable abbrev vErr : List Value := [.type "ValueError", .type "Exception", .type "BaseException", .type "object"]
theorem tde_ns (P : Params) : nsIn (K0 P) mainGlobals (Str.ofString "TOMLDecodeError") = some (some (.ref 46)) := by kernel_rfl
theorem tde_exc (P : Params) : excIn (K0 P) 46 vErr "ValueError.__new__" = true := by kernel_rfl
noncomputable abbrev excObj (t : Addr) : Obj := { cls := .ref 46, data := .fields #[.ref t, .none, .none, .none, .bool false, .none] }
noncomputable abbrev tupO (vs : List Value) : Obj := { cls := .type "tuple", data := .seq vs.toArray }
theorem tde_own {P : Params} {g : Heap} {p : Program} {loose : List Str} {mean : ExcName → Option Value} {mg mb : Str → Option Value} (X : (K0 P).In g) (T : Top p loose mean mg mb g) : OwnCls (Str.ofString "TOMLDecodeError") 46 vErr "ValueError.__new__" mg g :=
  own_of_in X (topRead_of T) (tde_ns P) (tde_exc P)
theorem call_tde {prog : Program} {w : World} {A : Around} {E : Value → Shared → Prop} {s : Shared} {P : Params} {g : Heap} {L : Addr} {m mg mb : Str → Option Value} {news : List (Addr × Obj)} {p : Program} {loose : List Str} {mean : ExcName → Option Value} {v : Value} {Q : Value → Shared → Prop}
    (F : Fr g L s.heap m) (N : News g L s.heap news) (X : (K0 P).In g) (T : Top p loose mean mg mb g)
    (h : ∀ e t h', Fr g L h' m → News g L h' ((e, excObj t) :: (t, tupO [v]) :: news) → (∀ q ∈ news, q.1 ≠ e) → (∀ q ∈ news, q.1 ≠ t) → e ≠ t → Q (.ref e) { s with heap := h' }) :
    wpAny (model prog w) A (call (.ref 46) [v]) Q E s := by
  obtain ⟨tl, Ns, nm, q, bs, hdct, sn, sub, ab, col, dd, k0, k1, k2, k3, k5, mN, hC, hN, hni, TL⟩ := ((tde_own X T).keeps F.keep).obj
  obtain ⟨hp, gg, d, tk, os⟩ := s
  refine wpAny_call_exc_subU (hrest := by size_fits) PySem.F.excBase_ValueError (by decide) PySem.F.excBase_ValueError TL hC hN hni fun h' e hm => ?_
  obtain ⟨t, he, htn, ht⟩ := hm.there
  have hLe : ∀ b o, hp.get? b = some o → b ≠ e := fun b o q z => by rw [z, hm.new] at q; cases q
  have hLt : ∀ b o, hp.get? b = some o → b ≠ t := fun b o q z => by rw [z, htn] at q; cases q
  obtain ⟨oL, es, ep, hL, r⟩ := F.ns
  have gn : ∀ b, hp.get? b = none → g.get? b = none := fun b q => by
    cases z : g.get? b with
    | none => rfl
    | some o => rw [F.keep b o z] at q; cases q
  have het : e ≠ t := fun z => by rw [z, ht] at he; cases he
  refine h e t h' ⟨⟨oL, es, ep, hm.keeps _ _ hL, r⟩, fun b o q => hm.keeps _ _ (F.keep b o q), F.above⟩ (fun q hq => ?_) (fun q hq => hLe _ _ (N q hq).1) (fun q hq => hLt _ _ (N q hq).1) het
  rcases List.mem_cons.mp hq with rfl | hq
  · exact ⟨he, (hLe _ _ hL).symm, gn _ hm.new⟩
  · rcases List.mem_cons.mp hq with rfl | hq
    · exact ⟨ht, (hLt _ _ hL).symm, gn _ htn⟩
    · exact ⟨hm.keeps _ _ (N q hq).1, (N q hq).2⟩
end
section
local macro_rules | `(tactic| walk_at "zz1") => `(tactic| skip)
local macro_rules | `(tactic| walk_at $s:str) => `(tactic| k_extra $s)
theorem rs_W5 : True := by w_top off; k_with_none; trivial
section
variable {w : World} {A₀ : Around} {base g : Heap} {outer : List Env} {L0 L : Addr} {m mg mb : Str → Option Value} {p : Program} {loose : List Str} {mean : ExcName → Option Value} {news : List (Addr × Obj)} {s : Shared}
  {Q : Flow → Shared → Prop} {E : Value → Shared → Prop}
local macro_rules | `(tactic| k_all) => `(tactic| with_reducible assumption)
theorem rk_W5_suf_2 : True := by
  k_with "execs cons" => (k_here; (with_reducible show wpAny _ (Around.deeper (Around.deeper _ (sufEnv _)) _) _ _ _ _); k_dflt (refine' crd_spec ?Cd ?ld ?Bd ?Fd ?Xd ?Nd ?Td ?_; (case Cd => with_reducible assumption); (case ld => with_reducible assumption); (case Bd => k_asm); (case Fd => k_asm); (case Xd => k_asm); (case Nd => k_asm); (case Td => k_asm); k_whole); intro h'q tk'q m'q t'q F'q N'q)
  k_with "execs cons" => (k_here; (with_reducible show wpAny _ (Around.deeper (Around.deeper _ (sufEnv _)) _) _ _ _ _); k_dflt (refine' crd_spec ?Cc ?lc ?Bc ?Fc ?Xc ?Nc ?Tc ?_; (case Cc => with_reducible assumption); (case lc => with_reducible assumption); (case Bc => k_asm); (case Fc => k_asm); (case Xc => k_asm); (case Nc => k_asm); (case Tc => k_asm); k_whole); intro h'q tk'q m'q t'q F'q N'q)
  k_with "execs cons" => (k_here; (with_reducible show wpAny _ (Around.deeper (Around.deeper _ (sufEnv _)) _) _ _ _ _); k_dflt (refine' crd_spec ?Cb ?lb ?Bb ?Fb ?Xb ?Nb ?Tb ?_; (case Cb => with_reducible assumption); (case lb => with_reducible assumption); (case Bb => k_asm); (case Fb => k_asm); (case Xb => k_asm); (case Nb => k_asm); (case Tb => k_asm); k_whole); intro h'q tk'q m'q t'q F'q N'q)
  k_with "execs cons" => (k_here; (with_reducible show wpAny _ (Around.deeper (Around.deeper _ (sufEnv _)) _) _ _ _ _); k_dflt (refine' crd_spec ?Ca ?la ?Ba ?Fa ?Xa ?Na ?Ta ?_; (case Ca => with_reducible assumption); (case la => with_reducible assumption); (case Ba => k_asm); (case Fa => k_asm); (case Xa => k_asm); (case Na => k_asm); (case Ta => k_asm); k_whole); intro h'q tk'q m'q t'q F'q N'q)
  k_with "call ref" => (k_here; (with_reducible show wpAny _ _ (call (Value.ref 46) [Value.str _ _]) _ _ _); k_dflt (refine' call_tde ?Fd ?Nd ?Xd ?Td ?_; (case Fd => k_asm); (case Nd => k_asm); (case Xd => k_asm); (case Td => k_asm); k_whole); intro e'q t'q h'q F'q N'q l1q l2q l3q)
  k_with "call ref" => (k_here; (with_reducible show wpAny _ _ (call (Value.ref 46) [Value.str _ _]) _ _ _); k_dflt (refine' call_tde ?Fc ?Nc ?Xc ?Tc ?_; (case Fc => k_asm); (case Nc => k_asm); (case Xc => k_asm); (case Tc => k_asm); k_whole); intro e'q t'q h'q F'q N'q l1q l2q l3q)
  k_with "call ref" => (k_here; (with_reducible show wpAny _ _ (call (Value.ref 46) [Value.str _ _]) _ _ _); k_dflt (refine' call_tde ?Fb ?Nb ?Xb ?Tb ?_; (case Fb => k_asm); (case Nb => k_asm); (case Xb => k_asm); (case Tb => k_asm); k_whole); intro e'q t'q h'q F'q N'q l1q l2q l3q)
  k_with "call ref" => (k_here; (with_reducible show wpAny _ _ (call (Value.ref 46) [Value.str _ _]) _ _ _); k_dflt (refine' call_tde ?Fa ?Na ?Xa ?Ta ?_; (case Fa => k_asm); (case Na => k_asm); (case Xa => k_asm); (case Ta => k_asm); k_whole); intro e'q t'q h'q F'q N'q l1q l2q l3q)
  trivial
noncomputable abbrev crdQual (L : Addr) : Str := qualnameIn (sufEnv L) (Str.ofString "coord_repr") (Str.ofString "coord_repr")
noncomputable abbrev sayAt (msg txt : Str) : Str := Str.empty ++ msg ++ Str.ofString " (at " ++ txt ++ Str.ofString ")"
theorem suf_first {L1 L2 : Addr} {t1 t2 t3 : Tok} {src txt msg : Str} {pos : Int} (Cd : Coord src pos txt) (hlen : src.length ≤ 1000) (hmsg : msg.length ≤ 1000) (htxt : txt.length ≤ 1000)
  (C : CodeHd g 69 65) (hL : 65 < L) (hoff : ∀ p ∈ news, p.1 ≠ 65)
  (B : Below (skipA L0 L1 L2) base [skipEnv L2, parseEnv L1, lawEnv L0] g) (F : Fr g L s.heap (fun y => [(Str.ofString "src", Value.str src t1), (Str.ofString "pos", Value.int pos t2), (Str.ofString "msg", Value.str msg t3)].reverse.lookup y)) (X : (K0 w.params).In g) (N : News g L s.heap ((65, tabObj #[]) :: news)) (T : Top p loose mean mg mb g)
  (hQ : ∀ e t tt f of c' oc vs tq h' tk m', Fr g L h' m' → News g L h' ((e, excObj t) :: (t, tupO [.str (sayAt msg txt) tt]) :: (f, of) :: (c', oc) :: (65, tabObj (#[] ++ #[rawInt 26, rawInt 4, .ref c'])) :: news) → oc.data = .fields vs → vs[1]? = some (.str (crdQual L) tq) → c' < f → 65 < c' ∧ AllLt c' news →
    (∀ q ∈ (f, of) :: (c', oc) :: (65, tabObj (#[] ++ #[rawInt 26, rawInt 4, .ref c'])) :: news, q.1 ≠ e) → (∀ q ∈ (f, of) :: (c', oc) :: (65, tabObj (#[] ++ #[rawInt 26, rawInt 4, .ref c'])) :: news, q.1 ≠ t) → e ≠ t →
    Q (.ret (.ref e)) { s with heap := h', toks := tk })
  : wpAny (model PySem.Challenge.rw_in0014_01.row.prog w) ((skipA L0 L1 L2).deeper (sufEnv L)) (execs b_suf (sufEnv L)) Q E s := by
  revert X; k_fill; intro X
  k_steps
  all_goals exact hQ _ _ _ _ _ _ _ _ _ _ _ _ (by assumption) (by assumption) (by assumption) (by assumption) (by assumption) (by assumption) (by assumption) (by assumption) (by assumption)
theorem suf_hit {L1 L2 c' : Addr} {oc : Obj} {vs : Array Value} {tq : Tok} {t1 t2 t3 : Tok} {src txt msg : Str} {pos : Int} (Cd : Coord src pos txt) (hlen : src.length ≤ 1000) (hmsg : msg.length ≤ 1000) (htxt : txt.length ≤ 1000)
  (C : CodeHd g 69 65) (hL : 65 < L) (hoc : oc.data = .fields vs) (hvs : vs[1]? = some (.str (crdQual L) tq))
  (B : Below (skipA L0 L1 L2) base [skipEnv L2, parseEnv L1, lawEnv L0] g) (F : Fr g L s.heap (fun y => [(Str.ofString "src", Value.str src t1), (Str.ofString "pos", Value.int pos t2), (Str.ofString "msg", Value.str msg t3)].reverse.lookup y)) (X : (K0 w.params).In g)
  (N : News g L s.heap ((65, tabObj #[rawInt 26, rawInt 4, .ref c']) :: (c', oc) :: news)) (T : Top p loose mean mg mb g)
  (hQ : ∀ e t tt f of h' tk m', Fr g L h' m' → News g L h' ((e, excObj t) :: (t, tupO [.str (sayAt msg txt) tt]) :: (f, of) :: (65, tabObj #[rawInt 26, rawInt 4, .ref c']) :: (c', oc) :: news) → (65 < f ∧ c' < f ∧ AllLt f news) →
    (∀ q ∈ (f, of) :: (65, tabObj #[rawInt 26, rawInt 4, .ref c']) :: (c', oc) :: news, q.1 ≠ e) → (∀ q ∈ (f, of) :: (65, tabObj #[rawInt 26, rawInt 4, .ref c']) :: (c', oc) :: news, q.1 ≠ t) → e ≠ t →
    Q (.ret (.ref e)) { s with heap := h', toks := tk })
  : wpAny (model PySem.Challenge.rw_in0014_01.row.prog w) ((skipA L0 L1 L2).deeper (sufEnv L)) (execs b_suf (sufEnv L)) Q E s := by
  revert X; k_fill; intro X
  k_steps
  all_goals exact hQ _ _ _ _ _ _ _ _ (by assumption) (by assumption) (by assumption) (by assumption) (by assumption) (by assumption)
end
end
noncomputable def TabSt (news : List (Addr × Obj)) (ps : Array Value) : Prop := ps = #[] ∨ ∃ c' oc vs t, ps = #[rawInt 26, rawInt 4, .ref c'] ∧ (c', oc) ∈ news ∧ oc.data = .fields vs ∧ vs[1]? = some (.str (crdQual 0) t)
theorem TabSt.mono {n n' : List (Addr × Obj)} {ps : Array Value} (h : TabSt n ps) (hs : ∀ p ∈ n, p ∈ n') : TabSt n' ps := h.imp id fun ⟨c', oc, vs, t, e, hm, r⟩ => ⟨c', oc, vs, t, e, hs _ hm, r⟩
theorem news_ne {h₀ h : Heap} {L a b : Addr} {news : List (Addr × Obj)} {oa ob : Obj} (N : News h₀ L h news) (ha : (a, oa) ∈ news) (hb : (b, ob) ∈ news) (hne : oa.cls ≠ ob.cls) : a ≠ b := fun e => by
  have h1 := (N _ ha).1
  have h2 := (N _ hb).1
  simp only at h1 h2
  rw [e, h2] at h1
  cases h1
  exact hne rfl
section
variable {w : World} {A₀ : Around} {base g : Heap} {outer : List Env} {L0 L : Addr} {m mg mb : Str → Option Value} {p : Program} {loose : List Str} {mean : ExcName → Option Value} {news : List (Addr × Obj)} {s : Shared}
  {Q : Flow → Shared → Prop} {E : Value → Shared → Prop}
theorem suf_spec {L1 L2 : Addr} {ps : Array Value} {t1 t2 t3 : Tok} {src txt msg : Str} {pos : Int} (Cd : Coord src pos txt) (hlen : src.length ≤ 1000) (hmsg : msg.length ≤ 1000) (htxt : txt.length ≤ 1000)
  (C : CodeHd g 69 65) (hL : 65 < L) (hoff : ∀ p ∈ news, p.1 ≠ 65) (hT : TabSt news ps)
  (B : Below (skipA L0 L1 L2) base [skipEnv L2, parseEnv L1, lawEnv L0] g) (F : Fr g L s.heap (fun y => [(Str.ofString "src", Value.str src t1), (Str.ofString "pos", Value.int pos t2), (Str.ofString "msg", Value.str msg t3)].reverse.lookup y)) (X : (K0 w.params).In g) (N : News g L s.heap ((65, tabObj ps) :: news)) (T : Top p loose mean mg mb g)
  (hQ : ∀ e t tt h' tk m' ps' news', Fr g L h' m' → News g L h' ((65, tabObj ps') :: news') → (∀ p ∈ news, p ∈ news') → (e, excObj t) ∈ news' → (t, tupO [.str (sayAt msg txt) tt]) ∈ news' → TabSt news' ps' → (∀ p ∈ news', p.1 ≠ 65) → (∀ p ∈ news, p.1 ≠ e ∧ p.1 ≠ t) → e ≠ t →
    Q (.ret (.ref e)) { s with heap := h', toks := tk })
  : wpAny (model PySem.Challenge.rw_in0014_01.row.prog w) ((skipA L0 L1 L2).deeper (sufEnv L)) (execs b_suf (sufEnv L)) Q E s := by
  rcases hT with rfl | ⟨c', oc, vs, tq, rfl, hm, hd, hv⟩
  · refine suf_first Cd hlen hmsg htxt C hL hoff B F X N T fun e t tt f of c' oc vs tq h' tk m' F' N' hd hv hcf hlt ne1 ne2 net => ?_
    have hsub : ∀ p ∈ news, p ∈ ((e, excObj t) :: (t, tupO [.str (sayAt msg txt) tt]) :: (f, of) :: (c', oc) :: news) := fun p hp => by simp [hp]
    have he : e ≠ 65 := news_ne N' (List.Mem.head _) (ob := tabObj (#[] ++ #[rawInt 26, rawInt 4, .ref c'])) (by repeat (first | exact List.Mem.head _ | refine List.Mem.tail _ ?_)) (by simp)
    have ht : t ≠ 65 := news_ne N' (List.Mem.tail _ (List.Mem.head _)) (ob := tabObj (#[] ++ #[rawInt 26, rawInt 4, .ref c'])) (by repeat (first | exact List.Mem.head _ | refine List.Mem.tail _ ?_)) (by simp)
    have hc : c' ≠ 65 := Nat.ne_of_gt hlt.1
    have hf : f ≠ 65 := Nat.ne_of_gt (Nat.lt_trans hlt.1 hcf)
    refine hQ e t tt h' tk m' (#[] ++ #[rawInt 26, rawInt 4, .ref c']) ((e, excObj t) :: (t, tupO [.str (sayAt msg txt) tt]) :: (f, of) :: (c', oc) :: news) F' (fun p hp => N' p ?_) hsub (.head _) (.tail _ (.head _)) (.inr ⟨c', oc, vs, tq, by simp, .tail _ (.tail _ (.tail _ (.head _))), hd, hv⟩) ?_ (fun p hp => ⟨ne1 p (by simp [hp]), ne2 p (by simp [hp])⟩) net
    · simp only [List.mem_cons] at hp ⊢
      rcases hp with h | h | h | h | h | h <;> simp [h]
    · intro p hp
      simp only [List.mem_cons] at hp
      rcases hp with rfl | rfl | rfl | rfl | h
      · exact he
      · exact ht
      · exact hf
      · exact hc
      · exact hoff p h
  · refine suf_hit (tq := tq) (c' := c') (oc := oc) (news := news) Cd hlen hmsg htxt C hL hd hv B F X (fun p hp => ?_) T fun e t tt f of h' tk m' F' N' hlt ne1 ne2 net => ?_
    · rcases List.mem_cons.mp hp with rfl | hp
      · exact N _ (.head _)
      · rcases List.mem_cons.mp hp with rfl | hp
        · exact N _ (.tail _ hm)
        · exact N _ (.tail _ hp)
    · have hsub : ∀ p ∈ news, p ∈ ((e, excObj t) :: (t, tupO [.str (sayAt msg txt) tt]) :: (f, of) :: (c', oc) :: news) := fun p hp => by simp [hp]
      have he : e ≠ 65 := news_ne N' (List.Mem.head _) (ob := tabObj #[rawInt 26, rawInt 4, .ref c']) (by repeat (first | exact List.Mem.head _ | refine List.Mem.tail _ ?_)) (by simp)
      have ht : t ≠ 65 := news_ne N' (List.Mem.tail _ (List.Mem.head _)) (ob := tabObj #[rawInt 26, rawInt 4, .ref c']) (by repeat (first | exact List.Mem.head _ | refine List.Mem.tail _ ?_)) (by simp)
      refine hQ e t tt h' tk m' #[rawInt 26, rawInt 4, .ref c'] ((e, excObj t) :: (t, tupO [.str (sayAt msg txt) tt]) :: (f, of) :: (c', oc) :: news) F' (fun p hp => N' p ?_) hsub (.head _) (.tail _ (.head _)) (.inr ⟨c', oc, vs, tq, rfl, .tail _ (.tail _ (.tail _ (.head _))), hd, hv⟩) ?_ (fun p hp => ⟨ne1 p (by simp [hp]), ne2 p (by simp [hp])⟩) net
      · simp only [List.mem_cons] at hp ⊢
        rcases hp with h | h | h | h | h | h <;> simp [h]
      · intro p hp
        simp only [List.mem_cons] at hp
        rcases hp with rfl | rfl | rfl | rfl | h
        · exact he
        · exact ht
        · exact Nat.ne_of_gt hlt.1
        · exact hoff _ hm
        · exact hoff p h
end
section
local macro_rules | `(tactic| walk_at $s:str) => `(tactic| k_extra $s)
theorem rs_W5m : True := by w_top off; k_with_none; trivial
section
variable {w : World} {A₀ : Around} {base g : Heap} {outer : List Env} {L0 L : Addr} {m mg mb : Str → Option Value} {p : Program} {loose : List Str} {mean : ExcName → Option Value} {news : List (Addr × Obj)} {s : Shared}
  {Q : Flow → Shared → Prop} {E : Value → Shared → Prop}
local macro_rules | `(tactic| k_all) => `(tactic| with_reducible assumption)
theorem rk_W5m_sufm_2 : True := by
  k_with "execs cons" => (k_here; (with_reducible show wpAny _ (Around.deeper (Around.deeper _ (sufEnv _)) _) _ _ _ _); k_dflt (refine' crd_spec ?Cd ?ld ?Bd ?Fd ?Xd ?Nd ?Td ?_; (case Cd => with_reducible assumption); (case ld => with_reducible assumption); (case Bd => k_asm); (case Fd => k_asm); (case Xd => k_asm); (case Nd => k_asm); (case Td => k_asm); k_whole); intro h'q tk'q m'q t'q F'q N'q)
  k_with "execs cons" => (k_here; (with_reducible show wpAny _ (Around.deeper (Around.deeper _ (sufEnv _)) _) _ _ _ _); k_dflt (refine' crd_spec ?Cc ?lc ?Bc ?Fc ?Xc ?Nc ?Tc ?_; (case Cc => with_reducible assumption); (case lc => with_reducible assumption); (case Bc => k_asm); (case Fc => k_asm); (case Xc => k_asm); (case Nc => k_asm); (case Tc => k_asm); k_whole); intro h'q tk'q m'q t'q F'q N'q)
  k_with "execs cons" => (k_here; (with_reducible show wpAny _ (Around.deeper (Around.deeper _ (sufEnv _)) _) _ _ _ _); k_dflt (refine' crd_spec ?Cb ?lb ?Bb ?Fb ?Xb ?Nb ?Tb ?_; (case Cb => with_reducible assumption); (case lb => with_reducible assumption); (case Bb => k_asm); (case Fb => k_asm); (case Xb => k_asm); (case Nb => k_asm); (case Tb => k_asm); k_whole); intro h'q tk'q m'q t'q F'q N'q)
  k_with "execs cons" => (k_here; (with_reducible show wpAny _ (Around.deeper (Around.deeper _ (sufEnv _)) _) _ _ _ _); k_dflt (refine' crd_spec ?Ca ?la ?Ba ?Fa ?Xa ?Na ?Ta ?_; (case Ca => with_reducible assumption); (case la => with_reducible assumption); (case Ba => k_asm); (case Fa => k_asm); (case Xa => k_asm); (case Na => k_asm); (case Ta => k_asm); k_whole); intro h'q tk'q m'q t'q F'q N'q)
  k_with "call ref" => (k_here; (with_reducible show wpAny _ _ (call (Value.ref 46) [Value.str _ _]) _ _ _); k_dflt (refine' call_tde ?Fd ?Nd ?Xd ?Td ?_; (case Fd => k_asm); (case Nd => k_asm); (case Xd => k_asm); (case Td => k_asm); k_whole); intro e'q t'q h'q F'q N'q l1q l2q l3q)
  k_with "call ref" => (k_here; (with_reducible show wpAny _ _ (call (Value.ref 46) [Value.str _ _]) _ _ _); k_dflt (refine' call_tde ?Fc ?Nc ?Xc ?Tc ?_; (case Fc => k_asm); (case Nc => k_asm); (case Xc => k_asm); (case Tc => k_asm); k_whole); intro e'q t'q h'q F'q N'q l1q l2q l3q)
  k_with "call ref" => (k_here; (with_reducible show wpAny _ _ (call (Value.ref 46) [Value.str _ _]) _ _ _); k_dflt (refine' call_tde ?Fb ?Nb ?Xb ?Tb ?_; (case Fb => k_asm); (case Nb => k_asm); (case Xb => k_asm); (case Tb => k_asm); k_whole); intro e'q t'q h'q F'q N'q l1q l2q l3q)
  k_with "call ref" => (k_here; (with_reducible show wpAny _ _ (call (Value.ref 46) [Value.str _ _]) _ _ _); k_dflt (refine' call_tde ?Fa ?Na ?Xa ?Ta ?_; (case Fa => k_asm); (case Na => k_asm); (case Xa => k_asm); (case Ta => k_asm); k_whole); intro e'q t'q h'q F'q N'q l1q l2q l3q)
  trivial
theorem suf_first_m {L1 L2 e0 : Addr} {t1 t2 t3 : Tok} {src txt msg : Str} {pos : Int} (Cd : Coord src pos txt) (hlen : src.length ≤ 1000) (hmsg : msg.length ≤ 1000) (htxt : txt.length ≤ 1000)
  (C : CodeHd g 69 65) (hL : 65 < L) (hoff : ∀ p ∈ news, p.1 ≠ 65)
  (B : Below ((skipA L0 L1 L2).mark (some (.ref e0))) base [skipEnv L2, parseEnv L1, lawEnv L0] g) (F : Fr g L s.heap (fun y => [(Str.ofString "src", Value.str src t1), (Str.ofString "pos", Value.int pos t2), (Str.ofString "msg", Value.str msg t3)].reverse.lookup y)) (X : (K0 w.params).In g) (N : News g L s.heap ((65, tabObj #[]) :: news)) (T : Top p loose mean mg mb g)
  (hQ : ∀ e t tt f of c' oc vs tq h' tk m', Fr g L h' m' → News g L h' ((e, excObj t) :: (t, tupO [.str (sayAt msg txt) tt]) :: (f, of) :: (c', oc) :: (65, tabObj (#[] ++ #[rawInt 26, rawInt 4, .ref c'])) :: news) → oc.data = .fields vs → vs[1]? = some (.str (crdQual L) tq) → c' < f → 65 < c' ∧ AllLt c' news →
    (∀ q ∈ (f, of) :: (c', oc) :: (65, tabObj (#[] ++ #[rawInt 26, rawInt 4, .ref c'])) :: news, q.1 ≠ e) → (∀ q ∈ (f, of) :: (c', oc) :: (65, tabObj (#[] ++ #[rawInt 26, rawInt 4, .ref c'])) :: news, q.1 ≠ t) → e ≠ t →
    Q (.ret (.ref e)) { s with heap := h', toks := tk })
  : wpAny (model PySem.Challenge.rw_in0014_01.row.prog w) (((skipA L0 L1 L2).mark (some (.ref e0))).deeper (sufEnv L)) (execs b_suf (sufEnv L)) Q E s := by
  revert X; k_fill; intro X
  k_steps
  all_goals exact hQ _ _ _ _ _ _ _ _ _ _ _ _ (by assumption) (by assumption) (by assumption) (by assumption) (by assumption) (by assumption) (by assumption) (by assumption) (by assumption)
theorem suf_hit_m {L1 L2 c' e0 : Addr} {oc : Obj} {vs : Array Value} {tq : Tok} {t1 t2 t3 : Tok} {src txt msg : Str} {pos : Int} (Cd : Coord src pos txt) (hlen : src.length ≤ 1000) (hmsg : msg.length ≤ 1000) (htxt : txt.length ≤ 1000)
  (C : CodeHd g 69 65) (hL : 65 < L) (hoc : oc.data = .fields vs) (hvs : vs[1]? = some (.str (crdQual L) tq))
  (B : Below ((skipA L0 L1 L2).mark (some (.ref e0))) base [skipEnv L2, parseEnv L1, lawEnv L0] g) (F : Fr g L s.heap (fun y => [(Str.ofString "src", Value.str src t1), (Str.ofString "pos", Value.int pos t2), (Str.ofString "msg", Value.str msg t3)].reverse.lookup y)) (X : (K0 w.params).In g)
  (N : News g L s.heap ((65, tabObj #[rawInt 26, rawInt 4, .ref c']) :: (c', oc) :: news)) (T : Top p loose mean mg mb g)
  (hQ : ∀ e t tt f of h' tk m', Fr g L h' m' → News g L h' ((e, excObj t) :: (t, tupO [.str (sayAt msg txt) tt]) :: (f, of) :: (65, tabObj #[rawInt 26, rawInt 4, .ref c']) :: (c', oc) :: news) → (65 < f ∧ c' < f ∧ AllLt f news) →
    (∀ q ∈ (f, of) :: (65, tabObj #[rawInt 26, rawInt 4, .ref c']) :: (c', oc) :: news, q.1 ≠ e) → (∀ q ∈ (f, of) :: (65, tabObj #[rawInt 26, rawInt 4, .ref c']) :: (c', oc) :: news, q.1 ≠ t) → e ≠ t →
    Q (.ret (.ref e)) { s with heap := h', toks := tk })
  : wpAny (model PySem.Challenge.rw_in0014_01.row.prog w) (((skipA L0 L1 L2).mark (some (.ref e0))).deeper (sufEnv L)) (execs b_suf (sufEnv L)) Q E s := by
  revert X; k_fill; intro X
  k_steps
  all_goals exact hQ _ _ _ _ _ _ _ _ (by assumption) (by assumption) (by assumption) (by assumption) (by assumption) (by assumption)
end
end
section
variable {w : World} {A₀ : Around} {base g : Heap} {outer : List Env} {L0 L : Addr} {m mg mb : Str → Option Value} {p : Program} {loose : List Str} {mean : ExcName → Option Value} {news : List (Addr × Obj)} {s : Shared}
  {Q : Flow → Shared → Prop} {E : Value → Shared → Prop}
theorem suf_spec_m {L1 L2 e0 : Addr} {ps : Array Value} {t1 t2 t3 : Tok} {src txt msg : Str} {pos : Int} (Cd : Coord src pos txt) (hlen : src.length ≤ 1000) (hmsg : msg.length ≤ 1000) (htxt : txt.length ≤ 1000)
  (C : CodeHd g 69 65) (hL : 65 < L) (hoff : ∀ p ∈ news, p.1 ≠ 65) (hT : TabSt news ps)
  (B : Below ((skipA L0 L1 L2).mark (some (.ref e0))) base [skipEnv L2, parseEnv L1, lawEnv L0] g) (F : Fr g L s.heap (fun y => [(Str.ofString "src", Value.str src t1), (Str.ofString "pos", Value.int pos t2), (Str.ofString "msg", Value.str msg t3)].reverse.lookup y)) (X : (K0 w.params).In g) (N : News g L s.heap ((65, tabObj ps) :: news)) (T : Top p loose mean mg mb g)
  (hQ : ∀ e t tt h' tk m' ps' news', Fr g L h' m' → News g L h' ((65, tabObj ps') :: news') → (∀ p ∈ news, p ∈ news') → (e, excObj t) ∈ news' → (t, tupO [.str (sayAt msg txt) tt]) ∈ news' → TabSt news' ps' → (∀ p ∈ news', p.1 ≠ 65) → (∀ p ∈ news, p.1 ≠ e ∧ p.1 ≠ t) → e ≠ t →
    Q (.ret (.ref e)) { s with heap := h', toks := tk })
  : wpAny (model PySem.Challenge.rw_in0014_01.row.prog w) (((skipA L0 L1 L2).mark (some (.ref e0))).deeper (sufEnv L)) (execs b_suf (sufEnv L)) Q E s := by
  rcases hT with rfl | ⟨c', oc, vs, tq, rfl, hm, hd, hv⟩
  · refine suf_first_m Cd hlen hmsg htxt C hL hoff B F X N T fun e t tt f of c' oc vs tq h' tk m' F' N' hd hv hcf hlt ne1 ne2 net => ?_
    have hsub : ∀ p ∈ news, p ∈ ((e, excObj t) :: (t, tupO [.str (sayAt msg txt) tt]) :: (f, of) :: (c', oc) :: news) := fun p hp => by simp [hp]
    have he : e ≠ 65 := news_ne N' (List.Mem.head _) (ob := tabObj (#[] ++ #[rawInt 26, rawInt 4, .ref c'])) (by repeat (first | exact List.Mem.head _ | refine List.Mem.tail _ ?_)) (by simp)
    have ht : t ≠ 65 := news_ne N' (List.Mem.tail _ (List.Mem.head _)) (ob := tabObj (#[] ++ #[rawInt 26, rawInt 4, .ref c'])) (by repeat (first | exact List.Mem.head _ | refine List.Mem.tail _ ?_)) (by simp)
    have hc : c' ≠ 65 := Nat.ne_of_gt hlt.1
    have hf : f ≠ 65 := Nat.ne_of_gt (Nat.lt_trans hlt.1 hcf)
    refine hQ e t tt h' tk m' (#[] ++ #[rawInt 26, rawInt 4, .ref c']) ((e, excObj t) :: (t, tupO [.str (sayAt msg txt) tt]) :: (f, of) :: (c', oc) :: news) F' (fun p hp => N' p ?_) hsub (.head _) (.tail _ (.head _)) (.inr ⟨c', oc, vs, tq, by simp, .tail _ (.tail _ (.tail _ (.head _))), hd, hv⟩) ?_ (fun p hp => ⟨ne1 p (by simp [hp]), ne2 p (by simp [hp])⟩) net
    · simp only [List.mem_cons] at hp ⊢
      rcases hp with h | h | h | h | h | h <;> simp [h]
    · intro p hp
      simp only [List.mem_cons] at hp
      rcases hp with rfl | rfl | rfl | rfl | h
      · exact he
      · exact ht
      · exact hf
      · exact hc
      · exact hoff p h
  · refine suf_hit_m (tq := tq) (c' := c') (oc := oc) (news := news) Cd hlen hmsg htxt C hL hd hv B F X (fun p hp => ?_) T fun e t tt f of h' tk m' F' N' hlt ne1 ne2 net => ?_
    · rcases List.mem_cons.mp hp with rfl | hp
      · exact N _ (.head _)
      · rcases List.mem_cons.mp hp with rfl | hp
        · exact N _ (.tail _ hm)
        · exact N _ (.tail _ hp)
    · have hsub : ∀ p ∈ news, p ∈ ((e, excObj t) :: (t, tupO [.str (sayAt msg txt) tt]) :: (f, of) :: (c', oc) :: news) := fun p hp => by simp [hp]
      have he : e ≠ 65 := news_ne N' (List.Mem.head _) (ob := tabObj #[rawInt 26, rawInt 4, .ref c']) (by repeat (first | exact List.Mem.head _ | refine List.Mem.tail _ ?_)) (by simp)
      have ht : t ≠ 65 := news_ne N' (List.Mem.tail _ (List.Mem.head _)) (ob := tabObj #[rawInt 26, rawInt 4, .ref c']) (by repeat (first | exact List.Mem.head _ | refine List.Mem.tail _ ?_)) (by simp)
      refine hQ e t tt h' tk m' #[rawInt 26, rawInt 4, .ref c'] ((e, excObj t) :: (t, tupO [.str (sayAt msg txt) tt]) :: (f, of) :: (c', oc) :: news) F' (fun p hp => N' p ?_) hsub (.head _) (.tail _ (.head _)) (.inr ⟨c', oc, vs, tq, rfl, .tail _ (.tail _ (.tail _ (.head _))), hd, hv⟩) ?_ (fun p hp => ⟨ne1 p (by simp [hp]), ne2 p (by simp [hp])⟩) net
      · simp only [List.mem_cons] at hp ⊢
        rcases hp with h | h | h | h | h | h <;> simp [h]
      · intro p hp
        simp only [List.mem_cons] at hp
        rcases hp with rfl | rfl | rfl | rfl | h
        · exact he
        · exact ht
        · exact Nat.ne_of_gt hlt.1
        · exact hoff _ hm
        · exact hoff p h
end
theorem f_plainAttrs : PlainAttrs "frozenset" :=
  ⟨⟨"object.__getattribute__", by rw [typeLookup_type, builtinLookup_eq_fast]; kernel_rfl, by decide +kernel⟩, by rw [typeLookup_type, builtinLookup_eq_fast]; kernel_rfl⟩
theorem f_owner : Manifest.owners.lookup (String.ofList ['t', 'e', 's', 'n', 'e', 'z', 'o', 'r', 'f'].reverse) = some Manifest.sig_frozenset := by kernel_rfl
theorem f_slot_isdisjoint : Slot "frozenset" "isdisjoint" "frozenset.isdisjoint" :=
  .of (owner := "frozenset") (n := "isdisjoint") (by rw [typeLookup_type, builtinLookup_eq_fast]; kernel_rfl) (by decide +kernel) (by decide +kernel) (by decide +kernel)
    (by first | exact .inl (by decide +kernel) | exact .inr (by decide +kernel)) (by rw [isSubtype_type]; kernel_rfl)
theorem f_type_isdisjoint : typeOf (.builtin "frozenset.isdisjoint") = pure (.type "method_descriptor") := by show builtinType _ = _; rw [builtinType_eq_fast]; kernel_rfl
theorem f_entry_isdisjoint : entryFor table "frozenset.isdisjoint" = some Builtin.«frozenset.isdisjoint» := entryFor_of_tree (by kernel_rfl)
theorem f_entry_loop : entryFor table "frozenset.isdisjoint.loop" = some Builtin.«frozenset.isdisjoint.loop» := entryFor_of_tree (by kernel_rfl)
theorem f_plain_loop : plainId "frozenset.isdisjoint.loop" = true := by decide +kernel
theorem f_args_isdisjoint (a b : Value) : argsOk "frozenset.isdisjoint" ⟨[a, b], []⟩ := by
  unfold argsOk; rw [signature?_of (id := "frozenset.isdisjoint") (n := ['t', 'n', 'i', 'o', 'j', 's', 'i', 'd', 's', 'i']) (o := ['t', 'e', 's', 'n', 'e', 'z', 'o', 'r', 'f']) (by kernel_rfl) f_owner]; kernel_rfl
theorem f_slot_contains : Slot "frozenset" "__contains__" "frozenset.__contains__" :=
  .of (owner := "frozenset") (n := "__contains__") (by rw [typeLookup_type, builtinLookup_eq_fast]; kernel_rfl) (by decide +kernel) (by decide +kernel) (by decide +kernel)
    (by first | exact .inl (by decide +kernel) | exact .inr (by decide +kernel)) (by rw [isSubtype_type]; kernel_rfl)
theorem f_entry_contains : entryFor table "frozenset.__contains__" = some Builtin.«frozenset.__contains__» := entryFor_of_tree (by kernel_rfl)
theorem f_args_contains (a b : Value) : argsOk "frozenset.__contains__" ⟨[a, b], []⟩ := by
  unfold argsOk; rw [signature?_of (id := "frozenset.__contains__") (n := ['_', '_', 's', 'n', 'i', 'a', 't', 'n', 'o', 'c', '_', '_']) (o := ['t', 'e', 's', 'n', 'e', 'z', 'o', 'r', 'f']) (by kernel_rfl) f_owner]; kernel_rfl
noncomputable def FS (prog : Program) (w : World) (h : Heap) (a : Addr) (S : Str → Bool) : Prop := ∃ es ep t, h.get? a = some ({ cls := .type "frozenset", data := .set es ep t } : Obj) ∧ ElemsOf (strKind prog w) es.toList ∧
  (∀ k, S k = true ↔ ∃ e ∈ es.toList, (strKind prog w).is k e.2 = true) ∧ es.size < scanBound ∧ t.fits es.size = true
theorem FS.keeps {prog : Program} {w : World} {h h' : Heap} {a : Addr} {S : Str → Bool} (x : FS prog w h a S) (k : ∀ b o, h.get? b = some o → h'.get? b = some o) : FS prog w h' a S :=
  let ⟨es, ep, t, e, r⟩ := x; ⟨es, ep, t, k _ _ e, r⟩
section
variable {prog : Program} {w : World} {A : Around} {E : Value → Shared → Prop} {s : Shared} {a : Addr} {S : Str → Bool} {x : Str} {t : Tok}
theorem FS.typeIs (f : FS prog w s.heap a S) : s.TypeIs (.ref a) "frozenset" := let ⟨_, _, _, e, _⟩ := f; ⟨_, e, rfl⟩
theorem fs_find {Q : Option Nat → Shared → Prop} (f : FS prog w s.heap a S) (h : ∀ r : Option Nat, r.isSome = S x → Q r s) : wpAny (model prog w) A (setFind a (.str x t) ((strKind prog w).hash x)) Q E s := by
  obtain ⟨es, ep, tb, ho, hel, hmem, hb, hf⟩ := f
  have key := strKind_is prog w x t
  unfold setFind setFindIn
  refine wpAny_bind (wpAny_setState_of ho rfl hf ?_)
  dsimp only
  rw [byScan_of (x := .str x t) rfl hb hel]
  simp only [↓reduceIte]
  refine wpAny_bind (wpAny_rule (wpAny_bind (wpAny_setScan_of key ho rfl hf hel ?_)))
  have hk := hmem x
  cases hr : List.findIdx? (fun e => (strKind prog w).is x e.2) es.toList with
  | none =>
    refine wpAny_pure (h none ?_)
    have hn := List.findIdx?_eq_none_iff.mp hr
    cases hS : S x with
    | false => rfl
    | true => obtain ⟨e, he, hp⟩ := hk.mp hS; rw [hn e he] at hp; cases hp
  | some j =>
    refine wpAny_pure (h (some (0 + j)) ?_)
    obtain ⟨hj, hp, _⟩ := List.findIdx?_eq_some_iff_getElem.mp hr
    rw [hk.mpr ⟨_, List.getElem_mem hj, hp⟩]; rfl
theorem fs_has {Q : Bool → Shared → Prop} (f : FS prog w s.heap a S) (h : Q (S x) { s with toks := s.toks + 1 }) : wpAny (model prog w) A (setContains a (.str x t)) Q E s := by
  unfold setContains
  refine wpAny_holding (wpAny_bind ((strKind prog w).pyHash (strKind_is prog w x t) ?_))
  refine wpAny_bind (fs_find (s := { s with toks := s.toks + 1 }) f fun r hr => wpAny_pure ?_)
  rw [hr]; exact h
theorem fs_notIn {Q : Value → Shared → Prop} (f : FS prog w s.heap a S) (h : Q (.bool (!S x)) { s with toks := s.toks + 1 }) : wpAny (model prog w) A (compareOp .NotIn (.str x t) (.ref a)) Q E s := by
  show wpAny _ _ (do return .bool (!(← contains (.ref a) (.str x t)))) Q E s
  refine wpAny_bind ?_
  unfold contains
  try with_reducible refine wpAny_holding ?_
  refine wpAny_bind (wpAny_specialOf f.typeIs f_slot_contains.lookup ?_)
  show wpAny _ _ (if (some (Value.builtin "frozenset.__contains__") == some Value.none) = true then _ else _) _ E s
  rw [if_neg (by decide)]
  refine wpAny_bind (wpAny_callSpecialUnlessNone?_slot (name := Str.ofString "__contains__") f.typeIs f_slot_contains
    (wpAny_call_entry f_slot_contains f.typeIs f_entry_contains ?_ (f_args_contains _ _)))
  unfold Builtin.«frozenset.__contains__» Builtin.Frozenset.oneOther
  simp only [List.isEmpty_nil, bind_assoc]
  unfold Builtin.Frozenset.addrOf Builtin.Frozenset.withSetAsKey
  refine wpAny_bind (wpAny_pure ?_)
  try dsimp only
  refine wpAny_bind (wpAny_pure ?_)
  try dsimp only
  refine wpAny_bind (wpAny_tryCatch (fs_has f ?_))
  exact wpAny_pure ⟨_, rfl, wpAny_truthy_bool (wpAny_pure h)⟩
end
section
variable {prog : Program} {w : World} {A : Around} {R : Result → Shared → Prop} {E : Value → Shared → Prop} {s : Shared} {a I : Addr} {S : Str → Bool} {y : Str} {t : Tok} {St : Nat → Heap → Prop}
theorem fs_loop (W : ∀ A' : Around, A'.handled = none → Walks prog w A' I [I] [I] y.cps.size (SignAt y) St) (hh : A.handled = none) (hI : a ≠ I) :
    ∀ (k i : Nat) (s : Shared), y.cps.size - i = k → i ≤ y.cps.size → St i s.heap → FS prog w s.heap a S →
      (∀ h' tk, (∀ b o, b ≠ I → s.heap.get? b = some o → h'.get? b = some o) → R (.ok (.ret (.bool (!((y.cps.toList.drop i).any fun c => S ⟨#[c]⟩))))) { s with heap := h', toks := tk }) →
      codeAny (model prog w) A (.builtin "frozenset.isdisjoint.loop" ⟨[.ref a, .ref I], []⟩) R s := by
  intro k
  induction k with
  | zero =>
    intro i s hk hi hst hS hR
    have hin : i = y.cps.size := by omega
    subst hin
    refine codeAny_builtin f_entry_loop ?_
    rw [Around.under_plainId f_plain_loop _]
    show wpAny _ A.in1 (pyNext (.ref I) >>= _) _ _ s
    refine wpAny_bind ((W A.in1 hh).done s _ _ hst fun h' tk hk' => ?_)
    show wpAny _ A.in1 (ret (Value.bool true)) _ _ _
    refine wpAny_pure ?_
    have := hR h' tk (fun b o hb e => hk' b o (by simpa using hb) e)
    rw [List.drop_of_length_le (by simp)] at this
    exact this
  | succ k ih =>
    intro i s hk hi hst hS hR
    have hlt : i < y.cps.size := by omega
    refine codeAny_builtin f_entry_loop ?_
    rw [Around.under_plainId f_plain_loop _]
    show wpAny _ A.in1 (pyNext (.ref I) >>= _) _ _ s
    refine wpAny_bind ((W A.in1 hh).item i s _ _ hlt hst fun v h' tk hP hst' hk' => ?_)
    obtain ⟨c, u, hc, rfl⟩ := hP
    have up : ∀ b o, b ≠ I → s.heap.get? b = some o → h'.get? b = some o := fun b o hb e => hk' b o (by simpa using hb) e
    have hS' : FS prog w h' a S := let ⟨es, ep, tb, e, r⟩ := hS; ⟨es, ep, tb, up _ _ hI e, r⟩
    have hd : y.cps.toList.drop i = c :: y.cps.toList.drop (i + 1) := by
      have hl : i < y.cps.toList.length := by simpa using hlt
      rw [List.drop_eq_getElem_cons hl]
      congr 1
      rw [← Array.getElem?_toList, List.getElem?_eq_getElem hl] at hc
      exact Option.some.inj hc
    show wpAny _ A.in1 (holding [Value.str ⟨#[c]⟩ u] (setContains a (.str ⟨#[c]⟩ u)) >>= _) _ _ _
    refine wpAny_bind (wpAny_holding (fs_has (s := { s with heap := h', toks := tk }) hS' ?_))
    cases hb : S ⟨#[c]⟩ with
    | true =>
      show wpAny _ A.in1 (ret (Value.bool false)) _ _ _
      refine wpAny_pure ?_
      have := hR h' (tk + 1) up
      rw [hd, List.any_cons, hb] at this
      exact this
    | false =>
      show wpAny _ A.in1 (again (.builtin "frozenset.isdisjoint.loop" ⟨[.ref a, .ref I], []⟩)) _ _ _
      refine wpAny_pure ⟨plainId_quiet f_plain_loop _, ih (i + 1) _ (by omega) hlt hst' hS' fun h'' tk' up' => ?_⟩
      have := hR h'' tk' fun b o hb e => up' b o hb (up b o hb e)
      rw [hd, List.any_cons, hb, Bool.false_or] at this
      exact this
theorem fs_isdisjoint {Q : Value → Shared → Prop} (f : FS prog w s.heap a S) (hh : A.handled = none)
    (h : ∀ h' tk, (∀ b o, s.heap.get? b = some o → h'.get? b = some o) → Q (.bool (!(y.cps.toList.any fun c => S ⟨#[c]⟩))) { s with heap := h', toks := tk }) :
    wpAny (model prog w) A (call (.builtin "frozenset.isdisjoint") [.ref a, .str y t]) Q E s := by
  have ha : ∃ o, s.heap.get? a = some o := let ⟨_, _, _, e, _⟩ := f; ⟨_, e⟩
  obtain ⟨oa, ha⟩ := ha
  refine wpAny_call (codeAny_call_builtin f_slot_isdisjoint.plain f_entry_isdisjoint (f_slot_isdisjoint.check _ _ _ _ _ _ _ _ f.typeIs (f_args_isdisjoint _ _) ?_))
  unfold Builtin.«frozenset.isdisjoint» Builtin.Frozenset.oneOther
  simp only [List.isEmpty_nil, bind_assoc]
  unfold Builtin.Frozenset.addrOf
  refine wpAny_bind (wpAny_pure ?_)
  try dsimp only
  refine wpAny_bind (wpAny_pure ?_)
  try dsimp only
  rw [if_neg (by simp)]
  refine wpAny_bind (wpAny_typeOf (typeIs_str _ _ _) ?_)
  rw [if_neg (by decide)]
  refine wpAny_bind (wpAny_pyIter_str fun o St W hst => ?_)
  refine wpAny_pure ⟨plainId_quiet f_plain_loop _, fs_loop W hh (Nat.ne_of_lt (Heap.lt_size ha)) _ 0 _ rfl (Nat.zero_le _) hst (f.keeps fun b o e => Heap.get?_push_of_some _ e) fun h' tk up => ?_⟩
  have := h h' tk fun b o e => up b o (Nat.ne_of_lt (Heap.lt_size e)) (Heap.get?_push_of_some _ e)
  rw [List.drop_zero]
  exact this
theorem fs_method {pl : Sem Bool} {Q : Value × List Value → Shared → Prop} (f : FS prog w s.heap a S) (h : Q (.builtin "frozenset.isdisjoint", [.ref a]) s) :
    wpAny (model prog w) A (getMethod (.ref a) (Str.ofString "isdisjoint") pl) Q E s :=
  getMethod_builtin f.typeIs f_plainAttrs f_slot_isdisjoint f_type_isdisjoint (fun b e => by cases e; exact let ⟨_, _, _, e, _⟩ := f; ⟨_, e, rfl⟩) h
end
theorem fs_isd {prog : Program} {w : World} {A : Around} {E : Value → Shared → Prop} {s : Shared} {a : Addr} {S : Str → Bool} {y : Str} {t : Tok} {g : Heap} {L : Addr} {m : Str → Option Value} {news : List (Addr × Obj)} {Q : Value → Shared → Prop}
    (F : Fr g L s.heap m) (N : News g L s.heap news) (f : FS prog w g a S) (hh : A.handled = none)
    (h : ∀ h' tk, Fr g L h' m → News g L h' news → Q (.bool (!(y.cps.toList.any fun c => S ⟨#[c]⟩))) { s with heap := h', toks := tk }) :
    wpAny (model prog w) A (call (.builtin "frozenset.isdisjoint") [.ref a, .str y t]) Q E s :=
  fs_isdisjoint (f.keeps F.keep) hh fun h' tk up => h h' tk ⟨let ⟨o, es, ep, e, r⟩ := F.ns; ⟨o, es, ep, up _ _ e, r⟩, fun b o e => up _ _ (F.keep b o e), F.above⟩ fun p hp => ⟨up _ _ (N p hp).1, (N p hp).2⟩
theorem itm_str {prog : Program} {w : World} {A : Around} {E : Value → Shared → Prop} {s : Shared} {value slice : PySem.Expr} {x y : Str} {t u : Tok} {i : Int} {Q : Value → Shared → Prop} (e : Txt.item x i = y) (h0 : 0 ≤ i) (h1 : i < (x.length : Int)) (hl : x.length ≤ 1000)
    (h : ∀ t' k, Q (.str y t') { s with toks := k })
    (hs : subscripted slice false (.str x t) (.int i u) = operate [.str x t, .int i u] (getItem (.str x t) (.int i u)))
    (ht : ∀ r, letTemporaryGo value (.str x t) r = pure ()) :
    wpAny (model prog w) A (subscriptTail value slice (.str x t) (.int i u)) Q E s :=
  item_str (fitsSsize_of (N := 9223372036854775808) (by omega) (by omega) (Int.le_refl _)) (by omega) h1 (fun _ => by rw [e]; exact h _ _) hs ht
noncomputable abbrev fd_whl : { x : PySem.Expr × List PySem.Stmt × List PySem.Stmt // ∃ t e q p, b_skip[1]? = some (.If t (.While x.1 x.2.1 [] p :: x.2.2) e q) } := ⟨(_, _, _), _, _, _, _, rfl⟩
noncomputable abbrev t_whl : PySem.Expr := fd_whl.1.1
noncomputable abbrev b_whl : List PySem.Stmt := fd_whl.1.2.1
section
local macro_rules | `(tactic| walk_at "zz1") => `(tactic| skip)
local macro_rules | `(tactic| walk_at $s:str) => `(tactic| k_extra $s)
theorem rs_W7 : True := by w_top off; k_with_none; trivial
theorem rk_W7_mac3_4 : True := by
  k_with "compareOp NotIn str ref" => (k_here; k_dflt (refine' fs_notIn (by exact FS.keeps (by assumption) (Fr.keep (by k_asm))) ?_; k_whole))
  trivial
theorem rk_W7_mac4_1 : True := by
  k_with "subscriptTail Name Name str int" => (k_here; (with_reducible show wpAny _ _ (subscriptTail _ _ (Value.str _ _) (Value.int _ _)) _ _ _); (k_dflt (refine' itm_str (by with_reducible assumption) (by with_reducible assumption) (by with_reducible assumption) (by with_reducible assumption) ?_ (by with_unfolding_all rfl) (by intro _; with_unfolding_all rfl))); k_whole; intro t'q k'q)
  trivial
section
variable {w : World} {A₀ : Around} {base g : Heap} {outer : List Env} {L0 L : Addr} {m mg mb : Str → Option Value} {p : Program} {loose : List Str} {mean : ExcName → Option Value} {news : List (Addr × Obj)} {s : Shared}
  {Q : Flow → Shared → Prop} {E : Value → Shared → Prop}
theorem fr_congr {h₀ h : Heap} {L : Addr} {m m' : Str → Option Value} (F : Fr h₀ L h m) (e : ∀ y, m y = m' y) : Fr h₀ L h m' := by rw [← funext e]; exact F
noncomputable abbrev mSkip (src : Str) (pos np : Int) (t1 t2 t3 tn t2' : Tok) (n : Int) : Str → Option Value := fun y => if y = Str.ofString "pos" then some (.int n t2') else if y = Str.ofString "new_pos" then some (.int np tn) else [(Str.ofString "src", Value.str src t1), (Str.ofString "pos", Value.int pos t2), (Str.ofString "expect", Value.str (Str.ofString "'") t3), (Str.ofString "error_on", Value.ref 36), (Str.ofString "error_on_eof", Value.bool true)].reverse.lookup y
theorem whl_stop {L1 : Addr} {S : Str → Bool} {t1 t2 t3 tn t2' : Tok} {src c : Str} {n pos np : Int} {kk : Nat} (hlen : src.length ≤ 1000) (hn0 : 0 ≤ n) (hn1 : n < (src.length : Int)) (hc : Txt.item src n = c) (hS : S c = true)
  (fs : FS PySem.Challenge.rw_in0014_01.row.prog w g 36 S)
  (hE : PassesOwn (model PySem.Challenge.rw_in0014_01.row.prog w) ((parseA L0 L1).deeper (skipEnv L)) (skipEnv L) E)
  (B : Below (parseA L0 L1) base outer g) (F : Fr g L s.heap (mSkip src pos np t1 t2 t3 tn t2' n)) (X : (K0 w.params).In g) (N : News g L s.heap news) (T : Top p loose mean mg mb g)
  (hQ : ∀ h' tk, Fr g L h' (mSkip src pos np t1 t2 t3 tn t2' n) → News g L h' news → Q .next { s with heap := h', toks := tk })
  : WhlRest PySem.Challenge.rw_in0014_01.row.prog w ((parseA L0 L1).deeper (skipEnv L)) E (skipEnv L) t_whl b_whl [] Q kk s := by
  refine whl_turn (k := 0) hE ?_
  revert X; k_fill; intro X
  have hb : (!S c) = false := by rw [hS]; rfl
  k_steps
  all_goals (rw [hb]; refine WhlIf.no rfl ?_)
  k_steps
  all_goals exact hQ _ _ (by assumption) (by assumption)
theorem whl_body {L1 : Addr} {t1 t2 t3 tn t2' : Tok} {src : Str} {n pos np : Int} (hn0 : 0 ≤ n) (hn1 : n < 1000)
  (B : Below (parseA L0 L1) base outer g) (F : Fr g L s.heap (mSkip src pos np t1 t2 t3 tn t2' n)) (X : (K0 w.params).In g) (N : News g L s.heap news) (T : Top p loose mean mg mb g)
  (hQ : ∀ h' tk t2'', Fr g L h' (fun y => if y = Str.ofString "pos" then some (Value.int (n + 1) t2'') else mSkip src pos np t1 t2 t3 tn t2' n y) → News g L h' news → Q .next { s with heap := h', toks := tk })
  : wpAny (model PySem.Challenge.rw_in0014_01.row.prog w) ((parseA L0 L1).deeper (skipEnv L)) (execs b_whl (skipEnv L)) Q E s := by
  revert X; k_fill; intro X
  k_steps
  all_goals exact hQ _ _ _ (by assumption) (by assumption)
theorem whl_go {L1 : Addr} {S : Str → Bool} {t1 t2 t3 tn t2' : Tok} {src c : Str} {n pos np : Int} {kk : Nat} (hlen : src.length ≤ 1000) (hn0 : 0 ≤ n) (hn1 : n < (src.length : Int)) (hc : Txt.item src n = c) (hS : S c = false)
  (fs : FS PySem.Challenge.rw_in0014_01.row.prog w g 36 S)
  (hE : PassesOwn (model PySem.Challenge.rw_in0014_01.row.prog w) ((parseA L0 L1).deeper (skipEnv L)) (skipEnv L) E)
  (B : Below (parseA L0 L1) base outer g) (F : Fr g L s.heap (mSkip src pos np t1 t2 t3 tn t2' n)) (X : (K0 w.params).In g) (N : News g L s.heap news) (T : Top p loose mean mg mb g)
  (hQ : ∀ h' tk t2'', Fr g L h' (mSkip src pos np t1 t2 t3 tn t2'' (n + 1)) → News g L h' news → WhlRest PySem.Challenge.rw_in0014_01.row.prog w ((parseA L0 L1).deeper (skipEnv L)) E (skipEnv L) t_whl b_whl [] Q kk { s with heap := h', toks := tk })
  : WhlRest PySem.Challenge.rw_in0014_01.row.prog w ((parseA L0 L1).deeper (skipEnv L)) E (skipEnv L) t_whl b_whl [] Q kk s := by
  refine whl_turn (k := kk) hE ?_
  revert X; k_fill; intro X
  have hb : (!S c) = true := by rw [hS]; rfl
  k_steps
  all_goals (rw [hb]; refine WhlIf.yes rfl ?_)
  all_goals refine whl_body hn0 (by omega) B (by assumption) X (by assumption) T fun h' tk t2'' F' N' => hQ h' tk t2'' (fr_congr F' fun y => ?_) N'
  all_goals (by_cases hy : y = Str.ofString "pos" <;> simp only [hy, if_true, if_false, mSkip])
theorem whl_spec {L1 : Addr} {S : Str → Bool} {t1 t2 t3 tn : Tok} {src : Str} {pos np : Int} (hlen : src.length ≤ 1000) (fs : FS PySem.Challenge.rw_in0014_01.row.prog w g 36 S)
  (hE : PassesOwn (model PySem.Challenge.rw_in0014_01.row.prog w) ((parseA L0 L1).deeper (skipEnv L)) (skipEnv L) E)
  (B : Below (parseA L0 L1) base outer g) (X : (K0 w.params).In g) (T : Top p loose mean mg mb g) {pe : Int} (hpe : pe < (src.length : Int)) (hSe : S (Txt.item src pe) = true) {Q : Flow → Shared → Prop} :
  ∀ (d : Nat) (n : Int) (t2' : Tok) (s : Shared), 0 ≤ n → n + d = pe → (∀ i, n ≤ i → i < pe → S (Txt.item src i) = false) → Fr g L s.heap (mSkip src pos np t1 t2 t3 tn t2' n) → News g L s.heap news →
  (∀ h' tk t2', Fr g L h' (mSkip src pos np t1 t2 t3 tn t2' pe) → News g L h' news → Q .next { s with heap := h', toks := tk }) →
  WhlRest PySem.Challenge.rw_in0014_01.row.prog w ((parseA L0 L1).deeper (skipEnv L)) E (skipEnv L) t_whl b_whl [] Q 0 s
  | 0, n, t2', s, h0, hd, hno, F, N, hQ => by
    have e : n = pe := by omega
    subst e
    exact whl_stop hlen h0 hpe rfl hSe fs hE B F X N T fun h' tk F' N' => hQ h' tk _ F' N'
  | d + 1, n, t2', s, h0, hd, hno, F, N, hQ => by
    refine whl_go hlen h0 (by omega) rfl (hno n (Int.le_refl _) (by omega)) fs hE B F X N T fun h' tk t2'' F' N' => ?_
    exact whl_spec hlen fs hE B X T hpe hSe d (n + 1) t2'' _ (by omega) (by omega) (fun i h1 h2 => hno i (by omega) h2) F' N' fun h'' tk' t' F'' N'' => hQ h'' tk' t' F'' N''
end
end
noncomputable def RaiseEnd (g : Heap) (E : Value → Shared → Prop) (v : Value) (s₁ : Shared) : Prop := ∃ e t, v = .ref e ∧ (∀ o, g.get? 46 = some o → s₁.heap.get? 46 = some o) ∧ s₁.heap.get? e = some (excObj t) ∧ E (.ref e) s₁
theorem RaiseEnd.of {g h₀ : Heap} {E : Value → Shared → Prop} {L e t : Addr} {m : Str → Option Value} {news : List (Addr × Obj)} {s₁ : Shared} (F : Fr h₀ L s₁.heap m) (N : News h₀ L s₁.heap news) (hg : ∀ o, g.get? 46 = some o → h₀.get? 46 = some o) (hm : (e, excObj t) ∈ news) (h : E (.ref e) s₁) : RaiseEnd g E (.ref e) s₁ :=
  ⟨e, t, rfl, fun o q => F.keep _ _ (hg o q), (N _ hm).1, h⟩
theorem raise_made {prog : Program} {w : World} {A : Around} {E : Value → Shared → Prop} {s : Shared} {P : Params} {g : Heap} {mg mb : Str → Option Value} {p : Program} {loose : List Str} {mean : ExcName → Option Value} {env : Env} {x : PySem.Expr} {pos : Pos} {Q : Flow → Shared → Prop}
    (X : (K0 P).In g) (T : Top p loose mean mg mb g) (hh : A.handled = none) (h : wpAny (model prog w) A (eval x env) (RaiseEnd g E) E s) :
    wpAny (model prog w) A (exec (.Raise (some x) none pos) env) Q E s := by
  obtain ⟨tl, Ns, nm, q, bs, hdct, sn, sub, ab, col, dd, k0, k1, k2, k3, k5, mN, hC, hN, hni, TL⟩ := (tde_own X T).obj
  rw [arm_exec_Raise]
  refine wpAny_bind (wpAny_standAt ?_)
  refine wpAny_raiseStmt_made_sub (C := 46) (nm := nm) (q := q) (N := Ns) (bs := bs) (bm := tl) (hdct := hdct) (sn := sn) (sub := sub) (ab := ab) (col := col) (dd := dd) (k0 := k0) (k1 := k1) (k2 := k2) (k3 := k3) (k5 := k5) (newId := "ValueError.__new__") (TL.hasType (by decide)) hh ?_
  refine wpAny_bind (wpAny_mono h (fun v s₁ h₁ => ?_) fun _ _ y => y)
  obtain ⟨e, t, rfl, hc, he, hE⟩ := h₁
  exact wpAny_bind (wpAny_standAt (wpAny_pure ⟨e, t, rfl, hc _ hC, he, hE⟩))
theorem leave_own1 {M : Model} {A : Around} {base g : Heap} {outer : List Env} {name : Str} {scope : Scope} {L a : Addr} {cd : Value} {E : Value → Shared → Prop} {s' : Shared} {m : Str → Option Value} {e t : Addr} {oe : Obj} {vs : Array Value} {args : List Value} {nt : Nat} {news news' : List (Addr × Obj)} {Q : Unit → Shared → Prop}
    (K : Below A base outer g) (F : Fr g L s'.heap m) (N : News g L s'.heap news') (he : (e, oe) ∈ news') (hd : oe.data = .fields vs) (h0 : vs[0]? = some (.ref t)) (h1 : vs[1]? = some .none)
    (ht : (t, ({ cls := .type "tuple", data := .seq args.toArray nt } : Obj)) ∈ news') (hsub : ∀ q ∈ news, q ∈ news') (hne : ∀ q ∈ news, q.1 ≠ e ∧ q.1 ≠ t)
    (hQ : ∀ h', RaisedK base outer e oe.cls t args news h' → g.UpToSlots h' → Q () { s' with heap := h' }) (hk : scope.kind = .function := by rfl) :
    wpAny M (A.deeper (envOf name scope L a cd)) (leaving (envOf name scope L a cd) (.ref e)) Q E s' := by
  have K' := K.push (name := name) (a := a) (cd := cd) F hk
  have hin : ∀ env ∈ (envOf name scope L a cd :: outer), ∀ b, env.frame = some b → b ∈ (envOf name scope L a cd :: outer).filterMap (·.frame) ++ [e, t] := fun env he b hb => List.mem_append.mpr (.inl (List.mem_filterMap.mpr ⟨env, he, hb⟩))
  have ge : g.get? e = none := (N _ he).2.2
  have gt : g.get? t = none := (N _ ht).2.2
  have be : base.get? e = none := fresh_of_stays K.stays ge
  have bt : base.get? t = none := fresh_of_stays K.stays gt
  have nm : ∀ b o, base.get? b = some o → b ∉ (envOf name scope L a cd :: outer).filterMap (·.frame) ++ [e, t] := fun b o q hm => by
    rcases List.mem_append.mp hm with hm | hm
    · rw [(K'.frames.mem hm).1] at q; cases q
    · simp only [List.mem_cons, List.not_mem_nil, or_false] at hm
      rcases hm with rfl | rfl
      · rw [be] at q; cases q
      · rw [bt] at q; cases q
  have st : base.StaysIn (hideAll s'.heap ((envOf name scope L a cd :: outer).filterMap (·.frame) ++ [e, t])) := fun b o q => hideAll_get _ (K'.stays b o q) (nm b o q)
  have hl : ∀ q ∈ news, (hideAll s'.heap ((envOf name scope L a cd :: outer).filterMap (·.frame) ++ [e, t])).get? q.1 = some q.2 ∧ base.get? q.1 = none := fun q hq => by
    refine ⟨hideAll_get _ (N q (hsub q hq)).1 fun hm => ?_, fresh_of_stays K.stays (N q (hsub q hq)).2.2⟩
    rcases List.mem_append.mp hm with hm | hm
    · obtain ⟨env, he, hf⟩ := List.mem_filterMap.mp hm
      rcases List.mem_cons.mp he with rfl | he
      · exact (N q (hsub q hq)).2.1 (Option.some.inj hf).symm
      · obtain ⟨o, ho, _⟩ := (K.frames.mem (List.mem_filterMap.mpr ⟨env, he, hf⟩)).2
        rw [(N q (hsub q hq)).2.2] at ho; cases ho
    · simp only [List.mem_cons, List.not_mem_nil, or_false] at hm
      rcases hm with hm | hm
      · exact (hne q hq).1 hm
      · exact (hne q hq).2 hm
  refine wpAny_leaving_firstW (a0 := .ref t) K'.stack (funFrames_hide K'.frames hin) rfl (N _ he).1 (fun b o q => of_hideAll _ q) (hideAll_none _ (by simp)) hd h1 h0 fun h' hL => ?_
  obtain ⟨k1, ⟨_, _, k2⟩, k3, k4⟩ := hL
  exact hQ h' ⟨⟨_, st, hl, ⟨k1, hideAll_none _ (by simp), k2, k3⟩, hideAll_none _ (by simp)⟩, Heap.TupAt.of_slots ⟨_, _, (N _ ht).1, rfl, rfl⟩ k4⟩ ((Heap.UpToSlots.of_keeps F.keep).trans k4)
theorem rep_str {prog : Program} {w : World} {A : Around} {E : Value → Shared → Prop} {s : Shared} {x r : Str} {t : Tok} {Q : Value → Shared → Prop} (e : reprText x = r) (hr : r.length ≤ 1000) (h : ∀ t' k, Q (.str r t') { s with toks := k }) : wpAny (model prog w) A (pyReprObj (.str x t)) Q E s :=
  pyReprObj_str (hx := by rw [e]; exact sz hr) (by rw [e]; exact h _ _)
theorem lt_deeper {g g' h' : Heap} {L L' a : Addr} {m m' : Str → Option Value} (F' : Fr g' L' h' m') (FG : Fr g L g' m) (h : a < L) : a < L' := Nat.lt_of_lt_of_le (Nat.lt_trans h FG.ns.lt) F'.above
end
section
local macro_rules | `(tactic| walk_at $s:str) => `(tactic| k_extra $s)
theorem rs_W8 : True := by w_top off; k_with_none; trivial
theorem rk_W8_mac1_8 : True := by
  k_with "subscriptTail Name Slice str ref" => (k_here; (with_reducible show wpAny _ _ (subscriptTail _ (Expr.Slice none (some _) none _) _ _) _ _ _); (k_dflt (refine' slc_ns (s := ⟨_, _, _, _, _⟩) (by k_asm) (by k_asm) (by with_reducible assumption) (by with_reducible assumption) ?_ (by with_unfolding_all rfl) (by intro _; with_unfolding_all rfl))); k_whole; intro h'q t'q k'q F'q N'q)
  k_with "subscriptTail Name Slice str ref" => (k_here; (with_reducible show wpAny _ _ (subscriptTail _ (Expr.Slice (some _) none none _) _ _) _ _ _); (k_dflt (refine' slc_sn (s := ⟨_, _, _, _, _⟩) (by k_asm) (by k_asm) (by with_reducible assumption) (by k_dflt rfl) (by with_reducible assumption) ?_ (by with_unfolding_all rfl) (by intro _; with_unfolding_all rfl))); k_whole; intro h'q t'q k'q F'q N'q)
  k_with "subscriptTail Name Slice str ref" => (k_here; (with_reducible show wpAny _ _ (subscriptTail _ (Expr.Slice (some _) (some _) none _) _ _) _ _ _); (k_dflt (refine' slc_ss (s := ⟨_, _, _, _, _⟩) (by k_asm) (by k_asm) (by with_reducible assumption) (by with_reducible assumption) ?_ (by with_unfolding_all rfl) (by intro _; with_unfolding_all rfl))); k_whole; intro h'q t'q k'q F'q N'q)
  trivial
theorem rk_W8_mac3_4 : True := by
  k_with "call builtin:str.index" => (k_here; (with_reducible show wpAny _ _ (call _ [Value.str _ _, Value.str _ _, Value.int _ _]) _ _ _); (with_reducible refine index3 (by assumption) ?_))
  k_with "getMethod ref" => (k_here; (with_reducible show wpAny _ _ (getMethod (Value.ref 36) _ _) _ _ _); k_dflt (refine' fs_method (by exact FS.keeps (by assumption) (Fr.keep (by k_asm))) ?_))
  k_with "call builtin:frozenset.isdisjoint" => (k_here; k_dflt (refine' fs_isd (by k_asm) (by k_asm) (by with_reducible assumption) (by rfl) ?_; k_whole); intro h'q tk'q F'q N'q)
  trivial
theorem rk_W8_mac4_1 : True := by
  k_with "subscriptTail Name Name str int" => (k_here; (with_reducible show wpAny _ _ (subscriptTail _ _ (Value.str _ _) (Value.int _ _)) _ _ _); (k_dflt (refine' itm_str (by with_reducible assumption) (by with_reducible assumption) (by with_reducible assumption) (by with_reducible assumption) ?_ (by with_unfolding_all rfl) (by intro _; with_unfolding_all rfl))); k_whole; intro t'q k'q)
  trivial
theorem rk_W8_mac5_2 : True := by
  k_with "exec Raise some none" => (k_here; k_dflt (refine' raise_made (by k_asm) (by k_asm) (by rfl) ?_; k_whole))
  k_with "pyReprObj str" => (k_here; (with_reducible refine rep_str (by assumption) (by assumption) ?_); intro t'q k'q)
  trivial
theorem rk_W8_mac6_1 : True := by
  k_with "execs cons" => (k_here; (with_reducible show wpAny _ (Around.deeper _ (sufEnv _)) _ _ _ _); k_dflt (refine' suf_spec ?Cd ?ld ?l2d ?l3d ?Cdd ?hLd ?offd ?TSd ?Bd ?Fd ?Xd ?Nd ?Td ?_; (case Cd => with_reducible assumption); (case ld => with_reducible assumption); (case l2d => with_reducible assumption); (case l3d => with_reducible assumption); (case Bd => k_asm); (case Fd => k_asm); (case Xd => k_asm); (case Nd => k_asm); (case Td => k_asm); (case Cdd => exact CodeHd.keeps (by with_reducible assumption) (Below.stays (by with_reducible assumption))); (case offd => with_reducible assumption); (case TSd => with_reducible assumption); (case hLd => exact lt_deeper (by assumption) (by assumption) (by with_reducible assumption)); k_whole); intro e'q t'q tt'q h'q tk'q m'q ps'q nw'q F'q N'q hs'q he'q ht'q hT'q hf'q hne'q het'q)
  k_with "execs cons" => (k_here; (with_reducible show wpAny _ (Around.deeper _ (sufEnv _)) _ _ _ _); k_dflt (refine' suf_spec ?Cc ?lc ?l2c ?l3c ?Cdc ?hLc ?offc ?TSc ?Bc ?Fc ?Xc ?Nc ?Tc ?_; (case Cc => with_reducible assumption); (case lc => with_reducible assumption); (case l2c => with_reducible assumption); (case l3c => with_reducible assumption); (case Bc => k_asm); (case Fc => k_asm); (case Xc => k_asm); (case Nc => k_asm); (case Tc => k_asm); (case Cdc => exact CodeHd.keeps (by with_reducible assumption) (Below.stays (by with_reducible assumption))); (case offc => with_reducible assumption); (case TSc => with_reducible assumption); (case hLc => exact lt_deeper (by assumption) (by assumption) (by with_reducible assumption)); k_whole); intro e'q t'q tt'q h'q tk'q m'q ps'q nw'q F'q N'q hs'q he'q ht'q hT'q hf'q hne'q het'q)
  k_with "execs cons" => (k_here; (with_reducible show wpAny _ (Around.deeper _ (sufEnv _)) _ _ _ _); k_dflt (refine' suf_spec ?Cb ?lb ?l2b ?l3b ?Cdb ?hLb ?offb ?TSb ?Bb ?Fb ?Xb ?Nb ?Tb ?_; (case Cb => with_reducible assumption); (case lb => with_reducible assumption); (case l2b => with_reducible assumption); (case l3b => with_reducible assumption); (case Bb => k_asm); (case Fb => k_asm); (case Xb => k_asm); (case Nb => k_asm); (case Tb => k_asm); (case Cdb => exact CodeHd.keeps (by with_reducible assumption) (Below.stays (by with_reducible assumption))); (case offb => with_reducible assumption); (case TSb => with_reducible assumption); (case hLb => exact lt_deeper (by assumption) (by assumption) (by with_reducible assumption)); k_whole); intro e'q t'q tt'q h'q tk'q m'q ps'q nw'q F'q N'q hs'q he'q ht'q hT'q hf'q hne'q het'q)
  k_with "execs cons" => (k_here; (with_reducible show wpAny _ (Around.deeper _ (sufEnv _)) _ _ _ _); k_dflt (refine' suf_spec ?Ca ?la ?l2a ?l3a ?Cda ?hLa ?offa ?TSa ?Ba ?Fa ?Xa ?Na ?Ta ?_; (case Ca => with_reducible assumption); (case la => with_reducible assumption); (case l2a => with_reducible assumption); (case l3a => with_reducible assumption); (case Ba => k_asm); (case Fa => k_asm); (case Xa => k_asm); (case Na => k_asm); (case Ta => k_asm); (case Cda => exact CodeHd.keeps (by with_reducible assumption) (Below.stays (by with_reducible assumption))); (case offa => with_reducible assumption); (case TSa => with_reducible assumption); (case hLa => exact lt_deeper (by assumption) (by assumption) (by with_reducible assumption)); k_whole); intro e'q t'q tt'q h'q tk'q m'q ps'q nw'q F'q N'q hs'q he'q ht'q hT'q hf'q hne'q het'q)
  trivial
section
variable {w : World} {A₀ : Around} {base g : Heap} {outer : List Env} {L0 L : Addr} {m mg mb : Str → Option Value} {p : Program} {loose : List Str} {mean : ExcName → Option Value} {news : List (Addr × Obj)} {s : Shared}
  {Q : Flow → Shared → Prop} {E : Value → Shared → Prop}
theorem skip_ok {L1 : Addr} {S : Str → Bool} {t1 t2 t3 : Tok} {src sl : Str} {pos : Int} {k : Nat} {rest : List Nat} (hlen : src.length ≤ 1000) (hp0 : 0 ≤ pos)
  (hidx : Builtin.Str.occurrences src (Str.ofString "'") (fromIndex src.length pos) src.length 1 = k :: rest) (hkl : (k : Int) ≤ 1000)
  (hsl : Txt.slice src (some pos) (some (k : Int)) = sl) (hsll : sl.length ≤ 1000) (hd : (sl.cps.toList.any fun c => S ⟨#[c]⟩) = false)
  (fs : FS PySem.Challenge.rw_in0014_01.row.prog w g 36 S)
  (B : Below (parseA L0 L1) base [parseEnv L1, lawEnv L0] g) (F : Fr g L s.heap (fun y => [(Str.ofString "src", Value.str src t1), (Str.ofString "pos", Value.int pos t2), (Str.ofString "expect", Value.str (Str.ofString "'") t3), (Str.ofString "error_on", Value.ref 36), (Str.ofString "error_on_eof", Value.bool true)].reverse.lookup y)) (X : (K0 w.params).In g) (N : News g L s.heap news) (T : Top p loose mean mg mb g)
  (hQ : ∀ h' tk t m', Fr g L h' m' → News g L h' news → Q (.ret (.int (k : Int) t)) { s with heap := h', toks := tk })
  : wpAny (model PySem.Challenge.rw_in0014_01.row.prog w) ((parseA L0 L1).deeper (skipEnv L)) (execs b_skip (skipEnv L)) Q E s := by
  revert X; k_fill; intro X
  k_steps
  all_goals exact hQ _ _ _ _ (by assumption) (by assumption)
theorem skip_bad {L1 : Addr} {ps : Array Value} {S : Str → Bool} {t1 t2 t3 : Tok} {src sl txt c r : Str} {pos pe : Int} {k d : Nat} {rest : List Nat} (hlen : src.length ≤ 1000) (hp0 : 0 ≤ pos)
  (hidx : Builtin.Str.occurrences src (Str.ofString "'") (fromIndex src.length pos) src.length 1 = k :: rest) (hkl : (k : Int) ≤ 1000)
  (hsl : Txt.slice src (some pos) (some (k : Int)) = sl) (hsll : sl.length ≤ 1000) (hd : (sl.cps.toList.any fun c => S ⟨#[c]⟩) = true)
  (hpe : pe < (src.length : Int)) (hpe0 : 0 ≤ pe) (hc : Txt.item src pe = c) (hSe : S c = true) (hpd : pos + d = pe) (hno : ∀ i, pos ≤ i → i < pe → S (Txt.item src i) = false)
  (Cd : Coord src pe txt) (htxt : txt.length ≤ 1000) (hr : reprText c = r) (hrl : r.length ≤ 1000) (hmsg : (Str.empty ++ Str.ofString "Found invalid character " ++ r).length ≤ 1000)
  (C : CodeHd base 69 65) (hL : 65 < L) (hoff : ∀ p ∈ news, p.1 ≠ 65) (hT : TabSt news ps)
  (fs : FS PySem.Challenge.rw_in0014_01.row.prog w g 36 S)
  (hE : PassesOwn (model PySem.Challenge.rw_in0014_01.row.prog w) ((parseA L0 L1).deeper (skipEnv L)) (skipEnv L) E)
  (B : Below (parseA L0 L1) base [parseEnv L1, lawEnv L0] g) (F : Fr g L s.heap (fun y => [(Str.ofString "src", Value.str src t1), (Str.ofString "pos", Value.int pos t2), (Str.ofString "expect", Value.str (Str.ofString "'") t3), (Str.ofString "error_on", Value.ref 36), (Str.ofString "error_on_eof", Value.bool true)].reverse.lookup y)) (X : (K0 w.params).In g)
  (N : News g L s.heap ((65, tabObj ps) :: news)) (T : Top p loose mean mg mb g)
  (hE1 : ∀ e t tt h' tk m' ps' nw', Fr g L h' m' → News g L h' ((65, tabObj ps') :: nw') → (∀ p ∈ news, p ∈ nw') → (e, excObj t) ∈ nw' → (t, tupO [.str (sayAt (Str.empty ++ Str.ofString "Found invalid character " ++ r) txt) tt]) ∈ nw' → TabSt nw' ps' → (∀ p ∈ nw', p.1 ≠ 65) → (∀ p ∈ news, p.1 ≠ e ∧ p.1 ≠ t) → e ≠ t → E (.ref e) { s with heap := h', toks := tk })
  : wpAny (model PySem.Challenge.rw_in0014_01.row.prog w) ((parseA L0 L1).deeper (skipEnv L)) (execs b_skip (skipEnv L)) Q E s := by
  revert X; k_fill; intro X
  iterate 43 (first | (k_unfold; (try dsimp only)) | walk1 | (dsimp only; walk1))
  refine whl_start 0 ?_
  refine whl_spec hlen fs hE B X T (news := (65, tabObj ps) :: news) (pos := pos) (np := k) (t1 := t1) (t2 := t2) (t3 := t3) (tn := s.toks) hpe (by rw [hc]; exact hSe) d pos t2 _ hp0 hpd hno (fr_congr (by assumption) fun y => ?_) (by assumption) fun h' tk t2' F' N' => ?_
  · by_cases hy : y = Str.ofString "pos"
    · subst hy; simp only [mSkip, if_true]; rw [if_neg (by decide)]; rfl
    · simp only [mSkip, if_neg hy]
  k_steps
  all_goals exact RaiseEnd.of (by assumption) (by assumption) (fun _ q => q) (List.Mem.tail _ (by assumption)) (hE1 _ _ _ _ _ _ _ _ (by assumption) (by assumption) (by assumption) (by assumption) (by assumption) (by assumption) (by assumption) (by assumption) (by assumption))
end
end
section
local macro_rules | `(tactic| omega) => `(tactic| first | lia | omega +splitDisjunctions)
noncomputable abbrev excF (a0 tb c3 : Value) (sup : Bool) : Data := .fields #[a0, tb, .none, c3, .bool sup, .none]
noncomputable def ExcT (h base : Heap) (e : Addr) (cls a0 fl : Value) : Prop := ∃ oe T oT ts, h.get? e = some oe ∧ oe.cls = cls ∧ oe.data = excF a0 (.ref T) .none false ∧ base.get? T = none ∧ T ≠ e ∧ h.get? T = some oT ∧ oT.data = .fields ts ∧ ts[3]? = some fl
section
variable {M : Model} {A : Around} {E : Value → Shared → Prop} {s : Shared} {base : Heap} {env : Env} {outer : List Env} {L e : Addr} {oe : Obj} {a0 cls fl : Value} {Q : Unit → Shared → Prop}
theorem noted_first (hfr : A.frames = some (env :: outer)) (hl : s.heap.FunFrames base (env :: outer)) (hf : env.frame = some L)
    (he : s.heap.get? e = some oe) (hkb : base.StaysIn s.heap) (hen : base.get? e = none) (hd : oe.data = excF a0 .none .none false)
    (h : ∀ h', base.StaysIn h' → h'.FunFrames base (env :: outer) → ExcT h' base e oe.cls a0 (rawInt L) → s.heap.UpToSlots h' → Q () { s with heap := h' }) : wpAny M A (noteFrame (.ref e) env) Q E s := by
  have hne : e ∉ (env :: outer).filterMap (·.frame) := fun hm => by
    obtain ⟨_, o, ho, hn⟩ := hl.mem hm
    rw [he] at ho; cases ho; exact hn _ hd
  unfold noteFrame
  simp only [hf]
  refine wpAny_bind (wpAny_field he hd (x := .none) rfl ?_)
  rw [if_neg (by decide)]
  refine wpAny_bind (wpAny_frameOf_fun hfr hl hf fun h₁ k => wpAny_bind (wpAny_entryPlaceOf fun pl hpl => ?_))
  unfold EntryCells.newEntry newFields
  refine wpAny_bind (wpAny_newObj_type ?_ (hpl.sizeOk5 _ _ _ _ _))
  have e1 : h₁.get? e = some oe := (k.2.1 e hne).trans he
  have hT : h₁.objs.size ≠ e := Nat.ne_of_gt (Heap.lt_size e1)
  have keep : ∀ (oT : Obj) (f : Obj → Obj) b o, b ≠ e → h₁.get? b = some o → ((h₁.push oT).update e f).get? b = some o := by
    intro oT f b o hb q
    rw [Heap.get?_update_other _ _ (Ne.symm hb)]
    exact Heap.get?_push_of_some _ q
  have nrec : ∀ b o, s.heap.get? b = some o → (∀ vs, o.data ≠ .fields vs) → b ≠ e := by
    intro b o q hn z
    rw [z, he] at q; cases q; exact hn _ hd
  refine wpAny_setField (Heap.get?_push_of_some _ e1) hd (by simp) (h _ ?_ ?_ ?_ ?_)
  · intro b o q
    refine keep _ _ b o (fun z => by rw [z, hen] at q; cases q) ?_
    exact (k.2.1 b fun hm => by rw [(hl.mem hm).1] at q; cases q).trans (hkb b o q)
  · refine hl.of_keeps fun b o q hn => ?_
    obtain ⟨sl, hs⟩ := k.2.2 b o q
    exact ⟨_, keep _ _ b _ (nrec b o q hn) hs, rfl⟩
  · have hd' := Obj.data_mapFields hd (·.setIfInBounds 1 (Value.ref h₁.objs.size))
    refine ⟨_, h₁.objs.size, _, _, Heap.get?_update_self _ (Heap.get?_push_of_some _ e1) (Obj.isFreed_of_fields hd'), Obj.cls_mapFields _ _, hd', ?_, hT, (Heap.get?_update_other _ _ (Ne.symm hT)).trans (Heap.get?_push_size h₁ rfl), rfl, ?_⟩
    · have st : base.StaysIn h₁ := fun b o q => (k.2.1 b fun hm => by rw [(hl.mem hm).1] at q; cases q).trans (hkb b o q)
      exact st.fresh
    · first | (simp; done) | (rcases hpl with rfl | ⟨_, _, _, _, _, _, _, rfl⟩ <;> simp)
  · intro b o q hn
    obtain ⟨sl, hs⟩ := k.2.2 b o q
    exact ⟨sl, keep _ _ b _ (nrec b o q hn) hs⟩
theorem flight_none (hkb : base.StaysIn s.heap) (hl : s.heap.FunFrames base outer) (ht : ExcT s.heap base e cls a0 fl)
    (h : ∀ h', base.StaysIn h' → h'.FunFrames base outer → ExcT h' base e cls a0 .none → s.heap.UpToSlots h' → Q () { s with heap := h' }) : wpAny M A (setFlight (.ref e) none) Q E s := by
  obtain ⟨oe, T, oT, ts, h1, h2, h3, h4, h5, h6, h7, h8⟩ := ht
  have h3s : 3 < ts.size := (Array.getElem?_eq_some_iff.mp h8).1
  unfold setFlight
  refine wpAny_bind (wpAny_field h1 h3 (x := .ref T) rfl ?_)
  rw [if_pos (show (Value.ref T != Value.none) = true from by simp)]
  have oth : ∀ (f : Obj → Obj) b, b ≠ T → (s.heap.update T f).get? b = s.heap.get? b := fun f b hb => Heap.get?_update_other _ _ (Ne.symm hb)
  have nrec : ∀ b o, s.heap.get? b = some o → (∀ vs, o.data ≠ .fields vs) → b ≠ T := fun b o q hn z => by
    rw [z, h6] at q; cases q; exact hn _ h7
  refine wpAny_setField h6 h7 h3s (h _ (fun b o q => (oth _ b fun z => by rw [z, h4] at q; cases q).trans (hkb b o q)) (hl.of_keeps fun b o q hn => ⟨o, (oth _ b (nrec b o q hn)).trans q, rfl⟩) ?_ fun b o q hn => ⟨o.slots, (oth _ b (nrec b o q hn)).trans q⟩)
  exact ⟨oe, T, _, _, (oth _ e (Ne.symm h5)).trans h1, h2, h3, h4, h5, Heap.get?_update_self _ h6 (Obj.isFreed_of_fields (Obj.data_mapFields h7 _)), Obj.data_mapFields h7 _, by simp [h3s]⟩
end
section
variable {prog : Program} {w : World} {A₀ : Around} {E : Value → Shared → Prop} {s' : Shared} {base g h : Heap} {outer : List Env} {L a e : Addr} {m : Str → Option Value} {name : Str} {scope : Scope} {cd : Value}
  {b₀ : Stmt} {suite : List Stmt} {pos np : Pos} {rest : List ExceptHandler} {Q : Flow → Shared → Prop} {news : List (Addr × Obj)} {KF : Frag}
  {p : Program} {loose : List Str} {mean : ExcName → Option Value} {mg mb : Str → Option Value} {x : Str} {X T' : String}
theorem caught_new (K : Below A₀ base outer g) (F : Fr g L h m) (N : News g L h news) (hx : Heap.NewExc h s'.heap e X) (XB : KF.In base) (TB : Top p loose mean mg mb base)
    (ex : nsIn KF mainGlobals x = some none) (hv : bootBuiltins x = some (.type T')) (hn' : x ≠ "__name__")
    (hexc : isSubtype (.type T') (.type "BaseException") = pure true) (hnt : isSubtype (.type ((Manifest.find? T').elim "type" fun y => y.metatype)) (.type "tuple") = pure false) (hsub : isSubtype (.type X) (.type T') = pure true)
    (hE : PassesOwnAt (model prog w) ((A₀.deeper (envOf name scope L a cd)).mark (some (.ref e))) (A₀.deeper (envOf name scope L a cd)) (envOf name scope L a cd) E)
    (k : ∀ h' g' oe a0 T, Fr g' L h' m → News g' L h' ((e, oe) :: news) → oe.cls = .type X → oe.data = excF a0 (.ref T) .none false → Below A₀ base outer g' → KF.In g' → Top p loose mean mg mb g' → g.UpToSlots g' →
      wpAny (model prog w) ((A₀.deeper (envOf name scope L a cd)).mark (some (.ref e))) (execs (b₀ :: suite) (envOf name scope L a cd)) Q E { s' with heap := h' })
    (hk : scope.kind = .function := by rfl) (hxk : (envOf name scope L a cd).kindOf x = some .globalImplicit := by rfl) (hd : (x == ("__debug__" : Str)) = false := by decide) :
    wpAny (model prog w) (A₀.deeper (envOf name scope L a cd)) (noteFrame (.ref e) (envOf name scope L a cd))
      (fun _ s₂ => wpAny (model prog w) (A₀.deeper (envOf name scope L a cd)) (setFlight (.ref e) none) (fun _ s₃ =>
        wpAny (model prog w) (A₀.deeper (envOf name scope L a cd)) (handleBy (.ref e) (envOf name scope L a cd) (.ExceptHandler (some (.Name x np)) none (b₀ :: suite) pos :: rest)) Q E s₃) E s₂) E s' := by
  have K' := K.push (name := name) (a := a) (cd := cd) F hk
  have hin : ∀ env ∈ (envOf name scope L a cd :: outer), ∀ b, env.frame = some b → b ∈ (envOf name scope L a cd :: outer).filterMap (·.frame) := fun env he b hb => List.mem_filterMap.mpr ⟨env, he, hb⟩
  have sg : ∀ b o, h.get? b = some o → b ∉ (envOf name scope L a cd :: outer).filterMap (·.frame) → (hideAll h ((envOf name scope L a cd :: outer).filterMap (·.frame))).get? b = some o := fun b o q nm => hideAll_get _ q nm
  obtain ⟨ob, a0, he, hcls, hdat⟩ := hx.there
  have hen : (hideAll h ((envOf name scope L a cd :: outer).filterMap (·.frame))).get? e = none := by
    cases q : (hideAll h ((envOf name scope L a cd :: outer).filterMap (·.frame))).get? e with
    | none => rfl
    | some o => have := of_hideAll _ q; rw [hx.new] at this; cases this
  have hn : ∀ q ∈ news, (hideAll h ((envOf name scope L a cd :: outer).filterMap (·.frame))).get? q.1 = some q.2 := fun q hq => by
    refine hideAll_get _ (N q hq).1 fun hm => ?_
    obtain ⟨env, he, hf⟩ := List.mem_filterMap.mp hm
    rcases List.mem_cons.mp he with rfl | he
    · exact (N q hq).2.1 (Option.some.inj hf).symm
    · obtain ⟨o, ho, _⟩ := (K.frames.mem (List.mem_filterMap.mpr ⟨env, he, hf⟩)).2
      rw [(N q hq).2.2] at ho; cases ho
  have ge : g.get? e = none := by
    cases q : g.get? e with
    | none => rfl
    | some o => have := F.keep _ _ q; rw [hx.new] at this; cases this
  have hLe : e ≠ L := fun z => by
    obtain ⟨oL, es, ep, hL, r⟩ := F.ns
    rw [← z, hx.new] at hL; cases hL
  have up0 : h.UpToSlots s'.heap := Heap.UpToSlots.of_keeps hx.keeps
  refine noted_first (base := hideAll h ((envOf name scope L a cd :: outer).filterMap (·.frame))) K'.stack ((funFrames_hide K'.frames hin).of_keeps fun b o hb _ => ⟨o, hx.keeps b o hb, rfl⟩) rfl he (fun b o hb => hx.keeps b o (of_hideAll _ hb)) hen hdat fun h₁ s1 f1 x1 u1 => ?_
  refine flight_none (outer := envOf name scope L a cd :: outer) s1 f1 x1 fun h₂ s2 f2 x2 u2 => ?_
  have u02 := (up0.trans u1).trans u2
  obtain ⟨g₂, T₂, F₂, K₂⟩ := kts_ground K F sg s2 u02
  have X₂ : KF.In g₂ := XB.keeps K₂.stays
  have P₂ : TopRead p loose mg mb g₂ := topRead_of (TB.keeps K₂.stays)
  have x2' := x2
  obtain ⟨ob2, _, _, _, hob, hobc, _⟩ := x2'
  refine wpAny_handleBy_builtin (X := X) (T := T') (b := true) hexc hnt hsub (name_B F₂ X₂ P₂ ex hv hn' ⟨rfl, ⟨ob2, hob, hobc.trans hcls⟩, ?_⟩ hk hxk hd)
  refine flight_none (outer := envOf name scope L a cd :: outer) s2 f2 x2 fun h₃ s3 f3 x3 u3 => ?_
  obtain ⟨g₃, T₃, F₃, K₃⟩ := kts_ground K F sg s3 (u02.trans u3)
  obtain ⟨oe, T, oT, ts, y1, y2, y3, _⟩ := x3
  refine wpAny_passesOwnAt hE (k h₃ g₃ oe a0 T F₃ (fun q hq => ?_) (y2.trans hcls) y3 K₃ (XB.keeps K₃.stays) (TB.keeps K₃.stays) fun b o e' _ => T₃.up e')
  rcases List.mem_cons.mp hq with rfl | hq
  · exact ⟨y1, hLe, T₃.none_ _ ge⟩
  · exact ⟨s3 _ _ (hn q hq), (N q hq).2.1, T₃.none_ _ (N q hq).2.2⟩
end
theorem un_entry : entryFor table "proto.unchain" = some Builtin.«proto.unchain» := entryFor_of_tree (by kernel_rfl)
theorem un_plain : plainId "proto.unchain" = true := by decide +kernel
theorem un_code {prog : Program} {w : World} {A : Around} {R : Result → Shared → Prop} {s : Shared} {v h : Value} {e0 : Addr} {o0 : Obj} {vs : Array Value} (ho : s.heap.get? e0 = some o0) (hd : o0.data = .fields vs) (h2 : vs[2]? = some .none) (hR : R (.ok (.ret .none)) s) :
    codeAny (model prog w) A (.builtin "proto.unchain" ⟨[v, .ref e0, h, .bool false], []⟩) R s := by
  refine codeAny_builtin un_entry ?_
  rw [Around.under_plainId un_plain _]
  unfold Builtin.«proto.unchain»
  show wpAny _ A.in1 (field (.ref e0) 2 >>= _) _ _ s
  refine wpAny_bind (wpAny_field ho hd h2 ?_)
  rw [if_pos (by decide)]
  exact wpAny_pure hR
noncomputable def RaiseEnd2 (e0 : Addr) (g : Heap) (E : Value → Shared → Prop) (v : Value) (s₁ : Shared) : Prop := ∃ e t o0 vs, v = .ref e ∧ (∀ o, g.get? 46 = some o → s₁.heap.get? 46 = some o) ∧ s₁.heap.get? e = some (excObj t) ∧ e ≠ e0 ∧ s₁.heap.get? e0 = some o0 ∧ o0.data = .fields vs ∧ vs[2]? = some .none ∧
  ∀ h', Heap.SameBut e s₁.heap h' → h'.get? e = some ({ cls := .ref 46, data := .fields #[.ref t, .none, .ref e0, .none, .bool true, .none] } : Obj) → E (.ref e) { s₁ with heap := h' }
theorem raise_from {prog : Program} {w : World} {A : Around} {E : Value → Shared → Prop} {s : Shared} {P : Params} {g : Heap} {mg mb : Str → Option Value} {p : Program} {loose : List Str} {mean : ExcName → Option Value} {env : Env} {x : PySem.Expr} {pos q1 : Pos} {i1 : Nat} {e0 : Addr} {Q : Flow → Shared → Prop}
    (X : (K0 P).In g) (T : Top p loose mean mg mb g) (hh : A.handled = some (.ref e0)) (h : wpAny (model prog w) A (eval x env) (RaiseEnd2 e0 g E) E s) :
    wpAny (model prog w) A (exec (.Raise (some x) (some (.Constant .none i1 q1)) pos) env) Q E s := by
  obtain ⟨tl, Ns, nm, q, bs, hdct, sn, sub, ab, col, dd, k0, k1, k2, k3, k5, mN, hC, hN, hni, TL⟩ := (tde_own X T).obj
  have hcB : (Value.ref 46 :: tl).contains (.type "BaseException") = true := by rw [List.contains_cons, TL.hasType (show vErr.contains (.type "BaseException") = true by decide), Bool.or_true]
  rw [arm_exec_Raise]
  refine wpAny_bind (wpAny_standAt ?_)
  unfold raiseStmt
  refine wpAny_bind (wpAny_bind (wpAny_mono h (fun v s₁ h₁ => ?_) fun _ _ y => y))
  obtain ⟨e, t, o0, vs, rfl, hc, he, hne, h0, hd0, h02, hE⟩ := h₁
  have hC1 := hc _ hC
  obtain ⟨hp, gg, d, tk, os⟩ := s₁
  repeat (first | with_reducible refine wpAny_loadPart_at he ?_ | with_reducible refine wpAny_loadPart_at hC1 ?_ | (with_reducible refine wpAny_isSubtype_exc hC1 ?_; rw [hcB]) | wp_step)
  have hne46 : e ≠ 46 := fun z => by
    rw [z] at he
    rw [hC1] at he
    cases he
  have s3 := Heap.SameBut.update hp e (Obj.mapFields fun x => x.setIfInBounds 3 Value.none)
  have s4 := Heap.SameBut.update (hp.update e (Obj.mapFields fun x => x.setIfInBounds 3 Value.none)) e (Obj.mapFields fun x => x.setIfInBounds 4 (Value.bool true))
  have hC2 := ((s4.2 46 (Ne.symm hne46)).trans (s3.2 46 (Ne.symm hne46))).trans hC1
  have he3 := Heap.get?_update_self (Obj.mapFields fun x => x.setIfInBounds 3 Value.none) he rfl
  have he4 := Heap.get?_update_self (Obj.mapFields fun x => x.setIfInBounds 4 (Value.bool true)) he3 rfl
  have h04 := ((s4.2 e0 (Ne.symm hne)).trans (s3.2 e0 (Ne.symm hne))).trans h0
  repeat (first | with_reducible refine wpAny_loadPart_at he4 ?_ | with_reducible refine wpAny_loadPart_at hC2 ?_ | wp_step)
  unfold raiseNew
  refine wpAny_bind (wpAny_handled ?_)
  rw [hh]
  dsimp only
  rw [if_pos (show (Value.ref e0 != Value.ref e) = true by simpa using Ne.symm hne)]
  refine wpAny_bind (wpAny_holding (wpAny_runValue (un_code h04 hd0 h02 ?_)))
  refine wpAny_bind (m := setField (.ref e) 2 (.ref e0)) ?_
  refine wpAny_setField he4 rfl (by simp) (wpAny_throw ?_)
  have s5 := Heap.SameBut.update ((hp.update e (Obj.mapFields fun x => x.setIfInBounds 3 Value.none)).update e (Obj.mapFields fun x => x.setIfInBounds 4 (Value.bool true))) e (Obj.mapFields fun x => x.setIfInBounds 2 (Value.ref e0))
  have he5 := Heap.get?_update_self (Obj.mapFields fun x => x.setIfInBounds 2 (Value.ref e0)) he4 rfl
  exact hE _ ((s3.trans s4).trans s5) he5
theorem news_swap {h₀ h : Heap} {L : Addr} {news : List (Addr × Obj)} {p q : Addr × Obj} (N : News h₀ L h (p :: q :: news)) : News h₀ L h (q :: p :: news) := fun r hr => N r (by
  simp only [List.mem_cons] at hr ⊢
  rcases hr with h | h | h <;> simp [h])
theorem off_cons {h₀ h : Heap} {L e : Addr} {oe : Obj} {X : String} {ps : Array Value} {news : List (Addr × Obj)} (hc : oe.cls = .type X) (N : News h₀ L h ((e, oe) :: (65, tabObj ps) :: news)) (hoff : ∀ p ∈ news, p.1 ≠ 65) : ∀ p ∈ (e, oe) :: news, p.1 ≠ 65 := fun p hp => by
  rcases List.mem_cons.mp hp with rfl | hp
  · exact news_ne N (.head _) (.tail _ (.head _)) (by rw [hc]; simp)
  · exact hoff p hp
noncomputable def cut (e t : Addr) (nw : List (Addr × Obj)) : List (Addr × Obj) := nw.filter fun p => p.1 != e && p.1 != t
theorem mem_cut {e t : Addr} {nw : List (Addr × Obj)} {p : Addr × Obj} (h : p ∈ nw) (h1 : p.1 ≠ e) (h2 : p.1 ≠ t) : p ∈ cut e t nw := List.mem_filter.mpr ⟨h, by simp [h1, h2]⟩
theorem cut_mem {e t : Addr} {nw : List (Addr × Obj)} {p : Addr × Obj} (h : p ∈ cut e t nw) : p ∈ nw ∧ p.1 ≠ e ∧ p.1 ≠ t := by
  obtain ⟨a, b⟩ := List.mem_filter.mp h
  simp at b; exact ⟨a, b⟩
theorem news_eq {h₀ h : Heap} {L a : Addr} {news : List (Addr × Obj)} {oa ob : Obj} (N : News h₀ L h news) (ha : (a, oa) ∈ news) (hb : (a, ob) ∈ news) : oa = ob := by
  have h1 := (N _ ha).1
  have h2 := (N _ hb).1
  simp only at h1 h2
  rw [h1] at h2; exact Option.some.inj h2
theorem TabSt.cut {h₀ h : Heap} {L e t : Addr} {nw : List (Addr × Obj)} {ps : Array Value} {oe : Obj} {v : Value} {vs : Array Value} (H : TabSt nw ps) (N : News h₀ L h nw) (he : (e, oe) ∈ nw) (hd : oe.data = .fields vs) (h1 : vs[1]? = some .none) (ht : (t, tupO [v]) ∈ nw) : TabSt (cut e t nw) ps := by
  refine H.imp id fun ⟨c', oc, ws, q, e1, hm, hd', hv⟩ => ⟨c', oc, ws, q, e1, mem_cut hm (fun z => ?_) (fun z => ?_), hd', hv⟩
  · simp only at z
    rw [z] at hm
    have := news_eq N hm he
    rw [this, hd] at hd'
    cases hd'
    rw [h1] at hv; cases hv
  · simp only at z
    rw [z] at hm
    have := news_eq N hm ht
    rw [this] at hd'
    cases hd'
theorem leave_tde {M : Model} {A : Around} {base g : Heap} {outer : List Env} {name : Str} {scope : Scope} {L a : Addr} {cd : Value} {E : Value → Shared → Prop} {s' : Shared} {m : Str → Option Value} {e t : Addr} {oe : Obj} {vs ps : Array Value} {v : Value} {news nw : List (Addr × Obj)} {Q : Unit → Shared → Prop}
    (K : Below A base outer g) (F : Fr g L s'.heap m) (N : News g L s'.heap ((65, tabObj ps) :: nw)) (he : (e, oe) ∈ nw) (hc : oe.cls = .ref 46) (hd : oe.data = .fields vs) (h0 : vs[0]? = some (.ref t)) (h1 : vs[1]? = some .none)
    (ht : (t, tupO [v]) ∈ nw) (hs : ∀ p ∈ news, p ∈ nw) (hne : ∀ p ∈ news, p.1 ≠ e ∧ p.1 ≠ t) (hT : TabSt nw ps) (hf : ∀ p ∈ nw, p.1 ≠ 65)
    (hR : ∀ h' nw', RaisedK base outer e (.ref 46) t [v] ((65, tabObj ps) :: nw') h' → g.UpToSlots h' → (∀ p ∈ news, p ∈ nw') → TabSt nw' ps → (∀ p ∈ nw', p.1 ≠ 65) → Q () { s' with heap := h' }) (hk : scope.kind = .function := by rfl) :
    wpAny M (A.deeper (envOf name scope L a cd)) (leaving (envOf name scope L a cd) (.ref e)) Q E s' := by
  refine leave_own1 (news := (65, tabObj ps) :: cut e t nw) (nt := 0) K F N (.tail _ he) hd h0 h1 (.tail _ ht) (fun q hq => ?_) (fun q hq => ?_) (fun h' R U => ?_) hk
  · rcases List.mem_cons.mp hq with rfl | hq
    · exact .head _
    · exact .tail _ (cut_mem hq).1
  · rcases List.mem_cons.mp hq with rfl | hq
    · exact ⟨(hf _ he).symm, (hf _ ht).symm⟩
    · exact (cut_mem hq).2
  · rw [hc] at R
    exact hR h' _ R U (fun p hp => mem_cut (hs p hp) (hne p hp).1 (hne p hp).2) (TabSt.cut hT (fun p hp => N p (.tail _ hp)) he hd h1 ht) fun p hp => hf p (cut_mem hp).1
theorem raise2_of {M : Model} {A : Around} {base g g0 : Heap} {outer : List Env} {name : Str} {scope : Scope} {L a e0 : Addr} {cd : Value} {s : Shared} {m : Str → Option Value} {e t : Addr} {o0 : Obj} {a0 T : Value} {ps : Array Value} {v : Value} {news nw : List (Addr × Obj)} {R : Result → Shared → Prop}
    (K : Below A base outer g) (F : Fr g L s.heap m) (N : News g L s.heap ((65, tabObj ps) :: nw)) (he : (e, excObj t) ∈ nw) (ht : (t, tupO [v]) ∈ nw) (hs : ∀ p ∈ (e0, o0) :: news, p ∈ nw) (hne : ∀ p ∈ (e0, o0) :: news, p.1 ≠ e ∧ p.1 ≠ t) (het : e ≠ t)
    (hd0 : o0.data = excF a0 T .none false) (hT : TabSt nw ps) (hf : ∀ p ∈ nw, p.1 ≠ 65) (hk : scope.kind = .function) (hup : g0.UpToSlots g)
    (hR : ∀ h' nw', RaisedK base outer e (.ref 46) t [v] ((65, tabObj ps) :: nw') h' → g0.UpToSlots h' → (∀ p ∈ news, p ∈ nw') → TabSt nw' ps → (∀ p ∈ nw', p.1 ≠ 65) → R (.error (.ref e)) { s with heap := h' }) :
    RaiseEnd2 e0 g (fun e s' => wpAny M (A.deeper (envOf name scope L a cd)) (leaving (envOf name scope L a cd) e) (fun _ s'' => R (.error e) s'') (fun e' s'' => R (.error e') s'') s') (.ref e) s := by
  have m0 := hs _ (.head _)
  refine ⟨e, t, o0, _, rfl, fun o q => F.keep _ _ q, (N _ (.tail _ he)).1, Ne.symm (hne _ (.head _)).1, (N _ (.tail _ m0)).1, hd0, rfl, fun h' sb hg => ?_⟩
  have ge := (N _ (.tail _ he)).2
  have sub : ∀ p ∈ cut e e nw, p ∈ nw ∧ p.1 ≠ e := fun p hp => ⟨(cut_mem hp).1, (cut_mem hp).2.1⟩
  refine leave_tde (news := news) (nw := (e, { cls := .ref 46, data := .fields #[.ref t, .none, .ref e0, .none, .bool true, .none] }) :: cut e e nw) K (F.change sb ge.1 ge.2) (fun p hp => ?_) (.head _) rfl rfl rfl rfl
    (.tail _ (mem_cut ht het.symm het.symm)) (fun p hp => .tail _ (mem_cut (hs p (.tail _ hp)) (hne p (.tail _ hp)).1 (hne p (.tail _ hp)).1)) (fun p hp => hne p (.tail _ hp)) ?_ (fun p hp => ?_) (fun h'' nw' r u => hR h'' nw' r (hup.trans u)) hk
  · rcases List.mem_cons.mp hp with rfl | hp
    · exact ⟨(sb.2 _ (hf _ he).symm).trans (N _ (.head _)).1, (N _ (.head _)).2⟩
    · rcases List.mem_cons.mp hp with rfl | hp
      · exact ⟨hg, ge⟩
      · exact ⟨(sb.2 _ (sub p hp).2).trans (N _ (.tail _ (sub p hp).1)).1, (N _ (.tail _ (sub p hp).1)).2⟩
  · refine hT.imp id fun ⟨c', oc, ws, q, e1, hm, hd', hv⟩ => ⟨c', oc, ws, q, e1, .tail _ (mem_cut hm ?_ ?_), hd', hv⟩
    all_goals
      intro z
      simp only at z
      rw [z] at hm
      have := news_eq (fun p hp => N p (.tail _ hp)) hm he
      rw [this] at hd'
      cases hd'
      cases hv
  · rcases List.mem_cons.mp hp with rfl | hp
    · exact hf (e, excObj t) he
    · exact hf _ (sub p hp).1
section
local macro_rules | `(tactic| walk_at "zz1") => `(tactic| skip)
local macro_rules | `(tactic| walk_at $s:str) => `(tactic| k_extra $s)
theorem rs_W9 : True := by w_top off; k_with_none; trivial
theorem rk_W9_mac3_4 : True := by
  k_with "call builtin:str.index" => (k_here; (with_reducible show wpAny _ _ (call _ [Value.str _ _, Value.str _ _, Value.int _ _]) _ _ _); (with_reducible refine index3 (by assumption) ?_))
  trivial
theorem rk_W9_mac5_2 : True := by
  k_with "pyReprObj str" => (k_here; (with_reducible refine rep_str (by assumption) (by assumption) ?_); intro t'q k'q)
  trivial
theorem rk_W9_mac6_1 : True := by
  k_with "execs cons" => (k_here; (with_reducible show wpAny _ (Around.deeper _ (sufEnv _)) _ _ _ _); k_dflt (refine' suf_spec ?Cd ?ld ?l2d ?l3d ?Cdd ?hLd ?offd ?TSd ?Bd ?Fd ?Xd ?Nd ?Td ?_; (case Cd => with_reducible assumption); (case ld => with_reducible assumption); (case l2d => with_reducible assumption); (case l3d => with_reducible assumption); (case Bd => k_asm); (case Fd => k_asm); (case Xd => k_asm); (case Nd => k_asm); (case Td => k_asm); (case Cdd => exact CodeHd.keeps (by with_reducible assumption) (Below.stays (by with_reducible assumption))); (case offd => with_reducible assumption); (case TSd => with_reducible assumption); (case hLd => exact lt_deeper (by assumption) (by assumption) (by with_reducible assumption)); k_whole); intro e'q t'q tt'q h'q tk'q m'q ps'q nw'q F'q N'q hs'q he'q ht'q hT'q hf'q hne'q het'q)
  k_with "execs cons" => (k_here; (with_reducible show wpAny _ (Around.deeper _ (sufEnv _)) _ _ _ _); k_dflt (refine' suf_spec ?Cc ?lc ?l2c ?l3c ?Cdc ?hLc ?offc ?TSc ?Bc ?Fc ?Xc ?Nc ?Tc ?_; (case Cc => with_reducible assumption); (case lc => with_reducible assumption); (case l2c => with_reducible assumption); (case l3c => with_reducible assumption); (case Bc => k_asm); (case Fc => k_asm); (case Xc => k_asm); (case Nc => k_asm); (case Tc => k_asm); (case Cdc => exact CodeHd.keeps (by with_reducible assumption) (Below.stays (by with_reducible assumption))); (case offc => with_reducible assumption); (case TSc => with_reducible assumption); (case hLc => exact lt_deeper (by assumption) (by assumption) (by with_reducible assumption)); k_whole); intro e'q t'q tt'q h'q tk'q m'q ps'q nw'q F'q N'q hs'q he'q ht'q hT'q hf'q hne'q het'q)
  k_with "execs cons" => (k_here; (with_reducible show wpAny _ (Around.deeper _ (sufEnv _)) _ _ _ _); k_dflt (refine' suf_spec ?Cb ?lb ?l2b ?l3b ?Cdb ?hLb ?offb ?TSb ?Bb ?Fb ?Xb ?Nb ?Tb ?_; (case Cb => with_reducible assumption); (case lb => with_reducible assumption); (case l2b => with_reducible assumption); (case l3b => with_reducible assumption); (case Bb => k_asm); (case Fb => k_asm); (case Xb => k_asm); (case Nb => k_asm); (case Tb => k_asm); (case Cdb => exact CodeHd.keeps (by with_reducible assumption) (Below.stays (by with_reducible assumption))); (case offb => with_reducible assumption); (case TSb => with_reducible assumption); (case hLb => exact lt_deeper (by assumption) (by assumption) (by with_reducible assumption)); k_whole); intro e'q t'q tt'q h'q tk'q m'q ps'q nw'q F'q N'q hs'q he'q ht'q hT'q hf'q hne'q het'q)
  k_with "execs cons" => (k_here; (with_reducible show wpAny _ (Around.deeper _ (sufEnv _)) _ _ _ _); k_dflt (refine' suf_spec ?Ca ?la ?l2a ?l3a ?Cda ?hLa ?offa ?TSa ?Ba ?Fa ?Xa ?Na ?Ta ?_; (case Ca => with_reducible assumption); (case la => with_reducible assumption); (case l2a => with_reducible assumption); (case l3a => with_reducible assumption); (case Ba => k_asm); (case Fa => k_asm); (case Xa => k_asm); (case Na => k_asm); (case Ta => k_asm); (case Cda => exact CodeHd.keeps (by with_reducible assumption) (Below.stays (by with_reducible assumption))); (case offa => with_reducible assumption); (case TSa => with_reducible assumption); (case hLa => exact lt_deeper (by assumption) (by assumption) (by with_reducible assumption)); k_whole); intro e'q t'q tt'q h'q tk'q m'q ps'q nw'q F'q N'q hs'q he'q ht'q hT'q hf'q hne'q het'q)
  trivial
theorem rk_W9_mac7_4 : True := by
  k_with "call builtin:str.index" => (k_here; (with_reducible show wpAny _ _ (call _ [Value.str _ _, Value.str _ _, Value.int _ _]) _ _ _); (refine index3_raises (by rfl) (by assumption) ?_); intro h'q tk'q e'q hx'q)
  k_with "noteFrame ref" => (k_here; (with_reducible show wpAny _ _ (noteFrame _ _) (fun _ s₂ => wpAny _ _ (setFlight _ none) (fun _ s₃ => wpAny _ _ (handleBy _ _ (ExceptHandler.ExceptHandler (some (Expr.Name ("ValueError" : Str) _)) none _ _ :: _)) _ _ s₃) _ s₂) _ _); k_dflt (refine' caught_new (T' := "ValueError") ?Kd ?Fd ?Nd ?hxd ?XBd ?TBd ?exd PyProof.Rows.Boot.«ValueError» ?hnd PySem.F.isExc_ValueError PySem.F.notTuple_ValueError ?hsd ?hEd ?_; (case Kd => k_asm); (case Fd => k_asm); (case Nd => k_asm); (case hxd => assumption); (case XBd => assumption); (case TBd => assumption); (case exd => kernel_rfl); (case hnd => decide +kernel); (case hsd => rw [isSubtype_type]; kernel_rfl); (case hEd => exact PassesOwnAt.leaving)); intro h'q g'q oe'q a0'q T'q F'q N'q c1'q c2'q K'q X'q Tp'q U'q)
  k_with "noteFrame ref" => (k_here; (with_reducible show wpAny _ _ (noteFrame _ _) (fun _ s₂ => wpAny _ _ (setFlight _ none) (fun _ s₃ => wpAny _ _ (handleBy _ _ (ExceptHandler.ExceptHandler (some (Expr.Name ("ValueError" : Str) _)) none _ _ :: _)) _ _ s₃) _ s₂) _ _); k_dflt (refine' caught_new (T' := "ValueError") ?Kc ?Fc ?Nc ?hxc ?XBc ?TBc ?exc PyProof.Rows.Boot.«ValueError» ?hnc PySem.F.isExc_ValueError PySem.F.notTuple_ValueError ?hsc ?hEc ?_; (case Kc => k_asm); (case Fc => k_asm); (case Nc => k_asm); (case hxc => assumption); (case XBc => assumption); (case TBc => assumption); (case exc => kernel_rfl); (case hnc => decide +kernel); (case hsc => rw [isSubtype_type]; kernel_rfl); (case hEc => exact PassesOwnAt.leaving)); intro h'q g'q oe'q a0'q T'q F'q N'q c1'q c2'q K'q X'q Tp'q U'q)
  k_with "noteFrame ref" => (k_here; (with_reducible show wpAny _ _ (noteFrame _ _) (fun _ s₂ => wpAny _ _ (setFlight _ none) (fun _ s₃ => wpAny _ _ (handleBy _ _ (ExceptHandler.ExceptHandler (some (Expr.Name ("ValueError" : Str) _)) none _ _ :: _)) _ _ s₃) _ s₂) _ _); k_dflt (refine' caught_new (T' := "ValueError") ?Kb ?Fb ?Nb ?hxb ?XBb ?TBb ?exb PyProof.Rows.Boot.«ValueError» ?hnb PySem.F.isExc_ValueError PySem.F.notTuple_ValueError ?hsb ?hEb ?_; (case Kb => k_asm); (case Fb => k_asm); (case Nb => k_asm); (case hxb => assumption); (case XBb => assumption); (case TBb => assumption); (case exb => kernel_rfl); (case hnb => decide +kernel); (case hsb => rw [isSubtype_type]; kernel_rfl); (case hEb => exact PassesOwnAt.leaving)); intro h'q g'q oe'q a0'q T'q F'q N'q c1'q c2'q K'q X'q Tp'q U'q)
  k_with "noteFrame ref" => (k_here; (with_reducible show wpAny _ _ (noteFrame _ _) (fun _ s₂ => wpAny _ _ (setFlight _ none) (fun _ s₃ => wpAny _ _ (handleBy _ _ (ExceptHandler.ExceptHandler (some (Expr.Name ("ValueError" : Str) _)) none _ _ :: _)) _ _ s₃) _ s₂) _ _); k_dflt (refine' caught_new (T' := "ValueError") ?Ka ?Fa ?Na ?hxa ?XBa ?TBa ?exa PyProof.Rows.Boot.«ValueError» ?hna PySem.F.isExc_ValueError PySem.F.notTuple_ValueError ?hsa ?hEa ?_; (case Ka => k_asm); (case Fa => k_asm); (case Na => k_asm); (case hxa => assumption); (case XBa => assumption); (case TBa => assumption); (case exa => kernel_rfl); (case hna => decide +kernel); (case hsa => rw [isSubtype_type]; kernel_rfl); (case hEa => exact PassesOwnAt.leaving)); intro h'q g'q oe'q a0'q T'q F'q N'q c1'q c2'q K'q X'q Tp'q U'q)
  k_with "exec Raise some some" => (k_here; k_dflt (refine' raise_from ?Xd ?Td ?hd ?_; (case Xd => k_asm); (case Td => k_asm); (case hd => rfl); k_whole))
  k_with "exec Raise some some" => (k_here; k_dflt (refine' raise_from ?Xc ?Tc ?hc ?_; (case Xc => k_asm); (case Tc => k_asm); (case hc => rfl); k_whole))
  k_with "exec Raise some some" => (k_here; k_dflt (refine' raise_from ?Xb ?Tb ?hb ?_; (case Xb => k_asm); (case Tb => k_asm); (case hb => rfl); k_whole))
  k_with "exec Raise some some" => (k_here; k_dflt (refine' raise_from ?Xa ?Ta ?ha ?_; (case Xa => k_asm); (case Ta => k_asm); (case ha => rfl); k_whole))
  k_with "execs cons" => (k_here; (with_reducible show wpAny _ (Around.deeper (Around.mark _ _) (envOf _ s_suf _ _ _)) _ _ _ _); k_dflt (refine' suf_spec_m ?Cd ?ld ?l2d ?l3d ?Cdd ?hLd ?offd ?TSd ?Bd ?Fd ?Xd ?Nd ?Td ?_; (case Cd => with_reducible assumption); (case ld => with_reducible assumption); (case l2d => with_reducible assumption); (case l3d => with_reducible assumption); (case Bd => k_asm); (case Fd => k_asm); (case Xd => k_asm); (case Nd => exact news_swap (by k_asm)); (case Td => k_asm); (case Cdd => exact CodeHd.keeps (by with_reducible assumption) (Below.stays (by with_reducible assumption))); (case offd => exact off_cons (by assumption) (by k_asm) (by with_reducible assumption)); (case TSd => exact TabSt.mono (by with_reducible assumption) (fun p hp => List.Mem.tail _ hp)); (case hLd => exact lt_deeper (by assumption) (by assumption) (by with_reducible assumption)); k_whole); intro e'q t'q tt'q h'q tk'q m'q ps'q nw'q F'q N'q hs'q he'q ht'q hT'q hf'q hne'q het'q)
  k_with "execs cons" => (k_here; (with_reducible show wpAny _ (Around.deeper (Around.mark _ _) (envOf _ s_suf _ _ _)) _ _ _ _); k_dflt (refine' suf_spec_m ?Cc ?lc ?l2c ?l3c ?Cdc ?hLc ?offc ?TSc ?Bc ?Fc ?Xc ?Nc ?Tc ?_; (case Cc => with_reducible assumption); (case lc => with_reducible assumption); (case l2c => with_reducible assumption); (case l3c => with_reducible assumption); (case Bc => k_asm); (case Fc => k_asm); (case Xc => k_asm); (case Nc => exact news_swap (by k_asm)); (case Tc => k_asm); (case Cdc => exact CodeHd.keeps (by with_reducible assumption) (Below.stays (by with_reducible assumption))); (case offc => exact off_cons (by assumption) (by k_asm) (by with_reducible assumption)); (case TSc => exact TabSt.mono (by with_reducible assumption) (fun p hp => List.Mem.tail _ hp)); (case hLc => exact lt_deeper (by assumption) (by assumption) (by with_reducible assumption)); k_whole); intro e'q t'q tt'q h'q tk'q m'q ps'q nw'q F'q N'q hs'q he'q ht'q hT'q hf'q hne'q het'q)
  k_with "execs cons" => (k_here; (with_reducible show wpAny _ (Around.deeper (Around.mark _ _) (envOf _ s_suf _ _ _)) _ _ _ _); k_dflt (refine' suf_spec_m ?Cb ?lb ?l2b ?l3b ?Cdb ?hLb ?offb ?TSb ?Bb ?Fb ?Xb ?Nb ?Tb ?_; (case Cb => with_reducible assumption); (case lb => with_reducible assumption); (case l2b => with_reducible assumption); (case l3b => with_reducible assumption); (case Bb => k_asm); (case Fb => k_asm); (case Xb => k_asm); (case Nb => exact news_swap (by k_asm)); (case Tb => k_asm); (case Cdb => exact CodeHd.keeps (by with_reducible assumption) (Below.stays (by with_reducible assumption))); (case offb => exact off_cons (by assumption) (by k_asm) (by with_reducible assumption)); (case TSb => exact TabSt.mono (by with_reducible assumption) (fun p hp => List.Mem.tail _ hp)); (case hLb => exact lt_deeper (by assumption) (by assumption) (by with_reducible assumption)); k_whole); intro e'q t'q tt'q h'q tk'q m'q ps'q nw'q F'q N'q hs'q he'q ht'q hT'q hf'q hne'q het'q)
  k_with "execs cons" => (k_here; (with_reducible show wpAny _ (Around.deeper (Around.mark _ _) (envOf _ s_suf _ _ _)) _ _ _ _); k_dflt (refine' suf_spec_m ?Ca ?la ?l2a ?l3a ?Cda ?hLa ?offa ?TSa ?Ba ?Fa ?Xa ?Na ?Ta ?_; (case Ca => with_reducible assumption); (case la => with_reducible assumption); (case l2a => with_reducible assumption); (case l3a => with_reducible assumption); (case Ba => k_asm); (case Fa => k_asm); (case Xa => k_asm); (case Na => exact news_swap (by k_asm)); (case Ta => k_asm); (case Cda => exact CodeHd.keeps (by with_reducible assumption) (Below.stays (by with_reducible assumption))); (case offa => exact off_cons (by assumption) (by k_asm) (by with_reducible assumption)); (case TSa => exact TabSt.mono (by with_reducible assumption) (fun p hp => List.Mem.tail _ hp)); (case hLa => exact lt_deeper (by assumption) (by assumption) (by with_reducible assumption)); k_whole); intro e'q t'q tt'q h'q tk'q m'q ps'q nw'q F'q N'q hs'q he'q ht'q hT'q hf'q hne'q het'q)
  trivial
section
variable {w : World} {A₀ : Around} {base g : Heap} {outer : List Env} {L0 L : Addr} {m mg mb : Str → Option Value} {p : Program} {loose : List Str} {mean : ExcName → Option Value} {news : List (Addr × Obj)} {s : Shared}
  {Q : Flow → Shared → Prop} {E : Value → Shared → Prop}
theorem skip_none {L1 : Addr} {ps : Array Value} {t1 t2 t3 : Tok} {src txt r : Str} {pos : Int} (hlen : src.length ≤ 1000) (hp0 : 0 ≤ pos)
  (hidx : Builtin.Str.occurrences src (Str.ofString "'") (fromIndex src.length pos) src.length 1 = [])
  (Cd : Coord src (src.length : Int) txt) (htxt : txt.length ≤ 1000) (hr : reprText (Str.ofString "'") = r) (hrl : r.length ≤ 1000) (hmsg : (Str.empty ++ Str.ofString "Expected " ++ r).length ≤ 1000)
  (C : CodeHd base 69 65) (hL : 65 < L) (hoff : ∀ p ∈ news, p.1 ≠ 65) (hT : TabSt news ps)
  (B : Below (parseA L0 L1) base [parseEnv L1, lawEnv L0] g) (F : Fr g L s.heap (fun y => [(Str.ofString "src", Value.str src t1), (Str.ofString "pos", Value.int pos t2), (Str.ofString "expect", Value.str (Str.ofString "'") t3), (Str.ofString "error_on", Value.ref 36), (Str.ofString "error_on_eof", Value.bool true)].reverse.lookup y)) (X : (K0 w.params).In g) (XB : (K0 w.params).In base) (TB : Top p loose mean mg mb base) {R : Result → Shared → Prop}
  (N : News g L s.heap ((65, tabObj ps) :: news)) (T : Top p loose mean mg mb g)
  (hR : ∀ e t tt h' tk ps' nw', RaisedK base [parseEnv L1, lawEnv L0] e (.ref 46) t [.str (sayAt (Str.empty ++ Str.ofString "Expected " ++ r) txt) tt] ((65, tabObj ps') :: nw') h' → g.UpToSlots h' → (∀ p ∈ news, p ∈ nw') → TabSt nw' ps' → (∀ p ∈ nw', p.1 ≠ 65) → R (.error (.ref e)) { s with heap := h', toks := tk })
  : wpAny (model PySem.Challenge.rw_in0014_01.row.prog w) ((parseA L0 L1).deeper (skipEnv L)) (execs b_skip (skipEnv L)) Q (fun e s' => wpAny (model PySem.Challenge.rw_in0014_01.row.prog w) ((parseA L0 L1).deeper (skipEnv L)) (leaving (skipEnv L) e) (fun _ s'' => R (.error e) s'') (fun e' s'' => R (.error e') s'') s') s := by
  revert X; k_fill; intro X
  k_steps
  all_goals exact raise2_of (by assumption) (by assumption) (by assumption) (by assumption) (by assumption) (by assumption) (by assumption) (by assumption) (by assumption) (by assumption) (by assumption) rfl (by assumption) (fun h' nw' => hR _ _ _ h' _ _ nw')
end
end
section
local macro_rules | `(tactic| walk_at $s:str) => `(tactic| k_extra $s)
theorem rs_W10 : True := by w_top off; k_with_none; trivial
inductive Refuses (S : Str → Bool) (src : Str) (pos : Int) : Str → Prop
  | bad {sl txt c r : Str} {pe : Int} {k d : Nat} {rest : List Nat} : Builtin.Str.occurrences src (Str.ofString "'") (fromIndex src.length pos) src.length 1 = k :: rest → (k : Int) ≤ 1000 →
      Txt.slice src (some pos) (some (k : Int)) = sl → sl.length ≤ 1000 → (sl.cps.toList.any fun c => S ⟨#[c]⟩) = true →
      pe < (src.length : Int) → 0 ≤ pe → Txt.item src pe = c → S c = true → pos + d = pe → (∀ i, pos ≤ i → i < pe → S (Txt.item src i) = false) →
      Coord src pe txt → txt.length ≤ 1000 → reprText c = r → r.length ≤ 1000 → (Str.empty ++ Str.ofString "Found invalid character " ++ r).length ≤ 1000 → Refuses S src pos (sayAt (Str.empty ++ Str.ofString "Found invalid character " ++ r) txt)
  | none {txt r : Str} : Builtin.Str.occurrences src (Str.ofString "'") (fromIndex src.length pos) src.length 1 = [] → Coord src (src.length : Int) txt → txt.length ≤ 1000 → reprText (Str.ofString "'") = r → r.length ≤ 1000 → (Str.empty ++ Str.ofString "Expected " ++ r).length ≤ 1000 →
      Refuses S src pos (sayAt (Str.empty ++ Str.ofString "Expected " ++ r) txt)
noncomputable abbrev RaiseK (base : Heap) (outer : List Env) (g : Heap) (news : List (Addr × Obj)) (v : Str) (E' : Value → Shared → Prop) (s : Shared) : Prop := ∀ e t tt h' tk ps' nw', RaisedK base outer e (.ref 46) t [.str v tt] ((65, tabObj ps') :: nw') h' → g.UpToSlots h' → (∀ p ∈ news, p ∈ nw') → TabSt nw' ps' → (∀ p ∈ nw', p.1 ≠ 65) → E' (.ref e) { s with heap := h', toks := tk }
section
variable {w : World} {A₀ : Around} {base g : Heap} {outer : List Env} {L0 L : Addr} {m mg mb : Str → Option Value} {p : Program} {loose : List Str} {mean : ExcName → Option Value} {news : List (Addr × Obj)} {s : Shared}
  {Q : Flow → Shared → Prop} {E : Value → Shared → Prop}
theorem skip_err {L1 : Addr} {ps : Array Value} {S : Str → Bool} {t1 t2 t3 : Tok} {src words : Str} {pos : Int} {E' : Value → Shared → Prop} (H : Refuses S src pos words) (hlen : src.length ≤ 1000) (hp0 : 0 ≤ pos)
  (C : CodeHd base 69 65) (hL : 65 < L) (hoff : ∀ p ∈ news, p.1 ≠ 65) (hT : TabSt news ps)
  (fs : FS PySem.Challenge.rw_in0014_01.row.prog w base 36 S) (XB : (K0 w.params).In base) (TB : Top p loose mean mg mb base)
  (B : Below (parseA L0 L1) base [parseEnv L1, lawEnv L0] g) (F : Fr g L s.heap (fun y => [(Str.ofString "src", Value.str src t1), (Str.ofString "pos", Value.int pos t2), (Str.ofString "expect", Value.str (Str.ofString "'") t3), (Str.ofString "error_on", Value.ref 36), (Str.ofString "error_on_eof", Value.bool true)].reverse.lookup y)) (X : (K0 w.params).In g)
  (N : News g L s.heap ((65, tabObj ps) :: news)) (T : Top p loose mean mg mb g)
  (hR : RaiseK base [parseEnv L1, lawEnv L0] g news words E' s)
  : wpAny (model PySem.Challenge.rw_in0014_01.row.prog w) ((parseA L0 L1).deeper (skipEnv L)) (execs b_skip (skipEnv L)) Q
      (fun e s' => wpAny (model PySem.Challenge.rw_in0014_01.row.prog w) ((parseA L0 L1).deeper (skipEnv L)) (leaving (skipEnv L) e) (fun _ s'' => E' e s'') (fun e' s'' => E' e' s'') s') s := by
  cases H with
  | bad h1 h2 h3 h4 h5 h6 h7 h8 h9 h10 h11 h12 h13 h14 h15 h16 =>
    refine skip_bad hlen hp0 h1 h2 h3 h4 h5 h6 h7 h8 h9 h10 h11 h12 h13 h14 h15 h16 C hL hoff hT (fs.keeps B.stays) (by passes_own) B F X N T ?_
    intro e t tt h' tk m' ps' nw' F' N' hs he ht hT' hf hne het
    exact leave_tde (s' := { s with heap := h', toks := tk }) B F' N' he rfl rfl rfl rfl ht hs hne hT' hf (fun h'' nw'' r u a b c => hR e t tt h'' tk ps' nw'' r u a b c)
  | none h1 h2 h3 h4 h5 h6 =>
    exact skip_none (R := fun r s' => match r with | .error e => E' e s' | .ok _ => False) hlen hp0 h1 h2 h3 h4 h5 h6 C hL hoff hT B F X XB TB N T hR
end
theorem rk_W10_mac1_8 : True := by
  k_with "subscriptTail Name Slice str ref" => (k_here; (with_reducible show wpAny _ _ (subscriptTail _ (Expr.Slice none (some _) none _) _ _) _ _ _); (k_dflt (refine' slc_ns (s := ⟨_, _, _, _, _⟩) (by k_asm) (by k_asm) (by with_reducible assumption) (by with_reducible assumption) ?_ (by with_unfolding_all rfl) (by intro _; with_unfolding_all rfl))); k_whole; intro h'q t'q k'q F'q N'q)
  k_with "subscriptTail Name Slice str ref" => (k_here; (with_reducible show wpAny _ _ (subscriptTail _ (Expr.Slice (some _) none none _) _ _) _ _ _); (k_dflt (refine' slc_sn (s := ⟨_, _, _, _, _⟩) (by k_asm) (by k_asm) (by with_reducible assumption) (by k_dflt rfl) (by with_reducible assumption) ?_ (by with_unfolding_all rfl) (by intro _; with_unfolding_all rfl))); k_whole; intro h'q t'q k'q F'q N'q)
  k_with "subscriptTail Name Slice str ref" => (k_here; (with_reducible show wpAny _ _ (subscriptTail _ (Expr.Slice (some _) (some _) none _) _ _) _ _ _); (k_dflt (refine' slc_ss (s := ⟨_, _, _, _, _⟩) (by k_asm) (by k_asm) (by with_reducible assumption) (by with_reducible assumption) ?_ (by with_unfolding_all rfl) (by intro _; with_unfolding_all rfl))); k_whole; intro h'q t'q k'q F'q N'q)
  trivial
theorem rk_W10_mac8_1 : True := by
  k_with "execs cons" => (k_here; (with_reducible show wpAny _ (Around.deeper _ (envOf _ s_skip _ _ _)) _ _ _ _); k_dflt (refine' skip_ok ?a1d ?a2d ?a3d ?a4d ?a5d ?a6d ?a7d ?fsd ?Bd ?Fd ?Xd ?Nd ?Td ?_; (case Fd => k_asm); (case a3d => with_reducible assumption); (case a1d => with_reducible assumption); (case a2d => omega); (case a4d => with_reducible assumption); (case a5d => with_reducible assumption); (case a6d => with_reducible assumption); (case a7d => with_reducible assumption); (case Bd => k_asm); (case Xd => k_asm); (case Nd => k_asm); (case Td => k_asm); (case fsd => exact FS.keeps (by with_reducible assumption) (Below.stays (by with_reducible assumption))); k_whole); intro h'q tk'q t'q m'q F'q N'q)
  k_with "execs cons" => (k_here; (with_reducible show wpAny _ (Around.deeper _ (envOf _ s_skip _ _ _)) _ _ _ _); k_dflt (refine' skip_ok ?a1c ?a2c ?a3c ?a4c ?a5c ?a6c ?a7c ?fsc ?Bc ?Fc ?Xc ?Nc ?Tc ?_; (case Fc => k_asm); (case a3c => with_reducible assumption); (case a1c => with_reducible assumption); (case a2c => omega); (case a4c => with_reducible assumption); (case a5c => with_reducible assumption); (case a6c => with_reducible assumption); (case a7c => with_reducible assumption); (case Bc => k_asm); (case Xc => k_asm); (case Nc => k_asm); (case Tc => k_asm); (case fsc => exact FS.keeps (by with_reducible assumption) (Below.stays (by with_reducible assumption))); k_whole); intro h'q tk'q t'q m'q F'q N'q)
  k_with "execs cons" => (k_here; (with_reducible show wpAny _ (Around.deeper _ (envOf _ s_skip _ _ _)) _ _ _ _); k_dflt (refine' skip_ok ?a1b ?a2b ?a3b ?a4b ?a5b ?a6b ?a7b ?fsb ?Bb ?Fb ?Xb ?Nb ?Tb ?_; (case Fb => k_asm); (case a3b => with_reducible assumption); (case a1b => with_reducible assumption); (case a2b => omega); (case a4b => with_reducible assumption); (case a5b => with_reducible assumption); (case a6b => with_reducible assumption); (case a7b => with_reducible assumption); (case Bb => k_asm); (case Xb => k_asm); (case Nb => k_asm); (case Tb => k_asm); (case fsb => exact FS.keeps (by with_reducible assumption) (Below.stays (by with_reducible assumption))); k_whole); intro h'q tk'q t'q m'q F'q N'q)
  k_with "execs cons" => (k_here; (with_reducible show wpAny _ (Around.deeper _ (envOf _ s_skip _ _ _)) _ _ _ _); k_dflt (refine' skip_ok ?a1a ?a2a ?a3a ?a4a ?a5a ?a6a ?a7a ?fsa ?Ba ?Fa ?Xa ?Na ?Ta ?_; (case Fa => k_asm); (case a3a => with_reducible assumption); (case a1a => with_reducible assumption); (case a2a => omega); (case a4a => with_reducible assumption); (case a5a => with_reducible assumption); (case a6a => with_reducible assumption); (case a7a => with_reducible assumption); (case Ba => k_asm); (case Xa => k_asm); (case Na => k_asm); (case Ta => k_asm); (case fsa => exact FS.keeps (by with_reducible assumption) (Below.stays (by with_reducible assumption))); k_whole); intro h'q tk'q t'q m'q F'q N'q)
  trivial
section
variable {w : World} {A₀ : Around} {base g : Heap} {outer : List Env} {L0 L : Addr} {m mg mb : Str → Option Value} {p : Program} {loose : List Str} {mean : ExcName → Option Value} {news : List (Addr × Obj)} {s : Shared}
  {Q : Flow → Shared → Prop} {E : Value → Shared → Prop}
theorem parse_ok {S : Str → Bool} {t1 t2 : Tok} {src sl : Str} {pos : Int} {k : Nat} {rest : List Nat} (hlen : src.length ≤ 1000) (hp0 : 0 ≤ pos) (hp1 : pos ≤ 1000)
  (hidx : Builtin.Str.occurrences src (Str.ofString "'") (fromIndex src.length (pos + 1)) src.length 1 = k :: rest) (hkl : (k : Int) ≤ 1000)
  (hsl : Txt.slice src (some (pos + 1)) (some (k : Int)) = sl) (hsll : sl.length ≤ 1000) (hd : (sl.cps.toList.any fun c => S ⟨#[c]⟩) = false)
  (fs : FS PySem.Challenge.rw_in0014_01.row.prog w base 36 S)
  (B : Below (lawA L0) base [lawEnv L0] g) (F : Fr g L s.heap (fun y => [(Str.ofString "src", Value.str src t1), (Str.ofString "pos", Value.int pos t2)].reverse.lookup y)) (X : (K0 w.params).In g) (N : News g L s.heap news) (T : Top p loose mean mg mb g)
  (hQ : ∀ D h' tk m' ta tb, Fr g L h' m' → News g L h' ((D, ({ cls := .type "tuple", data := .seq #[.int ((k : Int) + 1) ta, .str sl tb] } : Obj)) :: news) → (∀ p ∈ news, p.1 < D) → Q (.ret (.ref D)) { s with heap := h', toks := tk })
  : wpAny (model PySem.Challenge.rw_in0014_01.row.prog w) ((lawA L0).deeper (parseEnv L)) (execs b_parse (parseEnv L)) Q E s := by
  revert X; k_fill; intro X
  k_steps
  all_goals exact hQ _ _ _ _ _ _ (by assumption) (by assumption) (by assumption)
end
end
section
local macro_rules | `(tactic| walk_at "zz1") => `(tactic| skip)
local macro_rules | `(tactic| walk_at $s:str) => `(tactic| k_extra $s)
theorem rs_W11 : True := by w_top off; k_with_none; trivial
theorem rk_W11_mac9_1 : True := by
  k_with "execs cons" => (k_here; (with_reducible show wpAny _ (Around.deeper _ (envOf _ s_skip _ _ _)) _ _ _ _); k_dflt (refine' skip_err ?Hd ?a1d ?a2d ?Cd ?hLd ?offd ?TSd ?fsd ?XBd ?TBd ?Bd ?Fd ?Xd ?Nd ?Td ?_; (case Fd => k_asm); (case Hd => with_reducible assumption); (case a1d => with_reducible assumption); (case a2d => omega); (case Cd => with_reducible assumption); (case hLd => exact lt_deeper (by assumption) (by assumption) (by with_reducible assumption)); (case offd => with_reducible assumption); (case TSd => with_reducible assumption); (case fsd => with_reducible assumption); (case XBd => assumption); (case TBd => assumption); (case Bd => k_asm); (case Xd => k_asm); (case Nd => k_asm); (case Td => k_asm)); intro e'q t'q tt'q h'q tk'q ps'q nw'q R'q U'q hs'q hT'q hf'q)
  k_with "execs cons" => (k_here; (with_reducible show wpAny _ (Around.deeper _ (envOf _ s_skip _ _ _)) _ _ _ _); k_dflt (refine' skip_err ?Hc ?a1c ?a2c ?Cc ?hLc ?offc ?TSc ?fsc ?XBc ?TBc ?Bc ?Fc ?Xc ?Nc ?Tc ?_; (case Fc => k_asm); (case Hc => with_reducible assumption); (case a1c => with_reducible assumption); (case a2c => omega); (case Cc => with_reducible assumption); (case hLc => exact lt_deeper (by assumption) (by assumption) (by with_reducible assumption)); (case offc => with_reducible assumption); (case TSc => with_reducible assumption); (case fsc => with_reducible assumption); (case XBc => assumption); (case TBc => assumption); (case Bc => k_asm); (case Xc => k_asm); (case Nc => k_asm); (case Tc => k_asm)); intro e'q t'q tt'q h'q tk'q ps'q nw'q R'q U'q hs'q hT'q hf'q)
  k_with "execs cons" => (k_here; (with_reducible show wpAny _ (Around.deeper _ (envOf _ s_skip _ _ _)) _ _ _ _); k_dflt (refine' skip_err ?Hb ?a1b ?a2b ?Cb ?hLb ?offb ?TSb ?fsb ?XBb ?TBb ?Bb ?Fb ?Xb ?Nb ?Tb ?_; (case Fb => k_asm); (case Hb => with_reducible assumption); (case a1b => with_reducible assumption); (case a2b => omega); (case Cb => with_reducible assumption); (case hLb => exact lt_deeper (by assumption) (by assumption) (by with_reducible assumption)); (case offb => with_reducible assumption); (case TSb => with_reducible assumption); (case fsb => with_reducible assumption); (case XBb => assumption); (case TBb => assumption); (case Bb => k_asm); (case Xb => k_asm); (case Nb => k_asm); (case Tb => k_asm)); intro e'q t'q tt'q h'q tk'q ps'q nw'q R'q U'q hs'q hT'q hf'q)
  k_with "execs cons" => (k_here; (with_reducible show wpAny _ (Around.deeper _ (envOf _ s_skip _ _ _)) _ _ _ _); k_dflt (refine' skip_err ?Ha ?a1a ?a2a ?Ca ?hLa ?offa ?TSa ?fsa ?XBa ?TBa ?Ba ?Fa ?Xa ?Na ?Ta ?_; (case Fa => k_asm); (case Ha => with_reducible assumption); (case a1a => with_reducible assumption); (case a2a => omega); (case Ca => with_reducible assumption); (case hLa => exact lt_deeper (by assumption) (by assumption) (by with_reducible assumption)); (case offa => with_reducible assumption); (case TSa => with_reducible assumption); (case fsa => with_reducible assumption); (case XBa => assumption); (case TBa => assumption); (case Ba => k_asm); (case Xa => k_asm); (case Na => k_asm); (case Ta => k_asm)); intro e'q t'q tt'q h'q tk'q ps'q nw'q R'q U'q hs'q hT'q hf'q)
  trivial
section
variable {w : World} {A₀ : Around} {base g : Heap} {outer : List Env} {L0 L : Addr} {m mg mb : Str → Option Value} {p : Program} {loose : List Str} {mean : ExcName → Option Value} {news : List (Addr × Obj)} {s : Shared}
  {Q : Flow → Shared → Prop} {E : Value → Shared → Prop}
theorem parse_err {S : Str → Bool} {ps : Array Value} {t1 t2 : Tok} {src words : Str} {pos : Int} {E' : Value → Shared → Prop} (H : Refuses S src (pos + 1) words) (hlen : src.length ≤ 1000) (hp0 : 0 ≤ pos) (hp1 : pos ≤ 1000)
  (C : CodeHd base 69 65) (hL : 65 < L) (hoff : ∀ p ∈ news, p.1 ≠ 65) (hT : TabSt news ps)
  (fs : FS PySem.Challenge.rw_in0014_01.row.prog w base 36 S) (XB : (K0 w.params).In base) (TB : Top p loose mean mg mb base)
  (B : Below (lawA L0) base [lawEnv L0] g) (F : Fr g L s.heap (fun y => [(Str.ofString "src", Value.str src t1), (Str.ofString "pos", Value.int pos t2)].reverse.lookup y)) (X : (K0 w.params).In g) (N : News g L s.heap ((65, tabObj ps) :: news)) (T : Top p loose mean mg mb g)
  (hR : RaiseK base [lawEnv L0] g news words E' s)
  : wpAny (model PySem.Challenge.rw_in0014_01.row.prog w) ((lawA L0).deeper (parseEnv L)) (execs b_parse (parseEnv L)) Q
      (fun e s' => wpAny (model PySem.Challenge.rw_in0014_01.row.prog w) ((lawA L0).deeper (parseEnv L)) (leaving (parseEnv L) e) (fun _ s'' => E' e s'') (fun e' s'' => E' e' s'') s') s := by
  revert X; k_fill; intro X
  k_steps
  all_goals exact hR _ _ _ _ _ _ _ (by assumption) (by assumption) (by assumption) (by assumption) (by assumption)
end
end
noncomputable def K1 (P : PySem.Params) : PySem.W.Frag :=
  (nat_lit 0, Obj.mk (Value.type "dict") Option.none (Data.dict #[DictEntry.mk (PyData.keyHash P (Str.ofString "__name__")) (Value.str (Str.ofString "__name__") 1) (Value.str (Str.ofString "builtins") 160), DictEntry.mk (PyData.keyHash P (Str.ofString "__doc__")) (Value.str (Str.ofString "__doc__") 2) (Value.builtin "builtins.__doc__:str#opaque"), DictEntry.mk (PyData.keyHash P (Str.ofString "__package__")) (Value.str (Str.ofString "__package__") 3) (Value.builtin "builtins.__package__:str#opaque"), DictEntry.mk (PyData.keyHash P (Str.ofString "__loader__")) (Value.str (Str.ofString "__loader__") 4) (Value.builtin "builtins.__loader__:shared#opaque"), DictEntry.mk (PyData.keyHash P (Str.ofString "__spec__")) (Value.str (Str.ofString "__spec__") 5) (Value.builtin "builtins.__spec__#opaque"), DictEntry.mk (PyData.keyHash P (Str.ofString "__build_class__")) (Value.str (Str.ofString "__build_class__") 6) (Value.builtin "__build_class__"), DictEntry.mk (PyData.keyHash P (Str.ofString "__import__")) (Value.str (Str.ofString "__import__") 7) (Value.builtin "__import__"), DictEntry.mk (PyData.keyHash P (Str.ofString "abs")) (Value.str (Str.ofString "abs") 8) (Value.builtin "abs"), DictEntry.mk (PyData.keyHash P (Str.ofString "all")) (Value.str (Str.ofString "all") 9) (Value.builtin "all"), DictEntry.mk (PyData.keyHash P (Str.ofString "any")) (Value.str (Str.ofString "any") 10) (Value.builtin "any"), DictEntry.mk (PyData.keyHash P (Str.ofString "ascii")) (Value.str (Str.ofString "ascii") 11) (Value.builtin "ascii"), DictEntry.mk (PyData.keyHash P (Str.ofString "bin")) (Value.str (Str.ofString "bin") 12) (Value.builtin "bin"), DictEntry.mk (PyData.keyHash P (Str.ofString "breakpoint")) (Value.str (Str.ofString "breakpoint") 13) (Value.builtin "breakpoint"), DictEntry.mk (PyData.keyHash P (Str.ofString "callable")) (Value.str (Str.ofString "callable") 14) (Value.builtin "callable"), DictEntry.mk (PyData.keyHash P (Str.ofString "chr")) (Value.str (Str.ofString "chr") 15) (Value.builtin "chr"), DictEntry.mk (PyData.keyHash P (Str.ofString "compile")) (Value.str (Str.ofString "compile") 16) (Value.builtin "compile"), DictEntry.mk (PyData.keyHash P (Str.ofString "delattr")) (Value.str (Str.ofString "delattr") 17) (Value.builtin "delattr"), DictEntry.mk (PyData.keyHash P (Str.ofString "dir")) (Value.str (Str.ofString "dir") 18) (Value.builtin "dir"), DictEntry.mk (PyData.keyHash P (Str.ofString "divmod")) (Value.str (Str.ofString "divmod") 19) (Value.builtin "divmod"), DictEntry.mk (PyData.keyHash P (Str.ofString "eval")) (Value.str (Str.ofString "eval") 20) (Value.builtin "eval"), DictEntry.mk (PyData.keyHash P (Str.ofString "exec")) (Value.str (Str.ofString "exec") 21) (Value.builtin "exec"), DictEntry.mk (PyData.keyHash P (Str.ofString "format")) (Value.str (Str.ofString "format") 22) (Value.builtin "format"), DictEntry.mk (PyData.keyHash P (Str.ofString "getattr")) (Value.str (Str.ofString "getattr") 23) (Value.builtin "getattr"), DictEntry.mk (PyData.keyHash P (Str.ofString "globals")) (Value.str (Str.ofString "globals") 24) (Value.builtin "globals"), DictEntry.mk (PyData.keyHash P (Str.ofString "hasattr")) (Value.str (Str.ofString "hasattr") 25) (Value.builtin "hasattr"), DictEntry.mk (PyData.keyHash P (Str.ofString "hash")) (Value.str (Str.ofString "hash") 26) (Value.builtin "hash"), DictEntry.mk (PyData.keyHash P (Str.ofString "hex")) (Value.str (Str.ofString "hex") 27) (Value.builtin "hex"), DictEntry.mk (PyData.keyHash P (Str.ofString "id")) (Value.str (Str.ofString "id") 28) (Value.builtin "id"), DictEntry.mk (PyData.keyHash P (Str.ofString "input")) (Value.str (Str.ofString "input") 29) (Value.builtin "input"), DictEntry.mk (PyData.keyHash P (Str.ofString "isinstance")) (Value.str (Str.ofString "isinstance") 30) (Value.builtin "isinstance"), DictEntry.mk (PyData.keyHash P (Str.ofString "issubclass")) (Value.str (Str.ofString "issubclass") 31) (Value.builtin "issubclass"), DictEntry.mk (PyData.keyHash P (Str.ofString "iter")) (Value.str (Str.ofString "iter") 32) (Value.builtin "iter"), DictEntry.mk (PyData.keyHash P (Str.ofString "aiter")) (Value.str (Str.ofString "aiter") 33) (Value.builtin "aiter"), DictEntry.mk (PyData.keyHash P (Str.ofString "len")) (Value.str (Str.ofString "len") 34) (Value.builtin "len"), DictEntry.mk (PyData.keyHash P (Str.ofString "locals")) (Value.str (Str.ofString "locals") 35) (Value.builtin "locals"), DictEntry.mk (PyData.keyHash P (Str.ofString "max")) (Value.str (Str.ofString "max") 36) (Value.builtin "max"), DictEntry.mk (PyData.keyHash P (Str.ofString "min")) (Value.str (Str.ofString "min") 37) (Value.builtin "min"), DictEntry.mk (PyData.keyHash P (Str.ofString "next")) (Value.str (Str.ofString "next") 38) (Value.builtin "next"), DictEntry.mk (PyData.keyHash P (Str.ofString "anext")) (Value.str (Str.ofString "anext") 39) (Value.builtin "anext"), DictEntry.mk (PyData.keyHash P (Str.ofString "oct")) (Value.str (Str.ofString "oct") 40) (Value.builtin "oct"), DictEntry.mk (PyData.keyHash P (Str.ofString "ord")) (Value.str (Str.ofString "ord") 41) (Value.builtin "ord"), DictEntry.mk (PyData.keyHash P (Str.ofString "pow")) (Value.str (Str.ofString "pow") 42) (Value.builtin "pow"), DictEntry.mk (PyData.keyHash P (Str.ofString "print")) (Value.str (Str.ofString "print") 43) (Value.builtin "print"), DictEntry.mk (PyData.keyHash P (Str.ofString "repr")) (Value.str (Str.ofString "repr") 44) (Value.builtin "repr"), DictEntry.mk (PyData.keyHash P (Str.ofString "round")) (Value.str (Str.ofString "round") 45) (Value.builtin "round"), DictEntry.mk (PyData.keyHash P (Str.ofString "setattr")) (Value.str (Str.ofString "setattr") 46) (Value.builtin "setattr"), DictEntry.mk (PyData.keyHash P (Str.ofString "sorted")) (Value.str (Str.ofString "sorted") 47) (Value.builtin "sorted"), DictEntry.mk (PyData.keyHash P (Str.ofString "sum")) (Value.str (Str.ofString "sum") 48) (Value.builtin "sum"), DictEntry.mk (PyData.keyHash P (Str.ofString "vars")) (Value.str (Str.ofString "vars") 49) (Value.builtin "vars"), DictEntry.mk (PyData.keyHash P (Str.ofString "None")) (Value.str (Str.ofString "None") 50) Value.none, DictEntry.mk (PyData.keyHash P (Str.ofString "Ellipsis")) (Value.str (Str.ofString "Ellipsis") 51) Value.ellipsis, DictEntry.mk (PyData.keyHash P (Str.ofString "NotImplemented")) (Value.str (Str.ofString "NotImplemented") 52) Value.notImplemented, DictEntry.mk (PyData.keyHash P (Str.ofString "False")) (Value.str (Str.ofString "False") 53) (Value.bool Bool.false), DictEntry.mk (PyData.keyHash P (Str.ofString "True")) (Value.str (Str.ofString "True") 54) (Value.bool Bool.true), DictEntry.mk (PyData.keyHash P (Str.ofString "bool")) (Value.str (Str.ofString "bool") 55) (Value.type "bool"), DictEntry.mk (PyData.keyHash P (Str.ofString "memoryview")) (Value.str (Str.ofString "memoryview") 56) (Value.type "memoryview"), DictEntry.mk (PyData.keyHash P (Str.ofString "bytearray")) (Value.str (Str.ofString "bytearray") 57) (Value.type "bytearray"), DictEntry.mk (PyData.keyHash P (Str.ofString "bytes")) (Value.str (Str.ofString "bytes") 58) (Value.type "bytes"), DictEntry.mk (PyData.keyHash P (Str.ofString "classmethod")) (Value.str (Str.ofString "classmethod") 59) (Value.type "classmethod"), DictEntry.mk (PyData.keyHash P (Str.ofString "complex")) (Value.str (Str.ofString "complex") 60) (Value.type "complex"), DictEntry.mk (PyData.keyHash P (Str.ofString "dict")) (Value.str (Str.ofString "dict") 61) (Value.type "dict"), DictEntry.mk (PyData.keyHash P (Str.ofString "enumerate")) (Value.str (Str.ofString "enumerate") 62) (Value.type "enumerate"), DictEntry.mk (PyData.keyHash P (Str.ofString "filter")) (Value.str (Str.ofString "filter") 63) (Value.type "filter"), DictEntry.mk (PyData.keyHash P (Str.ofString "float")) (Value.str (Str.ofString "float") 64) (Value.type "float"), DictEntry.mk (PyData.keyHash P (Str.ofString "frozenset")) (Value.str (Str.ofString "frozenset") 65) (Value.type "frozenset"), DictEntry.mk (PyData.keyHash P (Str.ofString "property")) (Value.str (Str.ofString "property") 66) (Value.type "property"), DictEntry.mk (PyData.keyHash P (Str.ofString "int")) (Value.str (Str.ofString "int") 67) (Value.type "int"), DictEntry.mk (PyData.keyHash P (Str.ofString "list")) (Value.str (Str.ofString "list") 68) (Value.type "list"), DictEntry.mk (PyData.keyHash P (Str.ofString "map")) (Value.str (Str.ofString "map") 69) (Value.type "map"), DictEntry.mk (PyData.keyHash P (Str.ofString "object")) (Value.str (Str.ofString "object") 70) (Value.type "object"), DictEntry.mk (PyData.keyHash P (Str.ofString "range")) (Value.str (Str.ofString "range") 71) (Value.type "range"), DictEntry.mk (PyData.keyHash P (Str.ofString "reversed")) (Value.str (Str.ofString "reversed") 72) (Value.type "reversed"), DictEntry.mk (PyData.keyHash P (Str.ofString "set")) (Value.str (Str.ofString "set") 73) (Value.type "set"), DictEntry.mk (PyData.keyHash P (Str.ofString "slice")) (Value.str (Str.ofString "slice") 74) (Value.type "slice"), DictEntry.mk (PyData.keyHash P (Str.ofString "staticmethod")) (Value.str (Str.ofString "staticmethod") 75) (Value.type "staticmethod"), DictEntry.mk (PyData.keyHash P (Str.ofString "str")) (Value.str (Str.ofString "str") 76) (Value.type "str"), DictEntry.mk (PyData.keyHash P (Str.ofString "super")) (Value.str (Str.ofString "super") 77) (Value.type "super"), DictEntry.mk (PyData.keyHash P (Str.ofString "tuple")) (Value.str (Str.ofString "tuple") 78) (Value.type "tuple"), DictEntry.mk (PyData.keyHash P (Str.ofString "type")) (Value.str (Str.ofString "type") 79) (Value.type "type"), DictEntry.mk (PyData.keyHash P (Str.ofString "zip")) (Value.str (Str.ofString "zip") 80) (Value.type "zip"), DictEntry.mk (PyData.keyHash P (Str.ofString "__debug__")) (Value.str (Str.ofString "__debug__") 81) (Value.bool Bool.true), DictEntry.mk (PyData.keyHash P (Str.ofString "BaseException")) (Value.str (Str.ofString "BaseException") 82) (Value.type "BaseException"), DictEntry.mk (PyData.keyHash P (Str.ofString "BaseExceptionGroup")) (Value.str (Str.ofString "BaseExceptionGroup") 83) (Value.type "BaseExceptionGroup"), DictEntry.mk (PyData.keyHash P (Str.ofString "Exception")) (Value.str (Str.ofString "Exception") 84) (Value.type "Exception"), DictEntry.mk (PyData.keyHash P (Str.ofString "GeneratorExit")) (Value.str (Str.ofString "GeneratorExit") 85) (Value.type "GeneratorExit"), DictEntry.mk (PyData.keyHash P (Str.ofString "KeyboardInterrupt")) (Value.str (Str.ofString "KeyboardInterrupt") 86) (Value.type "KeyboardInterrupt"), DictEntry.mk (PyData.keyHash P (Str.ofString "SystemExit")) (Value.str (Str.ofString "SystemExit") 87) (Value.type "SystemExit"), DictEntry.mk (PyData.keyHash P (Str.ofString "ArithmeticError")) (Value.str (Str.ofString "ArithmeticError") 88) (Value.type "ArithmeticError"), DictEntry.mk (PyData.keyHash P (Str.ofString "AssertionError")) (Value.str (Str.ofString "AssertionError") 89) (Value.type "AssertionError"), DictEntry.mk (PyData.keyHash P (Str.ofString "AttributeError")) (Value.str (Str.ofString "AttributeError") 90) (Value.type "AttributeError"), DictEntry.mk (PyData.keyHash P (Str.ofString "BufferError")) (Value.str (Str.ofString "BufferError") 91) (Value.type "BufferError"), DictEntry.mk (PyData.keyHash P (Str.ofString "EOFError")) (Value.str (Str.ofString "EOFError") 92) (Value.type "EOFError"), DictEntry.mk (PyData.keyHash P (Str.ofString "ImportError")) (Value.str (Str.ofString "ImportError") 93) (Value.type "ImportError"), DictEntry.mk (PyData.keyHash P (Str.ofString "LookupError")) (Value.str (Str.ofString "LookupError") 94) (Value.type "LookupError"), DictEntry.mk (PyData.keyHash P (Str.ofString "MemoryError")) (Value.str (Str.ofString "MemoryError") 95) (Value.type "MemoryError"), DictEntry.mk (PyData.keyHash P (Str.ofString "NameError")) (Value.str (Str.ofString "NameError") 96) (Value.type "NameError"), DictEntry.mk (PyData.keyHash P (Str.ofString "OSError")) (Value.str (Str.ofString "OSError") 97) (Value.type "OSError"), DictEntry.mk (PyData.keyHash P (Str.ofString "ReferenceError")) (Value.str (Str.ofString "ReferenceError") 98) (Value.type "ReferenceError"), DictEntry.mk (PyData.keyHash P (Str.ofString "RuntimeError")) (Value.str (Str.ofString "RuntimeError") 99) (Value.type "RuntimeError"), DictEntry.mk (PyData.keyHash P (Str.ofString "StopAsyncIteration")) (Value.str (Str.ofString "StopAsyncIteration") 100) (Value.type "StopAsyncIteration"), DictEntry.mk (PyData.keyHash P (Str.ofString "StopIteration")) (Value.str (Str.ofString "StopIteration") 101) (Value.type "StopIteration"), DictEntry.mk (PyData.keyHash P (Str.ofString "SyntaxError")) (Value.str (Str.ofString "SyntaxError") 102) (Value.type "SyntaxError"), DictEntry.mk (PyData.keyHash P (Str.ofString "SystemError")) (Value.str (Str.ofString "SystemError") 103) (Value.type "SystemError"), DictEntry.mk (PyData.keyHash P (Str.ofString "TypeError")) (Value.str (Str.ofString "TypeError") 104) (Value.type "TypeError"), DictEntry.mk (PyData.keyHash P (Str.ofString "ValueError")) (Value.str (Str.ofString "ValueError") 105) (Value.type "ValueError"), DictEntry.mk (PyData.keyHash P (Str.ofString "Warning")) (Value.str (Str.ofString "Warning") 106) (Value.type "Warning"), DictEntry.mk (PyData.keyHash P (Str.ofString "FloatingPointError")) (Value.str (Str.ofString "FloatingPointError") 107) (Value.type "FloatingPointError"), DictEntry.mk (PyData.keyHash P (Str.ofString "OverflowError")) (Value.str (Str.ofString "OverflowError") 108) (Value.type "OverflowError"), DictEntry.mk (PyData.keyHash P (Str.ofString "ZeroDivisionError")) (Value.str (Str.ofString "ZeroDivisionError") 109) (Value.type "ZeroDivisionError"), DictEntry.mk (PyData.keyHash P (Str.ofString "BytesWarning")) (Value.str (Str.ofString "BytesWarning") 110) (Value.type "BytesWarning"), DictEntry.mk (PyData.keyHash P (Str.ofString "DeprecationWarning")) (Value.str (Str.ofString "DeprecationWarning") 111) (Value.type "DeprecationWarning"), DictEntry.mk (PyData.keyHash P (Str.ofString "EncodingWarning")) (Value.str (Str.ofString "EncodingWarning") 112) (Value.type "EncodingWarning"), DictEntry.mk (PyData.keyHash P (Str.ofString "FutureWarning")) (Value.str (Str.ofString "FutureWarning") 113) (Value.type "FutureWarning"), DictEntry.mk (PyData.keyHash P (Str.ofString "ImportWarning")) (Value.str (Str.ofString "ImportWarning") 114) (Value.type "ImportWarning"), DictEntry.mk (PyData.keyHash P (Str.ofString "PendingDeprecationWarning")) (Value.str (Str.ofString "PendingDeprecationWarning") 115) (Value.type "PendingDeprecationWarning"), DictEntry.mk (PyData.keyHash P (Str.ofString "ResourceWarning")) (Value.str (Str.ofString "ResourceWarning") 116) (Value.type "ResourceWarning"), DictEntry.mk (PyData.keyHash P (Str.ofString "RuntimeWarning")) (Value.str (Str.ofString "RuntimeWarning") 117) (Value.type "RuntimeWarning"), DictEntry.mk (PyData.keyHash P (Str.ofString "SyntaxWarning")) (Value.str (Str.ofString "SyntaxWarning") 118) (Value.type "SyntaxWarning"), DictEntry.mk (PyData.keyHash P (Str.ofString "UnicodeWarning")) (Value.str (Str.ofString "UnicodeWarning") 119) (Value.type "UnicodeWarning"), DictEntry.mk (PyData.keyHash P (Str.ofString "UserWarning")) (Value.str (Str.ofString "UserWarning") 120) (Value.type "UserWarning"), DictEntry.mk (PyData.keyHash P (Str.ofString "BlockingIOError")) (Value.str (Str.ofString "BlockingIOError") 121) (Value.type "BlockingIOError"), DictEntry.mk (PyData.keyHash P (Str.ofString "ChildProcessError")) (Value.str (Str.ofString "ChildProcessError") 122) (Value.type "ChildProcessError"), DictEntry.mk (PyData.keyHash P (Str.ofString "ConnectionError")) (Value.str (Str.ofString "ConnectionError") 123) (Value.type "ConnectionError"), DictEntry.mk (PyData.keyHash P (Str.ofString "FileExistsError")) (Value.str (Str.ofString "FileExistsError") 124) (Value.type "FileExistsError"), DictEntry.mk (PyData.keyHash P (Str.ofString "FileNotFoundError")) (Value.str (Str.ofString "FileNotFoundError") 125) (Value.type "FileNotFoundError"), DictEntry.mk (PyData.keyHash P (Str.ofString "InterruptedError")) (Value.str (Str.ofString "InterruptedError") 126) (Value.type "InterruptedError"), DictEntry.mk (PyData.keyHash P (Str.ofString "IsADirectoryError")) (Value.str (Str.ofString "IsADirectoryError") 127) (Value.type "IsADirectoryError"), DictEntry.mk (PyData.keyHash P (Str.ofString "NotADirectoryError")) (Value.str (Str.ofString "NotADirectoryError") 128) (Value.type "NotADirectoryError"), DictEntry.mk (PyData.keyHash P (Str.ofString "PermissionError")) (Value.str (Str.ofString "PermissionError") 129) (Value.type "PermissionError"), DictEntry.mk (PyData.keyHash P (Str.ofString "ProcessLookupError")) (Value.str (Str.ofString "ProcessLookupError") 130) (Value.type "ProcessLookupError"), DictEntry.mk (PyData.keyHash P (Str.ofString "TimeoutError")) (Value.str (Str.ofString "TimeoutError") 131) (Value.type "TimeoutError"), DictEntry.mk (PyData.keyHash P (Str.ofString "IndentationError")) (Value.str (Str.ofString "IndentationError") 132) (Value.type "IndentationError"), DictEntry.mk (PyData.keyHash P (Str.ofString "_IncompleteInputError")) (Value.str (Str.ofString "_IncompleteInputError") 133) (Value.type "_IncompleteInputError"), DictEntry.mk (PyData.keyHash P (Str.ofString "IndexError")) (Value.str (Str.ofString "IndexError") 134) (Value.type "IndexError"), DictEntry.mk (PyData.keyHash P (Str.ofString "KeyError")) (Value.str (Str.ofString "KeyError") 135) (Value.type "KeyError"), DictEntry.mk (PyData.keyHash P (Str.ofString "ModuleNotFoundError")) (Value.str (Str.ofString "ModuleNotFoundError") 136) (Value.type "ModuleNotFoundError"), DictEntry.mk (PyData.keyHash P (Str.ofString "NotImplementedError")) (Value.str (Str.ofString "NotImplementedError") 137) (Value.type "NotImplementedError"), DictEntry.mk (PyData.keyHash P (Str.ofString "PythonFinalizationError")) (Value.str (Str.ofString "PythonFinalizationError") 138) (Value.type "PythonFinalizationError"), DictEntry.mk (PyData.keyHash P (Str.ofString "RecursionError")) (Value.str (Str.ofString "RecursionError") 139) (Value.type "RecursionError"), DictEntry.mk (PyData.keyHash P (Str.ofString "UnboundLocalError")) (Value.str (Str.ofString "UnboundLocalError") 140) (Value.type "UnboundLocalError"), DictEntry.mk (PyData.keyHash P (Str.ofString "UnicodeError")) (Value.str (Str.ofString "UnicodeError") 141) (Value.type "UnicodeError"), DictEntry.mk (PyData.keyHash P (Str.ofString "BrokenPipeError")) (Value.str (Str.ofString "BrokenPipeError") 142) (Value.type "BrokenPipeError"), DictEntry.mk (PyData.keyHash P (Str.ofString "ConnectionAbortedError")) (Value.str (Str.ofString "ConnectionAbortedError") 143) (Value.type "ConnectionAbortedError"), DictEntry.mk (PyData.keyHash P (Str.ofString "ConnectionRefusedError")) (Value.str (Str.ofString "ConnectionRefusedError") 144) (Value.type "ConnectionRefusedError"), DictEntry.mk (PyData.keyHash P (Str.ofString "ConnectionResetError")) (Value.str (Str.ofString "ConnectionResetError") 145) (Value.type "ConnectionResetError"), DictEntry.mk (PyData.keyHash P (Str.ofString "TabError")) (Value.str (Str.ofString "TabError") 146) (Value.type "TabError"), DictEntry.mk (PyData.keyHash P (Str.ofString "UnicodeDecodeError")) (Value.str (Str.ofString "UnicodeDecodeError") 147) (Value.type "UnicodeDecodeError"), DictEntry.mk (PyData.keyHash P (Str.ofString "UnicodeEncodeError")) (Value.str (Str.ofString "UnicodeEncodeError") 148) (Value.type "UnicodeEncodeError"), DictEntry.mk (PyData.keyHash P (Str.ofString "UnicodeTranslateError")) (Value.str (Str.ofString "UnicodeTranslateError") 149) (Value.type "UnicodeTranslateError"), DictEntry.mk (PyData.keyHash P (Str.ofString "ExceptionGroup")) (Value.str (Str.ofString "ExceptionGroup") 150) (Value.type "ExceptionGroup"), DictEntry.mk (PyData.keyHash P (Str.ofString "EnvironmentError")) (Value.str (Str.ofString "EnvironmentError") 151) (Value.type "OSError"), DictEntry.mk (PyData.keyHash P (Str.ofString "IOError")) (Value.str (Str.ofString "IOError") 152) (Value.type "OSError"), DictEntry.mk (PyData.keyHash P (Str.ofString "open")) (Value.str (Str.ofString "open") 153) (Value.builtin "open"), DictEntry.mk (PyData.keyHash P (Str.ofString "quit")) (Value.str (Str.ofString "quit") 154) (Value.builtin "builtins.quit#opaque"), DictEntry.mk (PyData.keyHash P (Str.ofString "exit")) (Value.str (Str.ofString "exit") 155) (Value.builtin "builtins.exit#opaque"), DictEntry.mk (PyData.keyHash P (Str.ofString "copyright")) (Value.str (Str.ofString "copyright") 156) (Value.builtin "builtins.copyright#opaque"), DictEntry.mk (PyData.keyHash P (Str.ofString "credits")) (Value.str (Str.ofString "credits") 157) (Value.builtin "builtins.credits#opaque"), DictEntry.mk (PyData.keyHash P (Str.ofString "license")) (Value.str (Str.ofString "license") 158) (Value.builtin "builtins.license#opaque"), DictEntry.mk (PyData.keyHash P (Str.ofString "help")) (Value.str (Str.ofString "help") 159) (Value.builtin "builtins.help#opaque")] 159) #[]) ::
  (nat_lit 1, Obj.mk (Value.type "dict") Option.none (Data.dict #[DictEntry.mk (PyData.keyHash P (Str.ofString "builtins")) (Value.str (Str.ofString "builtins") 162) (Value.ref 4), DictEntry.mk (PyData.keyHash P (Str.ofString "__main__")) (Value.str (Str.ofString "__main__") 163) (Value.ref 5)] 2) #[]) ::
  (nat_lit 4, Obj.mk (Value.type "module") (Option.some 0) Data.plain #[]) ::
  (nat_lit 5, Obj.mk (Value.type "module") (Option.some 3) Data.plain #[]) ::
  (nat_lit 7, Obj.mk (Value.type "tuple") Option.none (Data.seq #[]) #[]) ::
  (nat_lit 9, Obj.mk (Value.type "code") Option.none (Data.fields #[Value.str (Str.ofString "<module>") 176, Value.str (Str.ofString "<module>") 177, Value.str (Str.ofString "/claim/cut.py") 178, Value.int 1 0, Value.int 0 0, Value.int 0 0, Value.int 0 0, Value.int 0 0, Value.ref 7, Value.bool Bool.false, Value.int 175 0, Value.ref 8, Value.none, Value.none, Value.none, Value.none, Value.int 179 0, Value.int 1 0, Value.str (Str.ofString "/claim/cut.py") 180]) #[]) ::
  (nat_lit 10, Obj.mk (Value.type "frame") Option.none Data.plain #[Option.some (Value.ref 9), Option.some (Value.ref 3), Option.some (Value.ref 3), Option.none, Option.some (Value.str (Str.ofString "__main__") 164), Option.none, Option.some (Value.ref 0)])
 :: []
noncomputable def KX (P : Params) : Frag := (nat_lit 72, tabObj #[]) :: (K1 P ++ K0 P)
section
open PySem.W.X
set_option autoImplicit false
variable {α : Type} {prog : Program} {w : World} {A : Around} {c : Code} {Q : α → Shared → Prop} {E : Value → Shared → Prop} {h₀ h : Heap} {chg news : List (Addr × Obj)} {g : Array GenState} {d : Drawn} {t : Nat} {os : OsState} {s : Shared}
theorem st_again {A' : Around} {R : Result → Shared → Prop} {E : Value → Shared → Prop} {c c' : Code} (hq : c'.quiet = true) (x : wpOwn (model prog w) A' c' (denote table c') (postC prog w A' R) (postE R) s) : wpOwn (model prog w) A' c (Sem.pure (Fin.again c')) (postC prog w A' R) E s := y_pure _ _ _ _ _ _ _ _ _ (y_again _ _ _ _ _ _ hq (y_code _ _ _ _ _ _ x))
theorem st_againE {A' : Around} {R : Result → Shared → Prop} {E : Value → Shared → Prop} {c : Code} {T : Sem Fin} (c' : Code) (hT : T = Sem.pure (Fin.again c')) (hq : c'.quiet = true) (x : wpOwn (model prog w) A' c' (denote table c') (postC prog w A' R) (postE R) s) : wpOwn (model prog w) A' c T (postC prog w A' R) E s := hT ▸ st_again hq x
theorem st_doneR {β : Type} {Q' : β → Shared → Prop} {E' : Value → Shared → Prop} {A₁ : Around} {c₁ : Code} {k : Result → Sem β} {A' : Around} {E : Value → Shared → Prop} {c : Code} {f : Flow} (x : wpOwn (model prog w) A₁ c₁ (k (.ok f)) Q' E' s) : wpOwn (model prog w) A' c (Sem.pure (Fin.done f)) (postC prog w A' (postR prog w A₁ c₁ Q' E' k)) E s := y_pure _ _ _ _ _ _ _ _ _ (y_done _ _ _ _ _ _ x)
theorem st_zoom {β : Type} {m : Sem β} {f : β → Sem α} (x : wpOwn (model prog w) A c m (fun a s' => wpOwn (model prog w) A c (f a) Q E s') E s) : wpOwn (model prog w) A c (Sem.bind m f) Q E s := wpOwn_bind x
theorem st_zoomI {β : Type} {m : Sem β} {f : β → Sem α} (x : wpOwn (model prog w) A c m (fun a s' => wpOwn (model prog w) A c (f a) Q E s') E s) : wpOwn (model prog w) A c (m >>= f) Q E s := wpOwn_bind x
theorem st_keep {l : List Value} {m : Sem α} (x : wpOwn (model prog w) A c m Q E s) : wpOwn (model prog w) A c (Sem.keep l m) Q E s := fun Γ p hc hΓ => by
  rw [Sem.wp_keep]; exact x Γ p hc hΓ
theorem st_ifT {p : Prop} [Decidable p] {T F : Sem α} (h : p) (x : wpOwn (model prog w) A c T Q E s) : wpOwn (model prog w) A c (if p then T else F) Q E s := by rw [if_pos h]; exact x
theorem st_ifF {p : Prop} [Decidable p] {T F : Sem α} (h : ¬ p) (x : wpOwn (model prog w) A c F Q E s) : wpOwn (model prog w) A c (if p then T else F) Q E s := by rw [if_neg h]; exact x
theorem or2 {b₁ b₂ b₃ : Bool} (h : b₂ = true) : (b₁ || b₂ || b₃) = true := by subst h; cases b₁ <;> rfl
theorem filt2 {p : Value → Bool} {u v : Value} (h1 : p u = false) (h2 : p v = true) : List.filter p (u :: [v]) = [v] := by simp [h1, h2]
theorem contHead {v : Value} {l : List Value} {d : DecidableEq Value} : (@List.contains Value (@instBEqOfDecidableEq Value d) (v :: l) v) = true := by
  show (match @decide (v = v) (d v v) with | true => true | false => _) = true
  rw [@decide_eq_true _ (d v v) rfl]
theorem dropSelf {p : Value → Bool} {v : Value} {l : List Value} (h : p v = false) : List.drop 1 (List.dropWhile p (v :: l)) = l := by simp [h]
theorem st_doneF {A' : Around} {R : Result → Shared → Prop} {E : Value → Shared → Prop} {c : Code} {f : Flow} (x : R (.ok f) s) : wpOwn (model prog w) A' c (Sem.pure (Fin.done f)) (postC prog w A' R) E s := y_pure _ _ _ _ _ _ _ _ _ (y_done _ _ _ _ _ _ x)
theorem memIdx {p : Addr × Obj} (D : Mem h₀ h chg news) (i : Nat) (e : news[i]? = some p) : p ∈ news := List.mem_of_getElem? e
theorem st_doneA {β : Type} {Q' : β → Shared → Prop} {E' : Value → Shared → Prop} {A₁ : Around} {k : Result → Sem β} {A' : Around} {E : Value → Shared → Prop} {c : Code} {f : Flow} {v : β} (hk : k (.ok f) = .pure v) (x : Q' v s) : wpOwn (model prog w) A' c (Sem.pure (Fin.done f)) (postC prog w A' (postA prog w A₁ Q' E' k)) E s := y_pure _ _ _ _ _ _ _ _ _ (y_done _ _ _ _ _ _ (y_endOk _ _ _ _ _ _ _ _ _ _ hk x))
theorem st_onRaise {m : Sem α} {k : Value → Sem Unit} (x : wpOwn (model prog w) A c m Q (fun e s' => wpOwn (model prog w) A c (k e) (fun _ s'' => E e s'') E s') s) : wpOwn (model prog w) A c (Sem.onRaise m k) Q E s := fun Γ p hc hΓ => by
  rw [Sem.wp_onRaise]
  exact Sem.wp_mono _ Γ m (fun _ _ _ h' => h') (fun e p' s' h' => h' Γ p' hc hΓ) p s (x Γ p hc hΓ)
theorem nolim {h : Heap} {o : Obj} (e : h.get? cStatics = some o) (hd : o.data = .dict #[] 0) : h.NoLimit := ⟨fun n => nsFind #[] n, ⟨o, #[], 0, e, hd, (by intro x hx; simp at hx), fun _ => rfl⟩, by decide⟩
end
section
open PySem.W.X
/-- the state behind a ledger: grown tables, objects made (the newest first), the next address, the next token -/
structure LS where
  chg : List (Addr × Obj)
  news : List (Addr × Obj)
  nxt : Nat
  tk : Nat
structure MemX (h₀ : Heap) (h : Heap) (st : LS) : Prop where
  mem : Mem h₀ h st.chg st.news
  size : h.objs.size = st.nxt
/-- where the object that is asked for is to be found -/
inductive Ans where
  | lit
  | fact (i : Nat)
  | new (i : Nat)
  | chg (i : Nat)
noncomputable abbrev Ob := List (Nat × Nat)
structure RS (α : Type) where
  t : Sem α
  st : LS
  ob : Ob
  as : List Ans
/-- the object asked for, by its hint -/
noncomputable def seekA (K F chg news : List (Addr × Obj)) (a : Addr) : Ans → Option (Addr × Obj)
  | .lit => (List.lookup a K).bind fun o => cond (hasCls o || away chg a) (some (a, o)) none
  | .fact i => F[i]?.bind fun p => cond (hasCls p.2 || away chg a) (some p) none
  | .new i => news[i]?
  | .chg i => chg[i]?
/-- one step of a statement's run over a ledger -/
noncomputable def stepS {α : Type} (S : Setting) (K F : List (Addr × Obj)) (hd : Option Value) (as : List Ans) (t : Sem α) (chg news : List (Addr × Obj)) (nx tk : Nat) (ob : Ob) (stop : RS α) (go : List Ans → Sem α → List (Addr × Obj) → List (Addr × Obj) → Nat → Nat → Ob → RS α) : RS α := match t with
  | .rule _ k => go as (k ()) chg news nx tk ob
  | .at _ k => go as (k ()) chg news nx tk ob
  | .point _ k => go as (k ()) chg news nx tk ob
  | .ask k => go as (k S) chg news nx tk ob
  | .fresh k => go as (k tk) chg news nx (tk + 1) ob
  | .alloc o k => cond o.isFreed stop (go as (k nx) chg ((nx, o) :: news) (nx + 1) tk ob)
  | .load a _ k => match as with
    | z :: r => match seekA K F chg news a z with
      | some (b, o) => go r (k o) chg news nx tk ((a, b) :: ob)
      | none => stop
    | [] => stop
  | .update a _ f k => match as with
    | .new i :: r => match news[i]? with
      | some (b, o) => cond (f o).isFreed stop (go r (k ()) chg (news.set i (b, f o)) nx tk ((a, b) :: ob))
      | none => stop
    | _ => stop
  | .handled own k => cond own stop (go as (k hd) chg news nx tk ob)
  | _ => stop
noncomputable def runS {α : Type} (S : Setting) (K F : List (Addr × Obj)) (hd : Option Value) : Nat → List Ans → Sem α → List (Addr × Obj) → List (Addr × Obj) → Nat → Nat → Ob → RS α
  | 0, as, t, chg, news, nx, tk, ob => ⟨t, ⟨chg, news, nx, tk⟩, ob, as⟩
  | n + 1, as, t, chg, news, nx, tk, ob => stepS S K F hd as t chg news nx tk ob ⟨t, ⟨chg, news, nx, tk⟩, ob, as⟩ (runS S K F hd n)
variable {α : Type} {prog : Program} {w : World} {h₀ : Heap} {g : Array GenState} {d : Drawn} {os : OsState}
noncomputable def GWS (prog : Program) (w : World) (h₀ : Heap) (g : Array GenState) (d : Drawn) (os : OsState) (A : Around) (c : Code) (t : Sem α) (Q : α → Shared → Prop) (E : Value → Shared → Prop) (st : LS) : Prop :=
  ∀ h, MemX h₀ h st → wpOwn (model prog w) A c t Q E ⟨h, g, d, st.tk, os⟩
theorem GWS.load {A : Around} {c : Code} {a : Addr} {q : Option Value} {o : Obj} {k : Obj → Sem α} {Q : α → Shared → Prop} {E : Value → Shared → Prop} {st : LS} (ho : ∀ h, MemX h₀ h st → h.get? a = some o) (x : GWS prog w h₀ g d os A c (k o) Q E st) :
    GWS prog w h₀ g d os A c (.load a q k) Q E st := fun h D => y_load _ _ _ _ _ _ _ _ _ _ _ _ _ _ _ _ (ho h D) (x h D)
theorem GWS.fresh {A : Around} {c : Code} {k : Tok → Sem α} {Q : α → Shared → Prop} {E : Value → Shared → Prop} {st : LS} (x : GWS prog w h₀ g d os A c (k st.tk) Q E { st with tk := st.tk + 1 }) :
    GWS prog w h₀ g d os A c (.fresh k) Q E st := fun h D => y_fresh _ _ _ _ _ _ _ _ _ _ _ _ _ (x h ⟨D.mem, D.size⟩)
theorem GWS.alloc {A : Around} {c : Code} {o : Obj} {k : Addr → Sem α} {Q : α → Shared → Prop} {E : Value → Shared → Prop} {st : LS} (hf : o.isFreed = false) (x : GWS prog w h₀ g d os A c (k st.nxt) Q E { st with news := (st.nxt, o) :: st.news, nxt := st.nxt + 1 }) :
    GWS prog w h₀ g d os A c (.alloc o k) Q E st := fun h D => by
  refine wpOwn_bind (m := PySem.alloc o) (f := k) (wpOwn_of_wpAny (wpAny_alloc ?_))
  have e := D.size
  have D' : MemX h₀ (h.push o) { st with news := (st.nxt, o) :: st.news, nxt := st.nxt + 1 } := ⟨by rw [← e]; exact D.mem.alloc hf, by rw [← e]; exact Heap.size_push h o⟩
  have z := x _ D'
  rw [← e] at z
  exact z
theorem GWS.update {A : Around} {c : Code} {a : Addr} {q : Option Value} {f : Obj → Obj} {o : Obj} {i : Nat} {k : Unit → Sem α} {Q : α → Shared → Prop} {E : Value → Shared → Prop} {st : LS} (hi : st.news[i]? = some (a, o)) (hf : (f o).isFreed = false)
    (x : GWS prog w h₀ g d os A c (k ()) Q E { st with news := st.news.set i (a, f o) }) : GWS prog w h₀ g d os A c (.update a q f k) Q E st := fun h D =>
  wpOwn_bind (m := updatePart a q f) (f := k) (wpOwn_of_wpAny (wpAny_updatePart (D.mem.at i a o hi) (x _ ⟨D.mem.update hi hf, by rw [← D.size]; exact Heap.size_update h a f⟩)))
theorem GWS.skip {A : Around} {c : Code} {t t' : Sem α} {Q : α → Shared → Prop} {E : Value → Shared → Prop} {st : LS} (hs : ∀ s Q E, wpOwn (model prog w) A c t' Q E s → wpOwn (model prog w) A c t Q E s) (x : GWS prog w h₀ g d os A c t' Q E st) : GWS prog w h₀ g d os A c t Q E st :=
  fun h D => hs _ _ _ (x h D)
theorem seekA_sound {K F : List (Addr × Obj)} (hK : ∀ a o, List.lookup a K = some o → h₀.get? a = some o) (hF : ∀ p ∈ F, h₀.get? p.1 = some p.2) {st : LS} {a : Addr} {z : Ans} {p : Addr × Obj} (e : seekA K F st.chg st.news a z = some p) (ha : a = p.1) {h : Heap} (D : MemX h₀ h st) : h.get? a = some p.2 := by
  cases z with
  | lit =>
    obtain ⟨o, hl, e⟩ := Option.bind_eq_some_iff.mp e
    cases hb : hasCls o || away st.chg a <;> rw [hb] at e <;> cases e
    exact D.mem.old a o (hK a o hl) hb
  | fact i =>
    obtain ⟨q, hl, e⟩ := Option.bind_eq_some_iff.mp e
    cases hb : hasCls q.2 || away st.chg a <;> rw [hb] at e <;> cases e
    exact D.mem.old a _ (by rw [ha]; exact hF _ (List.mem_of_getElem? hl)) hb
  | new i => rw [ha]; exact D.mem.at i p.1 p.2 e
  | chg i => rw [ha]; exact D.mem.atC i p.1 p.2 e
/-- what holds where the run stops and where it goes on, holds of the step -/
theorem stepS_sound {K F : List (Addr × Obj)} (hK : ∀ a o, List.lookup a K = some o → h₀.get? a = some o) (hF : ∀ p ∈ F, h₀.get? p.1 = some p.2) {A : Around} {c : Code} {Q : α → Shared → Prop} {E : Value → Shared → Prop}
    {as : List Ans} {t : Sem α} {chg news : List (Addr × Obj)} {nx tk : Nat} {ob : Ob} {stop : RS α} {go : List Ans → Sem α → List (Addr × Obj) → List (Addr × Obj) → Nat → Nat → Ob → RS α} {P : RS α → Prop} (hs : P stop)
    (hg : ∀ as' t' chg' news' nx' tk' ob', ((∀ p ∈ ob', p.1 = p.2) → GWS prog w h₀ g d os A c t' Q E ⟨chg', news', nx', tk'⟩ → (∀ p ∈ ob, p.1 = p.2) ∧ GWS prog w h₀ g d os A c t Q E ⟨chg, news, nx, tk⟩) → P (go as' t' chg' news' nx' tk' ob')) :
    P (stepS ⟨prog, w.params⟩ K F A.handled as t chg news nx tk ob stop go) := by
  have tl : ∀ {p : Nat × Nat} {z : Ob}, (∀ q ∈ p :: z, q.1 = q.2) → p.1 = p.2 ∧ ∀ q ∈ z, q.1 = q.2 := fun hz => ⟨hz _ (.head _), fun q hq => hz q (.tail _ hq)⟩
  cases t
  case rule tag k => exact hg _ _ _ _ _ _ _ fun ho hx => ⟨ho, GWS.skip (fun s Q E y Γ p hc hΓ => y Γ p hc hΓ) hx⟩
  case «at» q k => exact hg _ _ _ _ _ _ _ fun ho hx => ⟨ho, GWS.skip (fun s Q E y Γ p hc hΓ => y Γ q hc hΓ) hx⟩
  case point l k => exact hg _ _ _ _ _ _ _ fun ho hx => ⟨ho, GWS.skip (fun s Q E y Γ p hc hΓ => y Γ p hc hΓ) hx⟩
  case ask k => exact hg _ _ _ _ _ _ _ fun ho hx => ⟨ho, GWS.skip (fun s Q E y Γ p hc hΓ => y Γ p hc hΓ) hx⟩
  case fresh k => exact hg _ _ _ _ _ _ _ fun ho hx => ⟨ho, GWS.fresh hx⟩
  case alloc o k =>
    change P (cond o.isFreed stop _)
    cases hf : o.isFreed
    · exact hg _ _ _ _ _ _ _ fun ho hx => ⟨ho, GWS.alloc hf hx⟩
    · exact hs
  case load a q k =>
    cases as with
    | nil => exact hs
    | cons z r =>
      dsimp only [stepS]
      cases hp : seekA K F chg news a z with
      | none => exact hs
      | some p => exact hg _ _ _ _ _ _ _ fun ho hx => ⟨(tl ho).2, GWS.load (fun h D => seekA_sound (st := ⟨chg, news, nx, tk⟩) hK hF hp (tl ho).1 D) hx⟩
  case update a q f k =>
    cases as with
    | nil => exact hs
    | cons z r =>
      cases z with
      | new i =>
        dsimp only [stepS]
        cases hp : news[i]? with
        | none => exact hs
        | some p =>
          change P (cond (f p.2).isFreed stop _)
          cases hf : (f p.2).isFreed
          · refine hg _ _ _ _ _ _ _ fun ho hx => ?_
            have e' : a = p.1 := (tl ho).1
            subst e'
            exact ⟨(tl ho).2, GWS.update hp hf hx⟩
          · exact hs
      | _ => exact hs
  case handled own k =>
    cases own with
    | true => exact hs
    | false => exact hg _ _ _ _ _ _ _ fun ho hx => ⟨ho, GWS.skip (fun s Q E y => y_handled _ _ _ _ _ _ _ _ _ y) hx⟩
  all_goals exact hs
theorem runS_sound {K F : List (Addr × Obj)} (hK : ∀ a o, List.lookup a K = some o → h₀.get? a = some o) (hF : ∀ p ∈ F, h₀.get? p.1 = some p.2) {A : Around} {c : Code} {Q : α → Shared → Prop} {E : Value → Shared → Prop} :
    ∀ (n : Nat) (as : List Ans) (t : Sem α) (chg news : List (Addr × Obj)) (nx tk : Nat) (ob : Ob), (∀ p ∈ (runS ⟨prog, w.params⟩ K F A.handled n as t chg news nx tk ob).ob, p.1 = p.2) → GWS prog w h₀ g d os A c (runS ⟨prog, w.params⟩ K F A.handled n as t chg news nx tk ob).t Q E (runS ⟨prog, w.params⟩ K F A.handled n as t chg news nx tk ob).st → (∀ p ∈ ob, p.1 = p.2) ∧ GWS prog w h₀ g d os A c t Q E ⟨chg, news, nx, tk⟩ := by
  intro n
  induction n with
  | zero => intro as t chg news nx tk ob ho hx; exact ⟨ho, hx⟩
  | succ n ih =>
    intro as t chg news nx tk ob
    exact stepS_sound hK hF (P := fun x => (∀ p ∈ x.ob, p.1 = p.2) → GWS prog w h₀ g d os A c x.t Q E x.st → (∀ p ∈ ob, p.1 = p.2) ∧ GWS prog w h₀ g d os A c t Q E ⟨chg, news, nx, tk⟩) (fun ho hx => ⟨ho, hx⟩)
      fun as' t' chg' news' nx' tk' ob' f ho hx => f (ih _ _ _ _ _ _ _ ho hx).1 (ih _ _ _ _ _ _ _ ho hx).2
end
section
open PySem.W.X
variable {α : Type} {prog : Program} {w : World} {h₀ h : Heap} {g : Array GenState} {d : Drawn} {os : OsState} {A : Around} {c : Code} {chg news : List (Addr × Obj)} {nx tk : Nat} {Q : α → Shared → Prop} {E : Value → Shared → Prop}
noncomputable def lawS (w : World) : Setting := ⟨PySem.Challenge.rw_in0014_01.row.prog, w.params⟩
noncomputable def RUN (w : World) (K F : List (Addr × Obj)) (hd : Option Value) (n : Nat) (as : List Ans) (m : Sem α) (st : LS) : RS α := match st with
  | ⟨chg, news, nx, tk⟩ => runS (lawS w) K F hd n as m chg news nx tk []
theorem den_tree : denote treeTable = denote table := congrArg denote table_eq_tree.symm
/-- a stretch of a statement's run; X is the stretch by its name -/
theorem own_run {m : Sem α} {st : LS} (X : RS α) (K F : List (Addr × Obj)) (hK : ∀ a o, List.lookup a K = some o → h₀.get? a = some o) (hF : ∀ p ∈ F, h₀.get? p.1 = some p.2) (n : Nat) (as : List Ans) (hX : RUN w K F A.handled n as m st = X) (D : MemX h₀ h st)
  (ho : X.ob.map Prod.fst = X.ob.map Prod.snd) (y : ∀ h', MemX h₀ h' X.st → wpOwn (model PySem.Challenge.rw_in0014_01.row.prog w) A c X.t Q E ⟨h', g, d, X.st.tk, os⟩) :
  wpOwn (model PySem.Challenge.rw_in0014_01.row.prog w) A c m Q E ⟨h, g, d, st.tk, os⟩ := by
  subst hX
  obtain ⟨chg, news, nx, tk⟩ := st
  have hob : ∀ p ∈ (RUN w K F A.handled n as m ⟨chg, news, nx, tk⟩).ob, p.1 = p.2 := fun p hp => by
    obtain ⟨i, hi, rfl⟩ := List.getElem_of_mem hp
    have := congrArg (fun l : List Nat => l[i]?) ho
    simpa [hi] using this
  exact (runS_sound (prog := PySem.Challenge.rw_in0014_01.row.prog) (w := w) (g := g) (d := d) (os := os) hK hF (A := A) (c := c) n as m chg news nx tk [] hob fun h' D' => y h' D').2 h D
/-- the ledger in another writing -/
theorem own_led {m : Sem α} {st : LS} (st' : LS) (e : st = st') (D : MemX h₀ h st) (x : MemX h₀ h st' → wpOwn (model PySem.Challenge.rw_in0014_01.row.prog w) A c m Q E ⟨h, g, d, st'.tk, os⟩) : wpOwn (model PySem.Challenge.rw_in0014_01.row.prog w) A c m Q E ⟨h, g, d, st.tk, os⟩ := by
  subst e; exact x D
end
section
open PySem.W.X
variable {α : Type} {w : World} {A : Around} {c : Code} {Q : α → Shared → Prop} {E : Value → Shared → Prop} {s : Shared}
noncomputable def gdK : Sem α → Bool
  | .call _ _ g _ _ => g
  | _ => false
noncomputable def lvK : Sem α → List Value
  | .call _ _ _ l _ => l
  | _ => []
noncomputable def callK : Sem α → Result → Sem α
  | .call _ _ _ _ k => k
  | t => fun _ => t
theorem own_call {T : Sem α} (c' : Code) (hT : T = .call c' none (gdK T) (lvK T) (callK T)) (x : codeAny (model PySem.Challenge.rw_in0014_01.row.prog w) ((A.under c).mark none) c' (postR PySem.Challenge.rw_in0014_01.row.prog w A c Q E (callK T)) s) : wpOwn (model PySem.Challenge.rw_in0014_01.row.prog w) A c T Q E s := by
  rw [hT]
  exact y_call _ _ _ _ _ _ _ _ _ _ _ _ _ (by intro z; cases z) x
noncomputable def dataAt (l : List (Addr × Obj)) (i : Nat) : Data := match l[i]? with
  | some (_, o) => o.data
  | none => .plain
end
section
open PySem.W.X
end
section
open PySem.W.X
variable {α : Type} {w : World} {A : Around} {c : Code} {Q : α → Shared → Prop} {E : Value → Shared → Prop} {s : Shared}
theorem own_pure {T : Sem α} (v : α) (hT : T = .pure v) (x : Q v s) : wpOwn (model PySem.Challenge.rw_in0014_01.row.prog w) A c T Q E s := by
  rw [hT]; exact y_pure _ _ _ _ _ _ _ _ _ x
end
section
open PySem.W.X
variable {α : Type} {w : World} {A : Around} {c : Code} {Q : α → Shared → Prop} {E : Value → Shared → Prop} {s : Shared}
theorem own_ret {k : Result → Sem α} {r : Result} (x : wpOwn (model PySem.Challenge.rw_in0014_01.row.prog w) A c (k r) Q E s) : postR PySem.Challenge.rw_in0014_01.row.prog w A c Q E k r s := x
end
section
open PySem.W.X
theorem memCastC {h₀ h : Heap} {chg chg' L : List (Addr × Obj)} (D : Mem h₀ h chg L) (e : chg = chg') : Mem h₀ h chg' L := e ▸ D
theorem own_eq {α : Type} {w : World} {A : Around} {c : Code} {Q : α → Shared → Prop} {E : Value → Shared → Prop} {s : Shared} {T : Sem α} (T' : Sem α) (hT : T = T') (x : wpOwn (model PySem.Challenge.rw_in0014_01.row.prog w) A c T' Q E s) : wpOwn (model PySem.Challenge.rw_in0014_01.row.prog w) A c T Q E s := hT ▸ x
end
section
open PySem.W.X
variable {α : Type} {w : World} {A A' : Around} {c : Code} {Q : α → Shared → Prop} {R : Result → Shared → Prop} {E : Value → Shared → Prop} {s : Shared}
theorem own_again {T : Sem PySem.Fin} (c' : Code) (hT : T = Sem.pure (PySem.Fin.again c')) (hq : c'.quiet = true) (x : wpOwn (model PySem.Challenge.rw_in0014_01.row.prog w) A' c' (denote table c') (postC PySem.Challenge.rw_in0014_01.row.prog w A' R) (postE R) s) :
    wpOwn (model PySem.Challenge.rw_in0014_01.row.prog w) A' c T (postC PySem.Challenge.rw_in0014_01.row.prog w A' R) E s := st_againE c' hT hq x
theorem den_tc {args : Args} : denote table (.builtin "type.__call__" args) = Builtin.«type.__call__» args := by rw [← den_tree]; kernel_rfl
noncomputable def stackK {α : Type} : Sem α → List (Code × Pos) → Sem α
  | .stack k => k
  | t => fun _ => t
theorem own_enter {T : Sem α} (f : Unit → Sem α) (hT : T = Sem.bind enterFrame f) (hl : s.heap.NoLimit) (hd : (A.under c).depth < recursionLimit) (x : wpOwn (model PySem.Challenge.rw_in0014_01.row.prog w) A c (f ()) Q E s) : wpOwn (model PySem.Challenge.rw_in0014_01.row.prog w) A c T Q E s := by
  rw [hT]
  exact wpOwn_bind (wpOwn_of_wpAny (wpAny_enterFrame hl hd x))
end
section
open PySem.W.X
theorem own_den {w : World} {A : Around} {c c' : Code} {Q : PySem.Fin → Shared → Prop} {E : Value → Shared → Prop} {s : Shared} (x : wpOwn (model PySem.Challenge.rw_in0014_01.row.prog w) A c (denote treeTable c') Q E s) : wpOwn (model PySem.Challenge.rw_in0014_01.row.prog w) A c (denote table c') Q E s := by
  rw [← den_tree]; exact x
end
section
open PySem.W.X
variable {α : Type} {w : World} {A : Around} {c : Code} {Q : α → Shared → Prop} {E : Value → Shared → Prop} {s : Shared}
/-- the tree behind a frame's entry, told by the tree that asks for the stack -/
noncomputable def behindE (w : World) (K : List (Addr × Obj)) (T : Sem α) : Unit → Sem α := fun _ => (RUN w K [] none 1 [.lit] (stackK T []) ⟨[], [], 0, 0⟩).t
theorem own_enterT {T : Sem α} (K : List (Addr × Obj)) (hT : T = Sem.bind enterFrame (behindE w K T)) (hl : s.heap.NoLimit) (hd : (A.under c).depth < recursionLimit) (x : wpOwn (model PySem.Challenge.rw_in0014_01.row.prog w) A c (behindE w K T ()) Q E s) : wpOwn (model PySem.Challenge.rw_in0014_01.row.prog w) A c T Q E s := own_enter _ hT hl hd x
end
section
open PySem.W.X
variable {α : Type} {w : World} {A A' : Around} {c : Code} {Q : α → Shared → Prop} {R : Result → Shared → Prop} {E : Value → Shared → Prop} {s : Shared}
noncomputable def callC : Sem α → Code
  | .call c _ _ _ _ => c
  | _ => .builtin "" {}
noncomputable def againC : Sem PySem.Fin → Code
  | .pure (.again c) => c
  | _ => .builtin "" {}
theorem own_callP {T : Sem α} (hT : T = .call (callC T) none (gdK T) (lvK T) (callK T)) (x : wpOwn (model PySem.Challenge.rw_in0014_01.row.prog w) ((A.under c).mark none) (callC T) (denote treeTable (callC T)) (postC PySem.Challenge.rw_in0014_01.row.prog w ((A.under c).mark none) (postR PySem.Challenge.rw_in0014_01.row.prog w A c Q E (callK T))) (postE (postR PySem.Challenge.rw_in0014_01.row.prog w A c Q E (callK T))) s) : wpOwn (model PySem.Challenge.rw_in0014_01.row.prog w) A c T Q E s := by
  rw [den_tree] at x
  exact own_call (callC T) hT (y_code _ _ _ _ _ _ x)
theorem own_againP {T : Sem PySem.Fin} (hT : T = Sem.pure (PySem.Fin.again (againC T))) (hq : (againC T).quiet = true) (x : wpOwn (model PySem.Challenge.rw_in0014_01.row.prog w) A' (againC T) (denote treeTable (againC T)) (postC PySem.Challenge.rw_in0014_01.row.prog w A' R) (postE R) s) :
    wpOwn (model PySem.Challenge.rw_in0014_01.row.prog w) A' c T (postC PySem.Challenge.rw_in0014_01.row.prog w A' R) E s := by
  rw [den_tree] at x
  exact own_again _ hT hq x
end
theorem den_ms {args : Args} : denote table (.builtin "member_descriptor.__set__" args) = Builtin.«member_descriptor.__set__» args := by rw [← den_tree]; kernel_rfl
noncomputable def objAt (l : List (Addr × Obj)) (i : Nat) : Obj := match l[i]? with
  | some (_, o) => o
  | none => { cls := .none, data := .plain }
section
open PySem.W.X
theorem memObj {h₀ h : Heap} {chg L : List (Addr × Obj)} (D : Mem h₀ h chg L) (a : Addr) (i : Nat) (e : L[i]? = some (a, objAt L i)) : (a, objAt L i) ∈ L := List.mem_of_getElem? e
end
theorem neSelfV {v : Value} : (v != v) = false := by simp
theorem beqSelfV {v : Value} : (v == v) = true := by simp
section
open PySem.W.X
noncomputable def pureO {α : Type} : Sem α → Option α
  | .pure v => some v
  | _ => none
theorem own_pureP {α : Type} {w : World} {A : Around} {c : Code} {Q : α → Shared → Prop} {E : Value → Shared → Prop} {s : Shared} {T : Sem α} (hs : (pureO T).isSome = true) (hT : T = .pure ((pureO T).get hs)) (x : Q ((pureO T).get hs) s) : wpOwn (model PySem.Challenge.rw_in0014_01.row.prog w) A c T Q E s := own_pure _ hT x
theorem own_callE {α : Type} {w : World} {A : Around} {c : Code} {Q : α → Shared → Prop} {E : Value → Shared → Prop} {s : Shared} {T : Sem α} (c₁ c₂ : Code) (e : c₁ = c₂) (hT : T = .call c₁ none (gdK T) (lvK T) (callK T)) (x : codeAny (model PySem.Challenge.rw_in0014_01.row.prog w) ((A.under c).mark none) c₂ (postR PySem.Challenge.rw_in0014_01.row.prog w A c Q E (callK T)) s) : wpOwn (model PySem.Challenge.rw_in0014_01.row.prog w) A c T Q E s := own_call c₁ hT (e ▸ x)
theorem mem_comp {hp h0 h1 : Heap} {chg N0 L : List (Addr × Obj)} (D : Mem hp h0 chg N0) (D1 : Mem h0 h1 [] L) (hL : ∀ p ∈ L, h0.objs.size ≤ p.1) : Mem hp h1 chg (L ++ N0) where
  keep := fun b o hb ha => D1.keep b o (D.keep b o hb ha) (by simp [away])
  ch := fun p hp' => ⟨D1.keep _ _ (D.ch p hp').1 (by simp [away]), (D.ch p hp').2⟩
  cd := D.cd
  nw := fun p hp' => by
    rcases List.mem_append.mp hp' with h | h
    · refine ⟨(D1.nw p h).1, ?_⟩
      cases e : hp.get? p.1 with
      | none => rfl
      | some o =>
        exfalso
        have z : ∃ o', h0.get? p.1 = some o' := by
          cases ha : hasCls o || away chg p.1 with
          | true => exact ⟨o, D.keep _ _ e ha⟩
          | false =>
            have hw : away chg p.1 = false := (Bool.or_eq_false_iff.mp ha).2
            obtain ⟨q, hq, hz⟩ := List.all_eq_false.mp hw
            have hz' : q.1 = p.1 := by simpa using hz
            exact ⟨q.2, by rw [← hz']; exact (D.ch q hq).1⟩
        obtain ⟨o', z⟩ := z
        rw [(D1.nw p h).2] at z; cases z
    · exact ⟨D1.keep _ _ (D.nw p h).1 (by simp [away]), (D.nw p h).2⟩
  ord := by
    rw [List.map_append]
    refine List.pairwise_append.mpr ⟨D1.ord, D.ord, ?_⟩
    intro a ha b hb
    obtain ⟨p, hp1, rfl⟩ := List.mem_map.mp ha
    obtain ⟨q, hq1, rfl⟩ := List.mem_map.mp hb
    exact Nat.lt_of_lt_of_le (Heap.lt_size (D.nw q hq1).1) (hL p hp1)
end
section
open PySem.W.X
variable {α : Type} {prog : Program} {w : World} {A : Around} {c : Code} {Q : α → Shared → Prop} {E : Value → Shared → Prop} {h₀ h : Heap} {chg news : List (Addr × Obj)} {g : Array GenState} {d : Drawn} {t : Nat} {os : OsState}
theorem st_growS {a : Addr} {q : Option Value} {f : Obj → Obj} {k : Unit → Sem α} {c₀ : Addr} {ps more : Array Value} {m : Nat} (S : h.objs.size = m) (D : Mem h₀ h chg news) (ht : h₀.TableAt c₀ a ps) (hw : away chg a = true) (hn : f (tableObj ps) = tableObj (ps ++ more))
  (x : ∀ h', Mem h₀ h' ((a, tableObj (ps ++ more)) :: chg) news → h'.objs.size = m → wpOwn (model prog w) A c (k ()) Q E ⟨h', g, d, t, os⟩) : wpOwn (model prog w) A c (.update a q f k) Q E ⟨h, g, d, t, os⟩ := by
  subst S
  exact wpOwn_bind (m := updatePart a q f) (f := k) (wpOwn_of_wpAny (wpAny_updatePart (D.keep a _ ht.2 (by rw [hw, Bool.or_true])) (x _ (D.grow ht hw hn) (Heap.size_update h a f))))
end
section
open PySem.W.X
variable {α : Type} {prog : Program} {w : World} {A : Around} {c : Code} {Q : α → Shared → Prop} {E : Value → Shared → Prop} {h₀ h : Heap} {chg news : List (Addr × Obj)} {g : Array GenState} {d : Drawn} {t : Nat} {os : OsState}
noncomputable def updQ : Sem α → Option Value
  | .update _ q _ _ => q
  | _ => none
noncomputable def updF : Sem α → Obj → Obj
  | .update _ _ f _ => f
  | _ => id
noncomputable def updK : Sem α → Unit → Sem α
  | .update _ _ _ k => k
  | t => fun _ => t
theorem own_growX {T : Sem α} {a c₀ : Addr} {ps : Array Value} {st : LS} (more : Array Value) (D : MemX h₀ h st) (ht : h₀.TableAt c₀ a ps) (hT : T = .update a (updQ T) (updF T) (updK T)) (hw : away st.chg a = true) (hn : updF T (tableObj ps) = tableObj (ps ++ more))
  (x : ∀ h', MemX h₀ h' ⟨(a, tableObj (ps ++ more)) :: st.chg, st.news, st.nxt, st.tk⟩ → wpOwn (model PySem.Challenge.rw_in0014_01.row.prog w) A c (updK T ()) Q E ⟨h', g, d, st.tk, os⟩) : wpOwn (model PySem.Challenge.rw_in0014_01.row.prog w) A c T Q E ⟨h, g, d, st.tk, os⟩ := by
  rw [hT]
  exact st_growS D.size D.mem ht hw hn fun h' D' S' => x h' ⟨D', S'⟩
end
theorem facts_of {h : Heap} {L F G : List (Addr × Obj)} (hL : ∀ p ∈ L, h.get? p.1 = some p.2) (ix : List Nat) (e : F.map some = ix.map (fun i => L[i]?) ++ G.map some) (hG : ∀ p ∈ G, h.get? p.1 = some p.2) : ∀ p ∈ F, h.get? p.1 = some p.2 := fun p hp => by
  have h1 : some p ∈ F.map some := List.mem_map_of_mem hp
  rw [e] at h1
  rcases List.mem_append.mp h1 with h2 | h2
  · obtain ⟨i, _, hi⟩ := List.mem_map.mp h2
    exact hL p (List.mem_of_getElem? hi)
  · obtain ⟨q, hq, hz⟩ := List.mem_map.mp h2
    cases hz; exact hG p hq
noncomputable def factsT (w : World) (M : Nat) (a : Nat → Nat) (vm : Str) (lf : Int) (n nl : Nat) (dd : Nat → Data) (k : Nat → Tok) : List (Addr × Obj) := [(a 0, (⟨.type "tuple", none, .seq #[.type "object"] 0, #[]⟩ : Obj)), ((M + 111 + 4), (⟨.type "dict", none, .dict #[⟨PyData.keyHash w.params ⟨#[95,95,109,111,100,117,108,101,95,95]⟩, .str ⟨#[95,95,109,111,100,117,108,101,95,95]⟩ (k 0), .str vm (k 12)⟩, ⟨PyData.keyHash w.params ⟨#[95,95,113,117,97,108,110,97,109,101,95,95]⟩, .str ⟨#[95,95,113,117,97,108,110,97,109,101,95,95]⟩ (k 1), .str ⟨#[99,109,112,95,116,111,95,107,101,121,46,60,108,111,99,97,108,115,62,46,75]⟩ (k 13)⟩, ⟨PyData.keyHash w.params ⟨#[95,95,102,105,114,115,116,108,105,110,101,110,111,95,95]⟩, .str ⟨#[95,95,102,105,114,115,116,108,105,110,101,110,111,95,95]⟩ (k 2), .int lf (k 14)⟩, ⟨PyData.keyHash w.params ⟨#[95,95,115,108,111,116,115,95,95]⟩, .str ⟨#[95,95,115,108,111,116,115,95,95]⟩ (k 3), .ref (a 1)⟩, ⟨PyData.keyHash w.params ⟨#[95,95,105,110,105,116,95,95]⟩, .str ⟨#[95,95,105,110,105,116,95,95]⟩ (k 4), .ref (a 2)⟩, ⟨PyData.keyHash w.params ⟨#[95,95,108,116,95,95]⟩, .str ⟨#[95,95,108,116,95,95]⟩ (k 5), .ref (a 3)⟩, ⟨PyData.keyHash w.params ⟨#[95,95,103,116,95,95]⟩, .str ⟨#[95,95,103,116,95,95]⟩ (k 6), .ref (a 4)⟩, ⟨PyData.keyHash w.params ⟨#[95,95,101,113,95,95]⟩, .str ⟨#[95,95,101,113,95,95]⟩ (k 7), .ref (a 5)⟩, ⟨PyData.keyHash w.params ⟨#[95,95,108,101,95,95]⟩, .str ⟨#[95,95,108,101,95,95]⟩ (k 8), .ref (a 6)⟩, ⟨PyData.keyHash w.params ⟨#[95,95,103,101,95,95]⟩, .str ⟨#[95,95,103,101,95,95]⟩ (k 9), .ref (a 7)⟩, ⟨PyData.keyHash w.params ⟨#[95,95,104,97,115,104,95,95]⟩, .str ⟨#[95,95,104,97,115,104,95,95]⟩ (k 10), .none⟩, ⟨PyData.keyHash w.params ⟨#[95,95,115,116,97,116,105,99,95,97,116,116,114,105,98,117,116,101,115,95,95]⟩, .str ⟨#[95,95,115,116,97,116,105,99,95,97,116,116,114,105,98,117,116,101,115,95,95]⟩ (k 11), .ref (a 8)⟩] n, #[]⟩ : Obj)), (a 1, (⟨.type "list", none, .seq #[.str ⟨#[111,98,106]⟩ (k 15)] nl, #[]⟩ : Obj)), (a 2, (⟨.type "function", none, dd 2, #[]⟩ : Obj)), (a 3, (⟨.type "function", none, dd 3, #[]⟩ : Obj)), (a 4, (⟨.type "function", none, dd 4, #[]⟩ : Obj)), (a 5, (⟨.type "function", none, dd 5, #[]⟩ : Obj)), (a 6, (⟨.type "function", none, dd 6, #[]⟩ : Obj)), (a 7, (⟨.type "function", none, dd 7, #[]⟩ : Obj)), (a 8, (⟨.type "tuple", none, dd 8, #[]⟩ : Obj)), (cStatics, ({ cls := Value.none, data := Data.dict #[] } : Obj))]
noncomputable def listT (w : World) (M : Nat) (a : Nat → Nat) (vm : Str) (lf : Int) (n nl : Nat) (dd : Nat → Data) (k : Nat → Tok) (t : Tok) : List (Addr × Obj) := [((M + 111 + 63), (⟨.type "builtin_function_or_method", none, .fields #[.builtin "object.__init_subclass__", .ref (M + 111 + 60)], #[]⟩ : Obj)), ((M + 111 + 62), (⟨.type "super", none, .fields #[.ref (M + 111 + 60), .ref (M + 111 + 60), .ref (M + 111 + 60)], #[]⟩ : Obj)), ((M + 111 + 61), (⟨.type "member_descriptor", none, .fields #[.str ⟨#[111,98,106]⟩ t, .ref (M + 111 + 60), .builtin "proto.slot", .builtin "proto.slot#set", rawInt 0], #[]⟩ : Obj)), ((M + 111 + 60), (⟨.type "type", none, .cls ⟨⟨#[75]⟩, [.type "object"], [.ref (M + 111 + 60), .type "object"], (M + 111 + 59), ⟨#[99,109,112,95,116,111,95,107,101,121,46,60,108,111,99,97,108,115,62,46,75]⟩, false, [⟨#[111,98,106]⟩], [], false, none, false⟩, #[some (.ref (a 0)), none, some (.str ⟨#[75]⟩ (k 16)), some (.str ⟨#[99,109,112,95,116,111,95,107,101,121,46,60,108,111,99,97,108,115,62,46,75]⟩ (k 13)), some (.builtin "object.__new__"), some (.bool false)]⟩ : Obj)), ((M + 111 + 59), (⟨.type "dict", none, .dict #[⟨PyData.keyHash w.params ⟨#[95,95,109,111,100,117,108,101,95,95]⟩, .str ⟨#[95,95,109,111,100,117,108,101,95,95]⟩ (k 0), .str vm (k 12)⟩, ⟨PyData.keyHash w.params ⟨#[95,95,102,105,114,115,116,108,105,110,101,110,111,95,95]⟩, .str ⟨#[95,95,102,105,114,115,116,108,105,110,101,110,111,95,95]⟩ (k 2), .int lf (k 14)⟩, ⟨PyData.keyHash w.params ⟨#[95,95,115,108,111,116,115,95,95]⟩, .str ⟨#[95,95,115,108,111,116,115,95,95]⟩ (k 3), .ref (a 1)⟩, ⟨PyData.keyHash w.params ⟨#[95,95,105,110,105,116,95,95]⟩, .str ⟨#[95,95,105,110,105,116,95,95]⟩ (k 4), .ref (a 2)⟩, ⟨PyData.keyHash w.params ⟨#[95,95,108,116,95,95]⟩, .str ⟨#[95,95,108,116,95,95]⟩ (k 5), .ref (a 3)⟩, ⟨PyData.keyHash w.params ⟨#[95,95,103,116,95,95]⟩, .str ⟨#[95,95,103,116,95,95]⟩ (k 6), .ref (a 4)⟩, ⟨PyData.keyHash w.params ⟨#[95,95,101,113,95,95]⟩, .str ⟨#[95,95,101,113,95,95]⟩ (k 7), .ref (a 5)⟩, ⟨PyData.keyHash w.params ⟨#[95,95,108,101,95,95]⟩, .str ⟨#[95,95,108,101,95,95]⟩ (k 8), .ref (a 6)⟩, ⟨PyData.keyHash w.params ⟨#[95,95,103,101,95,95]⟩, .str ⟨#[95,95,103,101,95,95]⟩ (k 9), .ref (a 7)⟩, ⟨PyData.keyHash w.params ⟨#[95,95,104,97,115,104,95,95]⟩, .str ⟨#[95,95,104,97,115,104,95,95]⟩ (k 10), .none⟩, ⟨PyData.keyHash w.params ⟨#[95,95,115,116,97,116,105,99,95,97,116,116,114,105,98,117,116,101,115,95,95]⟩, .str ⟨#[95,95,115,116,97,116,105,99,95,97,116,116,114,105,98,117,116,101,115,95,95]⟩ (k 11), .ref (a 8)⟩, ⟨PyData.keyHash w.params ⟨#[111,98,106]⟩, .str ⟨#[111,98,106]⟩ (t + 1), .ref (M + 111 + 61)⟩, ⟨PyData.keyHash w.params ⟨#[95,95,100,111,99,95,95]⟩, .str ⟨#[95,95,100,111,99,95,95]⟩ (t + 2), .none⟩] 3, #[]⟩ : Obj)), ((M + 111 + 58), (⟨.type "list", none, .seq #[.str ⟨#[111,98,106]⟩ (k 15)] 1, #[]⟩ : Obj))]
noncomputable def tX1 (w : World) (M : Nat) (a : Nat → Nat) (vm : Str) (lf : Int) (n nl : Nat) (dd : Nat → Data) (k : Nat → Tok) (hd : Option Value) (t : Nat) : RS PySem.Fin := RUN w [] (factsT w M a vm lf n nl dd k) hd 4000 [] (denote treeTable (.call (.type "type") ⟨[.str ⟨#[75]⟩ (k 16), .ref (a 0), .ref (M + 111 + 4)], []⟩)) ⟨[], [], M + 111 + 58, t⟩
noncomputable def tX2 (w : World) (M : Nat) (a : Nat → Nat) (vm : Str) (lf : Int) (n nl : Nat) (dd : Nat → Data) (k : Nat → Tok) (hd : Option Value) (t : Nat) : RS PySem.Fin := RUN w [] (factsT w M a vm lf n nl dd k) hd 4000 [] (denote treeTable (againC (tX1 w M a vm lf n nl dd k hd t).t)) (tX1 w M a vm lf n nl dd k hd t).st
noncomputable def tX3 (w : World) (M : Nat) (a : Nat → Nat) (vm : Str) (lf : Int) (n nl : Nat) (dd : Nat → Data) (k : Nat → Tok) (hd : Option Value) (t : Nat) : RS PySem.Fin := RUN w [] (factsT w M a vm lf n nl dd k) hd 4000 [] (denote treeTable (callC (tX2 w M a vm lf n nl dd k hd t).t)) (tX2 w M a vm lf n nl dd k hd t).st
noncomputable def tX4 (w : World) (M : Nat) (a : Nat → Nat) (vm : Str) (lf : Int) (n nl : Nat) (dd : Nat → Data) (k : Nat → Tok) (hd : Option Value) (t : Nat) : RS PySem.Fin := RUN w [] (factsT w M a vm lf n nl dd k) hd 4000 [.fact 0,.fact 1,.fact 0,.fact 1,.fact 1,.fact 2] (Builtin.«type.__new__» ⟨[.type "type", .str ⟨#[75]⟩ (k 16), .ref (a 0), .ref (M + 111 + 4)], []⟩) ⟨[], [], M + 111 + 58, t⟩
noncomputable def tX5 (w : World) (M : Nat) (a : Nat → Nat) (vm : Str) (lf : Int) (n nl : Nat) (dd : Nat → Data) (k : Nat → Tok) (hd : Option Value) (t : Nat) : RS PySem.Fin := RUN w [] (factsT w M a vm lf n nl dd k) hd 4000 [] (denote treeTable (callC (tX4 w M a vm lf n nl dd k hd t).t)) (tX4 w M a vm lf n nl dd k hd t).st
noncomputable def tX6 (w : World) (M : Nat) (a : Nat → Nat) (vm : Str) (lf : Int) (n nl : Nat) (dd : Nat → Data) (k : Nat → Tok) (hd : Option Value) (t : Nat) : RS PySem.Fin := RUN w [] (factsT w M a vm lf n nl dd k) hd 1 [.fact 2] (Builtin.List.listExtendWith (.ref (M + 111 + 58)) (.ref (a 1)) (.ref (M + 111 + 58))) ⟨[], [((M + 111 + 58), (⟨.type "list", none, .seq #[] 0, #[]⟩ : Obj))], M + 111 + 59, t⟩
noncomputable def tnI (w : World) (M : Nat) (a : Nat → Nat) (vm : Str) (lf : Int) (n nl : Nat) (dd : Nat → Data) (k : Nat → Tok) (hd : Option Value) (t : Nat) : { F : Sem PySem.Fin × Sem PySem.Fin // (tX6 w M a vm lf n nl dd k hd t).t = (if (Builtin.List.listSameRef (.ref (M + 111 + 58)) (.ref (a 1)) || Value.type "list" == .type "list" || Value.type "list" == .type "tuple") = true then F.1 else F.2) } := ⟨(_, _), by with_unfolding_all exact rfl⟩
noncomputable def tX7 (w : World) (M : Nat) (a : Nat → Nat) (vm : Str) (lf : Int) (n nl : Nat) (dd : Nat → Data) (k : Nat → Tok) (hd : Option Value) (t : Nat) : RS PySem.Fin := RUN w [] (factsT w M a vm lf n nl dd k) hd 4000 [.fact 2,.new 0,.new 0,.new 0,.new 0] (tnI w M a vm lf n nl dd k hd t).1.1 (tX6 w M a vm lf n nl dd k hd t).st
noncomputable def tX8 (w : World) (M : Nat) (a : Nat → Nat) (vm : Str) (lf : Int) (n nl : Nat) (dd : Nat → Data) (k : Nat → Tok) (hd : Option Value) (t : Nat) : RS PySem.Fin := RUN w [] (factsT w M a vm lf n nl dd k) hd 1 [.new 0] (callK (tX4 w M a vm lf n nl dd k hd t).t (.ok (.ret (.ref (M + 111 + 58))))) ⟨[], [((M + 111 + 58), (⟨.type "list", none, .seq #[.str ⟨#[111,98,106]⟩ (k 15)] 1, #[]⟩ : Obj))], M + 111 + 59, t⟩
noncomputable def tnA (w : World) (M : Nat) (a : Nat → Nat) (vm : Str) (lf : Int) (n nl : Nat) (dd : Nat → Data) (k : Nat → Tok) (hd : Option Value) (t : Nat) : { F : Sem Builtin.Slots.Plan × (Builtin.Slots.Plan → Sem PySem.Fin) // (tX8 w M a vm lf n nl dd k hd t).t = Sem.bind F.1 F.2 } := ⟨(_, _), by with_unfolding_all exact rfl⟩
noncomputable def tX9 (w : World) (M : Nat) (a : Nat → Nat) (vm : Str) (lf : Int) (n nl : Nat) (dd : Nat → Data) (k : Nat → Tok) (hd : Option Value) (t : Nat) : RS Builtin.Slots.Plan := RUN w [] (factsT w M a vm lf n nl dd k) hd 4000 [] (tnA w M a vm lf n nl dd k hd t).1.1 (tX8 w M a vm lf n nl dd k hd t).st
noncomputable def tnP (w : World) (M : Nat) (a : Nat → Nat) (vm : Str) (lf : Int) (n nl : Nat) (dd : Nat → Data) (k : Nat → Tok) (hd : Option Value) (t : Nat) : Builtin.Slots.Plan := (pureO (tX9 w M a vm lf n nl dd k hd t).t).get (by kernel_rfl)
noncomputable def tX10 (w : World) (M : Nat) (a : Nat → Nat) (vm : Str) (lf : Int) (n nl : Nat) (dd : Nat → Data) (k : Nat → Tok) (hd : Option Value) (t : Nat) : RS PySem.Fin := RUN w [] (factsT w M a vm lf n nl dd k) hd 4000 [.new 0,.new 0,.new 0,.new 0,.new 0,.new 0,.new 1,.new 1,.new 1,.new 1,.new 1,.new 1] ((tnA w M a vm lf n nl dd k hd t).1.2 (tnP w M a vm lf n nl dd k hd t)) (tX9 w M a vm lf n nl dd k hd t).st
noncomputable def tX11 (w : World) (M : Nat) (a : Nat → Nat) (vm : Str) (lf : Int) (n nl : Nat) (dd : Nat → Data) (k : Nat → Tok) (hd : Option Value) (t : Nat) : RS PySem.Fin := RUN w [] (factsT w M a vm lf n nl dd k) hd 1 [.new 1] (tX10 w M a vm lf n nl dd k hd t).t (tX10 w M a vm lf n nl dd k hd t).st
noncomputable def tnB (w : World) (M : Nat) (a : Nat → Nat) (vm : Str) (lf : Int) (n nl : Nat) (dd : Nat → Data) (k : Nat → Tok) (hd : Option Value) (t : Nat) : { F : (Value → Sem Bool) × (Value → Bool) × (Bool → Sem PySem.Fin) // (tX11 w M a vm lf n nl dd k hd t).t = Sem.bind (List.anyM F.1 (List.filter F.2.1 [.ref (M + 111 + 60), .type "object"])) F.2.2 } := ⟨(_, _, _), by with_unfolding_all exact rfl⟩
noncomputable def tX12 (w : World) (M : Nat) (a : Nat → Nat) (vm : Str) (lf : Int) (n nl : Nat) (dd : Nat → Data) (k : Nat → Tok) (hd : Option Value) (t : Nat) : RS Bool := RUN w [] (factsT w M a vm lf n nl dd k) hd 4000 [] (List.anyM (tnB w M a vm lf n nl dd k hd t).1.1 [.type "object"]) (tX11 w M a vm lf n nl dd k hd t).st
noncomputable def tX13 (w : World) (M : Nat) (a : Nat → Nat) (vm : Str) (lf : Int) (n nl : Nat) (dd : Nat → Data) (k : Nat → Tok) (hd : Option Value) (t : Nat) : RS PySem.Fin := RUN w [] (factsT w M a vm lf n nl dd k) hd 4000 [.new 0,.new 0,.new 0,.new 0,.new 0,.new 0,.new 0,.new 1,.new 1,.new 2,.new 2,.new 2,.new 1,.new 1,.new 1,.new 1,.new 2,.new 2,.new 2,.new 2,.new 2,.new 2,.new 2,.fact 2,.fact 3,.fact 4,.fact 5,.fact 6,.fact 7,.fact 8,.fact 9,.new 0] ((tnB w M a vm lf n nl dd k hd t).1.2.2 false) (tX12 w M a vm lf n nl dd k hd t).st
noncomputable def tX14 (w : World) (M : Nat) (a : Nat → Nat) (vm : Str) (lf : Int) (n nl : Nat) (dd : Nat → Data) (k : Nat → Tok) (hd : Option Value) (t : Nat) : RS PySem.Fin := RUN w [] (factsT w M a vm lf n nl dd k) hd 4000 [] (denote treeTable (callC (tX13 w M a vm lf n nl dd k hd t).t)) (tX13 w M a vm lf n nl dd k hd t).st
noncomputable def tX15 (w : World) (M : Nat) (a : Nat → Nat) (vm : Str) (lf : Int) (n nl : Nat) (dd : Nat → Data) (k : Nat → Tok) (hd : Option Value) (t : Nat) : RS PySem.Fin := RUN w [] (factsT w M a vm lf n nl dd k) hd 4000 [.new 1] (denote treeTable (againC (tX14 w M a vm lf n nl dd k hd t).t)) (tX14 w M a vm lf n nl dd k hd t).st
noncomputable def tX16 (w : World) (M : Nat) (a : Nat → Nat) (vm : Str) (lf : Int) (n nl : Nat) (dd : Nat → Data) (k : Nat → Tok) (hd : Option Value) (t : Nat) : RS PySem.Fin := RUN w [] (factsT w M a vm lf n nl dd k) hd 4000 [] (denote treeTable (callC (tX15 w M a vm lf n nl dd k hd t).t)) (tX15 w M a vm lf n nl dd k hd t).st
noncomputable def tX17 (w : World) (M : Nat) (a : Nat → Nat) (vm : Str) (lf : Int) (n nl : Nat) (dd : Nat → Data) (k : Nat → Tok) (hd : Option Value) (t : Nat) : RS PySem.Fin := RUN w [] (factsT w M a vm lf n nl dd k) hd 4000 [] (denote treeTable (againC (tX16 w M a vm lf n nl dd k hd t).t)) (tX16 w M a vm lf n nl dd k hd t).st
noncomputable def tX18 (w : World) (M : Nat) (a : Nat → Nat) (vm : Str) (lf : Int) (n nl : Nat) (dd : Nat → Data) (k : Nat → Tok) (hd : Option Value) (t : Nat) : RS PySem.Fin := RUN w [] (factsT w M a vm lf n nl dd k) hd 4000 [.new 0,.new 0] (callK (tX15 w M a vm lf n nl dd k hd t).t (.ok (.ret (.ref (M + 111 + 62))))) (tX17 w M a vm lf n nl dd k hd t).st
noncomputable def tX19 (w : World) (M : Nat) (a : Nat → Nat) (vm : Str) (lf : Int) (n nl : Nat) (dd : Nat → Data) (k : Nat → Tok) (hd : Option Value) (t : Nat) : RS PySem.Fin := RUN w [] (factsT w M a vm lf n nl dd k) hd 4000 [.new 0] (denote treeTable (callC (tX18 w M a vm lf n nl dd k hd t).t)) (tX18 w M a vm lf n nl dd k hd t).st
noncomputable def tX20 (w : World) (M : Nat) (a : Nat → Nat) (vm : Str) (lf : Int) (n nl : Nat) (dd : Nat → Data) (k : Nat → Tok) (hd : Option Value) (t : Nat) : RS PySem.Fin := RUN w [] (factsT w M a vm lf n nl dd k) hd 4000 [.new 2,.new 2] (Builtin.«super.__init__» ⟨[.ref (M + 111 + 62), .ref (M + 111 + 60), .ref (M + 111 + 60)], []⟩) (tX19 w M a vm lf n nl dd k hd t).st
noncomputable def tX21 (w : World) (M : Nat) (a : Nat → Nat) (vm : Str) (lf : Int) (n nl : Nat) (dd : Nat → Data) (k : Nat → Tok) (hd : Option Value) (t : Nat) : RS PySem.Fin := RUN w [] (factsT w M a vm lf n nl dd k) hd 1 [.new 2] (tX20 w M a vm lf n nl dd k hd t).t (tX20 w M a vm lf n nl dd k hd t).st
noncomputable def tnC (w : World) (M : Nat) (a : Nat → Nat) (k : Nat → Tok) : { F : Sem Bool × (Bool → Sem Value) × (Value → Sem PySem.Fin) // (RUN w [] [((M + 111 + 60), (⟨.type "type", none, .cls ⟨⟨#[75]⟩, [.type "object"], [.ref (M + 111 + 60), .type "object"], (M + 111 + 59), ⟨#[99,109,112,95,116,111,95,107,101,121,46,60,108,111,99,97,108,115,62,46,75]⟩, false, [⟨#[111,98,106]⟩], [], false, none, false⟩, #[some (.ref (a 0)), none, some (.str ⟨#[75]⟩ (k 16)), some (.str ⟨#[99,109,112,95,116,111,95,107,101,121,46,60,108,111,99,97,108,115,62,46,75]⟩ (k 13)), some (.builtin "object.__new__"), some (.bool false)]⟩ : Obj))] none 1 [.fact 0] (RUN w [] [((M + 111 + 60), (⟨.type "type", none, .cls ⟨⟨#[75]⟩, [.type "object"], [.ref (M + 111 + 60), .type "object"], (M + 111 + 59), ⟨#[99,109,112,95,116,111,95,107,101,121,46,60,108,111,99,97,108,115,62,46,75]⟩, false, [⟨#[111,98,106]⟩], [], false, none, false⟩, #[some (.ref (a 0)), none, some (.str ⟨#[75]⟩ (k 16)), some (.str ⟨#[99,109,112,95,116,111,95,107,101,121,46,60,108,111,99,97,108,115,62,46,75]⟩ (k 13)), some (.builtin "object.__new__"), some (.bool false)]⟩ : Obj))] none 4000 [.fact 0,.fact 0] (Builtin.«super.__init__» ⟨[.ref (M + 111 + 62), .ref (M + 111 + 60), .ref (M + 111 + 60)], []⟩) ⟨[], [], 0, 0⟩).t ⟨[], [], 0, 0⟩).t = Sem.bind (Sem.bind F.1 F.2.1) F.2.2 } := ⟨(_, _, _), by with_unfolding_all exact rfl⟩
noncomputable def tX22 (w : World) (M : Nat) (a : Nat → Nat) (vm : Str) (lf : Int) (n nl : Nat) (dd : Nat → Data) (k : Nat → Tok) (hd : Option Value) (t : Nat) : RS PySem.Fin := RUN w [] (factsT w M a vm lf n nl dd k) hd 4000 [.new 0,.new 0,.new 0,.new 0,.new 0,.new 0] ((tnC w M a k).1.2.2 (.ref (M + 111 + 60))) (tX21 w M a vm lf n nl dd k hd t).st
noncomputable def tX23 (w : World) (M : Nat) (a : Nat → Nat) (vm : Str) (lf : Int) (n nl : Nat) (dd : Nat → Data) (k : Nat → Tok) (hd : Option Value) (t : Nat) : RS PySem.Fin := RUN w [] (factsT w M a vm lf n nl dd k) hd 4000 [] (callK (tX18 w M a vm lf n nl dd k hd t).t (.ok (.ret .none))) (tX22 w M a vm lf n nl dd k hd t).st
noncomputable def tX24 (w : World) (M : Nat) (a : Nat → Nat) (vm : Str) (lf : Int) (n nl : Nat) (dd : Nat → Data) (k : Nat → Tok) (hd : Option Value) (t : Nat) : RS PySem.Fin := RUN w [] (factsT w M a vm lf n nl dd k) hd 4000 [.new 0] (callK (tX13 w M a vm lf n nl dd k hd t).t (.ok (.ret (.ref (M + 111 + 62))))) (tX23 w M a vm lf n nl dd k hd t).st
noncomputable def tX25 (w : World) (M : Nat) (a : Nat → Nat) (vm : Str) (lf : Int) (n nl : Nat) (dd : Nat → Data) (k : Nat → Tok) (hd : Option Value) (t : Nat) : RS PySem.Fin := RUN w [] (factsT w M a vm lf n nl dd k) hd 4000 [.new 0] (denote treeTable (callC (tX24 w M a vm lf n nl dd k hd t).t)) (tX24 w M a vm lf n nl dd k hd t).st
noncomputable def tX26 (w : World) (M : Nat) (a : Nat → Nat) (vm : Str) (lf : Int) (n nl : Nat) (dd : Nat → Data) (k : Nat → Tok) (hd : Option Value) (t : Nat) : RS PySem.Fin := RUN w [] (factsT w M a vm lf n nl dd k) hd 4000 [.new 0,.new 0,.new 0,.fact 10] (Builtin.«super.__getattribute__» ⟨[.ref (M + 111 + 62), .str ⟨#[95,95,105,110,105,116,95,115,117,98,99,108,97,115,115,95,95]⟩ (t + 3)], []⟩) (tX25 w M a vm lf n nl dd k hd t).st
noncomputable def tX27 (w : World) (M : Nat) (a : Nat → Nat) (vm : Str) (lf : Int) (n nl : Nat) (dd : Nat → Data) (k : Nat → Tok) (hd : Option Value) (t : Nat) : RS PySem.Fin := RUN w [] (factsT w M a vm lf n nl dd k) hd 1 [.new 2] (tX26 w M a vm lf n nl dd k hd t).t (tX26 w M a vm lf n nl dd k hd t).st
noncomputable def tnD (w : World) (M : Nat) (a : Nat → Nat) (k : Nat → Tok) (t : Nat) : { F : (Value → Bool) × (Value → Option PySem.Fin × Unit → Sem (ForInStep (Option PySem.Fin × Unit))) × (Option PySem.Fin × Unit → Sem PySem.Fin) // (RUN w [] [((M + 111 + 60), (⟨.type "type", none, .cls ⟨⟨#[75]⟩, [.type "object"], [.ref (M + 111 + 60), .type "object"], (M + 111 + 59), ⟨#[99,109,112,95,116,111,95,107,101,121,46,60,108,111,99,97,108,115,62,46,75]⟩, false, [⟨#[111,98,106]⟩], [], false, none, false⟩, #[some (.ref (a 0)), none, some (.str ⟨#[75]⟩ (k 16)), some (.str ⟨#[99,109,112,95,116,111,95,107,101,121,46,60,108,111,99,97,108,115,62,46,75]⟩ (k 13)), some (.builtin "object.__new__"), some (.bool false)]⟩ : Obj)), ((M + 111 + 62), (⟨.type "super", none, .fields #[.ref (M + 111 + 60), .ref (M + 111 + 60), .ref (M + 111 + 60)], #[]⟩ : Obj)), (cStatics, ({ cls := Value.none, data := Data.dict #[] } : Obj))] none 1 [.fact 0] (RUN w [] [((M + 111 + 60), (⟨.type "type", none, .cls ⟨⟨#[75]⟩, [.type "object"], [.ref (M + 111 + 60), .type "object"], (M + 111 + 59), ⟨#[99,109,112,95,116,111,95,107,101,121,46,60,108,111,99,97,108,115,62,46,75]⟩, false, [⟨#[111,98,106]⟩], [], false, none, false⟩, #[some (.ref (a 0)), none, some (.str ⟨#[75]⟩ (k 16)), some (.str ⟨#[99,109,112,95,116,111,95,107,101,121,46,60,108,111,99,97,108,115,62,46,75]⟩ (k 13)), some (.builtin "object.__new__"), some (.bool false)]⟩ : Obj)), ((M + 111 + 62), (⟨.type "super", none, .fields #[.ref (M + 111 + 60), .ref (M + 111 + 60), .ref (M + 111 + 60)], #[]⟩ : Obj)), (cStatics, ({ cls := Value.none, data := Data.dict #[] } : Obj))] none 4000 [.fact 1,.fact 1,.fact 1,.fact 2] (Builtin.«super.__getattribute__» ⟨[.ref (M + 111 + 62), .str ⟨#[95,95,105,110,105,116,95,115,117,98,99,108,97,115,115,95,95]⟩ (t + 3)], []⟩) ⟨[], [], 0, 0⟩).t ⟨[], [], 0, 0⟩).t = Sem.bind (forIn (List.drop 1 (List.dropWhile F.1 [.ref (M + 111 + 60), .type "object"])) ((none, ()) : Option PySem.Fin × Unit) F.2.1) F.2.2 } := ⟨(_, _, _), by with_unfolding_all exact rfl⟩
noncomputable def tX28 (w : World) (M : Nat) (a : Nat → Nat) (vm : Str) (lf : Int) (n nl : Nat) (dd : Nat → Data) (k : Nat → Tok) (hd : Option Value) (t : Nat) : RS (Option PySem.Fin × Unit) := RUN w [] (factsT w M a vm lf n nl dd k) hd 4000 [] (forIn [Value.type "object"] ((none, ()) : Option PySem.Fin × Unit) (tnD w M a k t).1.2.1) (tX27 w M a vm lf n nl dd k hd t).st
noncomputable def tX29 (w : World) (M : Nat) (a : Nat → Nat) (vm : Str) (lf : Int) (n nl : Nat) (dd : Nat → Data) (k : Nat → Tok) (hd : Option Value) (t : Nat) : RS PySem.Fin := RUN w [] (factsT w M a vm lf n nl dd k) hd 4000 [] (denote treeTable (.call (.builtin "classmethod_descriptor.__get__") ⟨[.builtin "object.__init_subclass__", .none, .ref (M + 111 + 60)], []⟩)) (tX28 w M a vm lf n nl dd k hd t).st
noncomputable def tX30 (w : World) (M : Nat) (a : Nat → Nat) (vm : Str) (lf : Int) (n nl : Nat) (dd : Nat → Data) (k : Nat → Tok) (hd : Option Value) (t : Nat) : RS PySem.Fin := RUN w [] (factsT w M a vm lf n nl dd k) hd 4000 [.new 2,.new 2] (denote treeTable (againC (tX29 w M a vm lf n nl dd k hd t).t)) (tX29 w M a vm lf n nl dd k hd t).st
noncomputable def tX31 (w : World) (M : Nat) (a : Nat → Nat) (vm : Str) (lf : Int) (n nl : Nat) (dd : Nat → Data) (k : Nat → Tok) (hd : Option Value) (t : Nat) : RS (Option PySem.Fin × Unit) := RUN w [] (factsT w M a vm lf n nl dd k) hd 4000 [] (callK (tX28 w M a vm lf n nl dd k hd t).t (.ok (.ret (.ref (M + 111 + 63))))) (tX30 w M a vm lf n nl dd k hd t).st
noncomputable def tX32 (w : World) (M : Nat) (a : Nat → Nat) (vm : Str) (lf : Int) (n nl : Nat) (dd : Nat → Data) (k : Nat → Tok) (hd : Option Value) (t : Nat) : RS PySem.Fin := RUN w [] (factsT w M a vm lf n nl dd k) hd 4000 [] (callK (tX24 w M a vm lf n nl dd k hd t).t (.ok (.ret (.ref (M + 111 + 63))))) (tX31 w M a vm lf n nl dd k hd t).st
noncomputable def tX33 (w : World) (M : Nat) (a : Nat → Nat) (vm : Str) (lf : Int) (n nl : Nat) (dd : Nat → Data) (k : Nat → Tok) (hd : Option Value) (t : Nat) : RS PySem.Fin := RUN w [] (factsT w M a vm lf n nl dd k) hd 4000 [.new 0,.new 3,.new 3,.new 3,.new 3] (denote treeTable (callC (tX32 w M a vm lf n nl dd k hd t).t)) (tX32 w M a vm lf n nl dd k hd t).st
noncomputable def tX34 (w : World) (M : Nat) (a : Nat → Nat) (vm : Str) (lf : Int) (n nl : Nat) (dd : Nat → Data) (k : Nat → Tok) (hd : Option Value) (t : Nat) : RS PySem.Fin := RUN w [] (factsT w M a vm lf n nl dd k) hd 4000 [] (denote treeTable (againC (tX33 w M a vm lf n nl dd k hd t).t)) (tX33 w M a vm lf n nl dd k hd t).st
noncomputable def tX35 (w : World) (M : Nat) (a : Nat → Nat) (vm : Str) (lf : Int) (n nl : Nat) (dd : Nat → Data) (k : Nat → Tok) (hd : Option Value) (t : Nat) : RS PySem.Fin := RUN w [] (factsT w M a vm lf n nl dd k) hd 4000 [] (callK (tX32 w M a vm lf n nl dd k hd t).t (.ok (.ret .none))) (tX34 w M a vm lf n nl dd k hd t).st
noncomputable def tX36 (w : World) (M : Nat) (a : Nat → Nat) (vm : Str) (lf : Int) (n nl : Nat) (dd : Nat → Data) (k : Nat → Tok) (hd : Option Value) (t : Nat) : RS PySem.Fin := RUN w [] (factsT w M a vm lf n nl dd k) hd 4000 [.new 3,.new 3] (callK (tX2 w M a vm lf n nl dd k hd t).t (.ok (.ret (.ref (M + 111 + 60))))) (tX35 w M a vm lf n nl dd k hd t).st
noncomputable def tX37 (w : World) (M : Nat) (a : Nat → Nat) (vm : Str) (lf : Int) (n nl : Nat) (dd : Nat → Data) (k : Nat → Tok) (hd : Option Value) (t : Nat) : RS PySem.Fin := RUN w [] (factsT w M a vm lf n nl dd k) hd 4000 [.new 3] (denote treeTable (callC (tX36 w M a vm lf n nl dd k hd t).t)) (tX36 w M a vm lf n nl dd k hd t).st
noncomputable def tX38 (w : World) (M : Nat) (a : Nat → Nat) (vm : Str) (lf : Int) (n nl : Nat) (dd : Nat → Data) (k : Nat → Tok) (hd : Option Value) (t : Nat) : RS PySem.Fin := RUN w [] (factsT w M a vm lf n nl dd k) hd 4000 [] (denote treeTable (againC (tX37 w M a vm lf n nl dd k hd t).t)) (tX37 w M a vm lf n nl dd k hd t).st
noncomputable def tX39 (w : World) (M : Nat) (a : Nat → Nat) (vm : Str) (lf : Int) (n nl : Nat) (dd : Nat → Data) (k : Nat → Tok) (hd : Option Value) (t : Nat) : RS PySem.Fin := RUN w [] (factsT w M a vm lf n nl dd k) hd 4000 [] (callK (tX36 w M a vm lf n nl dd k hd t).t (.ok (.ret .none))) (tX38 w M a vm lf n nl dd k hd t).st
open PySem.W.X in
theorem tn_new {w : World} {M : Nat} {a : Nat → Nat} {vm : Str} {lf : Int} {n nl : Nat} {dd : Nat → Data} {k : Nat → Tok} {A : Around} {R : Result → Shared → Prop} {h0 : Heap} {g : Array GenState} {d : Drawn} {t : Nat} {os : OsState}
  (hF1 : ∀ p ∈ factsT w M a vm lf n nl dd k, h0.get? p.1 = some p.2) (S0 : h0.objs.size = M + 111 + 58)
  (hQ : ∀ (h' : Heap), MemX h0 h' ⟨[], listT w M a vm lf n nl dd k t, M + 111 + 64, t + 4⟩ → R (.ok (.ret (.ref (M + 111 + 60)))) ⟨h', g, d, t + 4, os⟩)
  : codeAny (model PySem.Challenge.rw_in0014_01.row.prog w) A (.call (.type "type") ⟨[.str ⟨#[75]⟩ (k 16), .ref (a 0), .ref (M + 111 + 4)], []⟩) R ⟨h0, g, d, t, os⟩ := by
  have hK1 : ∀ a o, List.lookup a ([] : List (Addr × Obj)) = some o → h0.get? a = some o := fun _ _ h => nomatch h
  have D0 : MemX h0 h0 ⟨[], [], M + 111 + 58, t⟩ := ⟨Mem.start h0, S0⟩
  refine y_code _ _ _ _ _ _ ?_
  with_reducible refine own_den ?_
  with_reducible refine own_run (tX1 w M a vm lf n nl dd k A.handled t) [] (factsT w M a vm lf n nl dd k) hK1 hF1 4000 [] (by kernel_rfl) D0 (by kernel_rfl) ?_
  intro h1 D1
  with_reducible refine own_againP (by kernel_rfl) (by kernel_rfl) ?_
  with_reducible refine own_run (tX2 w M a vm lf n nl dd k A.handled t) [] (factsT w M a vm lf n nl dd k) hK1 hF1 4000 [] (by kernel_rfl) D1 (by kernel_rfl) ?_
  intro h2 D2
  with_reducible refine own_callP (by kernel_rfl) ?_
  with_reducible refine own_run (tX3 w M a vm lf n nl dd k A.handled t) [] (factsT w M a vm lf n nl dd k) hK1 hF1 4000 [] (by kernel_rfl) D2 (by kernel_rfl) ?_
  intro h3 D3
  with_reducible refine own_led ⟨[], [], M + 111 + 58, t⟩ (by kernel_rfl) D3 ?_
  intro DL3
  with_reducible refine own_again (.builtin "type.__new__" ⟨[.type "type", .str ⟨#[75]⟩ (k 16), .ref (a 0), .ref (M + 111 + 4)], []⟩) (by kernel_rfl) (by kernel_rfl) ?_
  with_reducible refine own_eq (Builtin.«type.__new__» ⟨[.type "type", .str ⟨#[75]⟩ (k 16), .ref (a 0), .ref (M + 111 + 4)], []⟩) (by rw [← den_tree]; kernel_rfl) ?_
  with_reducible refine own_run (st := ⟨[], [], M + 111 + 58, t⟩) (tX4 w M a vm lf n nl dd k A.handled t) [] (factsT w M a vm lf n nl dd k) hK1 hF1 4000 [.fact 0,.fact 1,.fact 0,.fact 1,.fact 1,.fact 2] (by kernel_rfl) DL3 (by kernel_rfl) ?_
  intro h4 D4
  with_reducible refine own_callP (by kernel_rfl) ?_
  with_reducible refine own_run (tX5 w M a vm lf n nl dd k A.handled t) [] (factsT w M a vm lf n nl dd k) hK1 hF1 4000 [] (by kernel_rfl) D4 (by kernel_rfl) ?_
  intro h5 D5
  with_reducible refine own_again (.builtin "list.__iadd__" ⟨[.ref (M + 111 + 58), .ref (a 1)], []⟩) (by kernel_rfl) (by kernel_rfl) ?_
  with_reducible refine own_eq (Builtin.List.listExtendWith (.ref (M + 111 + 58)) (.ref (a 1)) (.ref (M + 111 + 58))) (by rw [← den_tree]; kernel_rfl) ?_
  with_reducible refine own_led ⟨[], [((M + 111 + 58), (⟨.type "list", none, .seq #[] 0, #[]⟩ : Obj))], M + 111 + 59, t⟩ (by kernel_rfl) D5 ?_
  intro DL5
  with_reducible refine own_run (st := ⟨[], [((M + 111 + 58), (⟨.type "list", none, .seq #[] 0, #[]⟩ : Obj))], M + 111 + 59, t⟩) (tX6 w M a vm lf n nl dd k A.handled t) [] (factsT w M a vm lf n nl dd k) hK1 hF1 1 [.fact 2] (by kernel_rfl) DL5 (by kernel_rfl) ?_
  intro h6 D6
  with_reducible refine own_eq (if (Builtin.List.listSameRef (.ref (M + 111 + 58)) (.ref (a 1)) || Value.type "list" == .type "list" || Value.type "list" == .type "tuple") = true then (tnI w M a vm lf n nl dd k A.handled t).1.1 else (tnI w M a vm lf n nl dd k A.handled t).1.2) (by kernel_rfl) ?_
  refine st_ifT (or2 (by kernel_rfl)) ?_
  with_reducible refine own_run (tX7 w M a vm lf n nl dd k A.handled t) [] (factsT w M a vm lf n nl dd k) hK1 hF1 4000 [.fact 2,.new 0,.new 0,.new 0,.new 0] (by kernel_rfl) D6 (by kernel_rfl) ?_
  intro h7 D7
  with_reducible refine own_eq (Sem.pure (PySem.Fin.done (.ret (.ref (M + 111 + 58))))) (by kernel_rfl) ?_
  with_reducible refine st_doneR ?_
  with_reducible refine own_led ⟨[], [((M + 111 + 58), (⟨.type "list", none, .seq #[.str ⟨#[111,98,106]⟩ (k 15)] 1, #[]⟩ : Obj))], M + 111 + 59, t⟩ (by kernel_rfl) D7 ?_
  intro DL7
  with_reducible refine own_run (st := ⟨[], [((M + 111 + 58), (⟨.type "list", none, .seq #[.str ⟨#[111,98,106]⟩ (k 15)] 1, #[]⟩ : Obj))], M + 111 + 59, t⟩) (tX8 w M a vm lf n nl dd k A.handled t) [] (factsT w M a vm lf n nl dd k) hK1 hF1 1 [.new 0] (by kernel_rfl) DL7 (by kernel_rfl) ?_
  intro h8 D8
  with_reducible refine own_eq (Sem.bind (tnA w M a vm lf n nl dd k A.handled t).1.1 (tnA w M a vm lf n nl dd k A.handled t).1.2) (by kernel_rfl) ?_
  with_reducible refine st_zoom ?_
  with_reducible refine own_run (tX9 w M a vm lf n nl dd k A.handled t) [] (factsT w M a vm lf n nl dd k) hK1 hF1 4000 [] (by kernel_rfl) D8 (by kernel_rfl) ?_
  intro h9 D9
  with_reducible refine own_pureP (by kernel_rfl) (by kernel_rfl) ?_
  with_reducible refine own_run (tX10 w M a vm lf n nl dd k A.handled t) [] (factsT w M a vm lf n nl dd k) hK1 hF1 4000 [.new 0,.new 0,.new 0,.new 0,.new 0,.new 0,.new 1,.new 1,.new 1,.new 1,.new 1,.new 1] (by kernel_rfl) D9 (by kernel_rfl) ?_
  intro h10 D10
  with_reducible refine own_run (tX11 w M a vm lf n nl dd k A.handled t) [] (factsT w M a vm lf n nl dd k) hK1 hF1 1 [.new 1] (by kernel_rfl) D10 (by kernel_rfl) ?_
  intro h11 D11
  with_reducible refine own_eq (Sem.bind (List.anyM (tnB w M a vm lf n nl dd k A.handled t).1.1 (List.filter (tnB w M a vm lf n nl dd k A.handled t).1.2.1 [.ref (M + 111 + 60), .type "object"])) (tnB w M a vm lf n nl dd k A.handled t).1.2.2) (by kernel_rfl) ?_
  with_reducible refine st_zoom ?_
  with_reducible refine own_eq (List.anyM (tnB w M a vm lf n nl dd k A.handled t).1.1 [.type "object"]) (congrArg (List.anyM (tnB w M a vm lf n nl dd k A.handled t).1.1) (filt2 (Eq.trans (b := (Value.ref (M + 111 + 60) != Value.ref (M + 111 + 60))) (by kernel_rfl) neSelfV) (by kernel_rfl))) ?_
  with_reducible refine own_run (tX12 w M a vm lf n nl dd k A.handled t) [] (factsT w M a vm lf n nl dd k) hK1 hF1 4000 [] (by kernel_rfl) D11 (by kernel_rfl) ?_
  intro h12 D12
  with_reducible refine own_pure false (by kernel_rfl) ?_
  with_reducible refine own_run (tX13 w M a vm lf n nl dd k A.handled t) [] (factsT w M a vm lf n nl dd k) hK1 hF1 4000 [.new 0,.new 0,.new 0,.new 0,.new 0,.new 0,.new 0,.new 1,.new 1,.new 2,.new 2,.new 2,.new 1,.new 1,.new 1,.new 1,.new 2,.new 2,.new 2,.new 2,.new 2,.new 2,.new 2,.fact 2,.fact 3,.fact 4,.fact 5,.fact 6,.fact 7,.fact 8,.fact 9,.new 0] (by kernel_rfl) D12 (by kernel_rfl) ?_
  intro h13 D13
  with_reducible refine own_callP (by kernel_rfl) ?_
  with_reducible refine own_run (tX14 w M a vm lf n nl dd k A.handled t) [] (factsT w M a vm lf n nl dd k) hK1 hF1 4000 [] (by kernel_rfl) D13 (by kernel_rfl) ?_
  intro h14 D14
  with_reducible refine own_againP (by kernel_rfl) (by kernel_rfl) ?_
  with_reducible refine own_run (tX15 w M a vm lf n nl dd k A.handled t) [] (factsT w M a vm lf n nl dd k) hK1 hF1 4000 [.new 1] (by kernel_rfl) D14 (by kernel_rfl) ?_
  intro h15 D15
  with_reducible refine own_callP (by kernel_rfl) ?_
  with_reducible refine own_run (tX16 w M a vm lf n nl dd k A.handled t) [] (factsT w M a vm lf n nl dd k) hK1 hF1 4000 [] (by kernel_rfl) D15 (by kernel_rfl) ?_
  intro h16 D16
  with_reducible refine own_againP (by kernel_rfl) (by kernel_rfl) ?_
  with_reducible refine own_run (tX17 w M a vm lf n nl dd k A.handled t) [] (factsT w M a vm lf n nl dd k) hK1 hF1 4000 [] (by kernel_rfl) D16 (by kernel_rfl) ?_
  intro h17 D17
  with_reducible refine own_eq (Sem.pure (PySem.Fin.done (.ret (.ref (M + 111 + 62))))) (by kernel_rfl) ?_
  with_reducible refine st_doneR ?_
  with_reducible refine own_run (tX18 w M a vm lf n nl dd k A.handled t) [] (factsT w M a vm lf n nl dd k) hK1 hF1 4000 [.new 0,.new 0] (by kernel_rfl) D17 (by kernel_rfl) ?_
  intro h18 D18
  with_reducible refine own_callP (by kernel_rfl) ?_
  with_reducible refine own_run (tX19 w M a vm lf n nl dd k A.handled t) [] (factsT w M a vm lf n nl dd k) hK1 hF1 4000 [.new 0] (by kernel_rfl) D18 (by kernel_rfl) ?_
  intro h19 D19
  with_reducible refine own_again (.builtin "super.__init__" ⟨[.ref (M + 111 + 62), .ref (M + 111 + 60), .ref (M + 111 + 60)], []⟩) (by kernel_rfl) (by kernel_rfl) ?_
  with_reducible refine own_eq (Builtin.«super.__init__» ⟨[.ref (M + 111 + 62), .ref (M + 111 + 60), .ref (M + 111 + 60)], []⟩) (by rw [← den_tree]; kernel_rfl) ?_
  with_reducible refine own_run (tX20 w M a vm lf n nl dd k A.handled t) [] (factsT w M a vm lf n nl dd k) hK1 hF1 4000 [.new 2,.new 2] (by kernel_rfl) D19 (by kernel_rfl) ?_
  intro h20 D20
  with_reducible refine own_run (tX21 w M a vm lf n nl dd k A.handled t) [] (factsT w M a vm lf n nl dd k) hK1 hF1 1 [.new 2] (by kernel_rfl) D20 (by kernel_rfl) ?_
  intro h21 D21
  with_reducible refine own_eq (Sem.bind (Sem.bind (tnC w M a k).1.1 (tnC w M a k).1.2.1) (tnC w M a k).1.2.2) (by kernel_rfl) ?_
  with_reducible refine st_zoom ?_
  with_reducible refine st_zoom ?_
  with_reducible refine own_pure true (Eq.trans (b := Sem.pure (List.contains [Value.ref (M + 111 + 60), Value.type "object"] (Value.ref (M + 111 + 60)))) (by kernel_rfl) (congrArg Sem.pure contHead)) ?_
  with_reducible refine own_pure (.ref (M + 111 + 60)) (by kernel_rfl) ?_
  with_reducible refine own_run (tX22 w M a vm lf n nl dd k A.handled t) [] (factsT w M a vm lf n nl dd k) hK1 hF1 4000 [.new 0,.new 0,.new 0,.new 0,.new 0,.new 0] (by kernel_rfl) D21 (by kernel_rfl) ?_
  intro h22 D22
  with_reducible refine own_eq (Sem.pure (PySem.Fin.done (.ret .none))) (by kernel_rfl) ?_
  with_reducible refine st_doneR ?_
  with_reducible refine own_run (tX23 w M a vm lf n nl dd k A.handled t) [] (factsT w M a vm lf n nl dd k) hK1 hF1 4000 [] (by kernel_rfl) D22 (by kernel_rfl) ?_
  intro h23 D23
  with_reducible refine own_eq (Sem.pure (PySem.Fin.done (.ret (.ref (M + 111 + 62))))) (by kernel_rfl) ?_
  with_reducible refine st_doneR ?_
  with_reducible refine own_run (tX24 w M a vm lf n nl dd k A.handled t) [] (factsT w M a vm lf n nl dd k) hK1 hF1 4000 [.new 0] (by kernel_rfl) D23 (by kernel_rfl) ?_
  intro h24 D24
  with_reducible refine own_callP (by kernel_rfl) ?_
  with_reducible refine own_run (tX25 w M a vm lf n nl dd k A.handled t) [] (factsT w M a vm lf n nl dd k) hK1 hF1 4000 [.new 0] (by kernel_rfl) D24 (by kernel_rfl) ?_
  intro h25 D25
  with_reducible refine own_again (.builtin "super.__getattribute__" ⟨[.ref (M + 111 + 62), .str ⟨#[95,95,105,110,105,116,95,115,117,98,99,108,97,115,115,95,95]⟩ (t + 3)], []⟩) (by kernel_rfl) (by kernel_rfl) ?_
  with_reducible refine own_eq (Builtin.«super.__getattribute__» ⟨[.ref (M + 111 + 62), .str ⟨#[95,95,105,110,105,116,95,115,117,98,99,108,97,115,115,95,95]⟩ (t + 3)], []⟩) (by rw [← den_tree]; kernel_rfl) ?_
  with_reducible refine own_run (tX26 w M a vm lf n nl dd k A.handled t) [] (factsT w M a vm lf n nl dd k) hK1 hF1 4000 [.new 0,.new 0,.new 0,.fact 10] (by kernel_rfl) D25 (by kernel_rfl) ?_
  intro h26 D26
  with_reducible refine own_run (tX27 w M a vm lf n nl dd k A.handled t) [] (factsT w M a vm lf n nl dd k) hK1 hF1 1 [.new 2] (by kernel_rfl) D26 (by kernel_rfl) ?_
  intro h27 D27
  with_reducible refine own_eq (Sem.bind (forIn (List.drop 1 (List.dropWhile (tnD w M a k t).1.1 [.ref (M + 111 + 60), .type "object"])) ((none, ()) : Option PySem.Fin × Unit) (tnD w M a k t).1.2.1) (tnD w M a k t).1.2.2) (by kernel_rfl) ?_
  with_reducible refine st_zoom ?_
  with_reducible refine own_eq (forIn [Value.type "object"] ((none, ()) : Option PySem.Fin × Unit) (tnD w M a k t).1.2.1) (congrArg (fun l : List Value => forIn l ((none, ()) : Option PySem.Fin × Unit) (tnD w M a k t).1.2.1) (dropSelf (Eq.trans (b := (Value.ref (M + 111 + 60) != Value.ref (M + 111 + 60))) (by kernel_rfl) neSelfV))) ?_
  with_reducible refine own_run (tX28 w M a vm lf n nl dd k A.handled t) [] (factsT w M a vm lf n nl dd k) hK1 hF1 4000 [] (by kernel_rfl) D27 (by kernel_rfl) ?_
  intro h28 D28
  with_reducible refine own_callE (.call (.builtin "classmethod_descriptor.__get__") ⟨[.builtin "object.__init_subclass__", ite ((Value.ref (M + 111 + 60) == Value.ref (M + 111 + 60)) = true) .none (.ref (M + 111 + 60)), .ref (M + 111 + 60)], []⟩) (.call (.builtin "classmethod_descriptor.__get__") ⟨[.builtin "object.__init_subclass__", .none, .ref (M + 111 + 60)], []⟩) (congrArg (fun v => Code.call (.builtin "classmethod_descriptor.__get__") ⟨[.builtin "object.__init_subclass__", v, .ref (M + 111 + 60)], []⟩) (if_pos beqSelfV)) (by kernel_rfl) ?_
  refine y_code _ _ _ _ _ _ ?_
  with_reducible refine own_den ?_
  with_reducible refine own_run (tX29 w M a vm lf n nl dd k A.handled t) [] (factsT w M a vm lf n nl dd k) hK1 hF1 4000 [] (by kernel_rfl) D28 (by kernel_rfl) ?_
  intro h29 D29
  with_reducible refine own_againP (by kernel_rfl) (by kernel_rfl) ?_
  with_reducible refine own_run (tX30 w M a vm lf n nl dd k A.handled t) [] (factsT w M a vm lf n nl dd k) hK1 hF1 4000 [.new 2,.new 2] (by kernel_rfl) D29 (by kernel_rfl) ?_
  intro h30 D30
  with_reducible refine own_eq (Sem.pure (PySem.Fin.done (.ret (.ref (M + 111 + 63))))) (by kernel_rfl) ?_
  with_reducible refine st_doneR ?_
  with_reducible refine own_run (tX31 w M a vm lf n nl dd k A.handled t) [] (factsT w M a vm lf n nl dd k) hK1 hF1 4000 [] (by kernel_rfl) D30 (by kernel_rfl) ?_
  intro h31 D31
  with_reducible refine own_pure ((some (PySem.Fin.done (.ret (.ref (M + 111 + 63)))), ()) : Option PySem.Fin × Unit) (by kernel_rfl) ?_
  with_reducible refine own_eq (Sem.pure (PySem.Fin.done (.ret (.ref (M + 111 + 63))))) (by kernel_rfl) ?_
  with_reducible refine st_doneR ?_
  with_reducible refine own_run (tX32 w M a vm lf n nl dd k A.handled t) [] (factsT w M a vm lf n nl dd k) hK1 hF1 4000 [] (by kernel_rfl) D31 (by kernel_rfl) ?_
  intro h32 D32
  with_reducible refine own_callP (by kernel_rfl) ?_
  with_reducible refine own_run (tX33 w M a vm lf n nl dd k A.handled t) [] (factsT w M a vm lf n nl dd k) hK1 hF1 4000 [.new 0,.new 3,.new 3,.new 3,.new 3] (by kernel_rfl) D32 (by kernel_rfl) ?_
  intro h33 D33
  with_reducible refine own_againP (by kernel_rfl) (by kernel_rfl) ?_
  with_reducible refine own_run (tX34 w M a vm lf n nl dd k A.handled t) [] (factsT w M a vm lf n nl dd k) hK1 hF1 4000 [] (by kernel_rfl) D33 (by kernel_rfl) ?_
  intro h34 D34
  with_reducible refine own_eq (Sem.pure (PySem.Fin.done (.ret .none))) (by kernel_rfl) ?_
  with_reducible refine st_doneR ?_
  with_reducible refine own_run (tX35 w M a vm lf n nl dd k A.handled t) [] (factsT w M a vm lf n nl dd k) hK1 hF1 4000 [] (by kernel_rfl) D34 (by kernel_rfl) ?_
  intro h35 D35
  with_reducible refine own_eq (Sem.pure (PySem.Fin.done (.ret (.ref (M + 111 + 60))))) (by kernel_rfl) ?_
  with_reducible refine st_doneR ?_
  with_reducible refine own_run (tX36 w M a vm lf n nl dd k A.handled t) [] (factsT w M a vm lf n nl dd k) hK1 hF1 4000 [.new 3,.new 3] (by kernel_rfl) D35 (by kernel_rfl) ?_
  intro h36 D36
  with_reducible refine own_callP (by kernel_rfl) ?_
  with_reducible refine own_run (tX37 w M a vm lf n nl dd k A.handled t) [] (factsT w M a vm lf n nl dd k) hK1 hF1 4000 [.new 3] (by kernel_rfl) D36 (by kernel_rfl) ?_
  intro h37 D37
  with_reducible refine own_againP (by kernel_rfl) (by kernel_rfl) ?_
  with_reducible refine own_run (tX38 w M a vm lf n nl dd k A.handled t) [] (factsT w M a vm lf n nl dd k) hK1 hF1 4000 [] (by kernel_rfl) D37 (by kernel_rfl) ?_
  intro h38 D38
  with_reducible refine own_eq (Sem.pure (PySem.Fin.done (.ret .none))) (by kernel_rfl) ?_
  with_reducible refine st_doneR ?_
  with_reducible refine own_run (tX39 w M a vm lf n nl dd k A.handled t) [] (factsT w M a vm lf n nl dd k) hK1 hF1 4000 [] (by kernel_rfl) D38 (by kernel_rfl) ?_
  intro h39 D39
  with_reducible refine own_led ⟨[], listT w M a vm lf n nl dd k t, M + 111 + 64, t + 4⟩ (by kernel_rfl) D39 ?_
  intro DZ
  with_reducible refine own_eq (Sem.pure (PySem.Fin.done (.ret (.ref (M + 111 + 60))))) (by kernel_rfl) ?_
  refine st_doneF ?_
  exact hQ _ DZ
noncomputable abbrev fd_K : { x : List PySem.Stmt // ∃ n b k d t s ts bn st p, b_ctk[0]? = some (.ClassDef n b k x d t s ts bn st p) } := ⟨_, _, _, _, _, _, _, _, _, _, _, rfl⟩
noncomputable abbrev b_K : List PySem.Stmt := fd_K.1
noncomputable abbrev fd_ini : { x : PySem.Arguments × List PySem.Stmt × PySem.Scope // ∃ n d r t o q p, b_K[2]? = some (.FunctionDef n x.1 x.2.1 d r t x.2.2 o q p) } := ⟨(_, _, _), _, _, _, _, _, _, _, rfl⟩
noncomputable abbrev a_ini : PySem.Arguments := fd_ini.1.1
noncomputable abbrev b_ini : List PySem.Stmt := fd_ini.1.2.1
noncomputable abbrev s_ini : PySem.Scope := fd_ini.1.2.2
noncomputable abbrev fd_lt : { x : PySem.Arguments × List PySem.Stmt × PySem.Scope // ∃ n d r t o q p, b_K[3]? = some (.FunctionDef n x.1 x.2.1 d r t x.2.2 o q p) } := ⟨(_, _, _), _, _, _, _, _, _, _, rfl⟩
noncomputable abbrev a_lt : PySem.Arguments := fd_lt.1.1
noncomputable abbrev b_lt : List PySem.Stmt := fd_lt.1.2.1
noncomputable abbrev s_lt : PySem.Scope := fd_lt.1.2.2
/-- the class K's own parts, where they lie -/
structure KA where
  K : Addr
  ns : Addr
  mem : Addr
  cell : Addr
  bases : Addr
  slots : Addr
  ini : Addr
  iniC : Addr
  lt : Addr
  ltC : Addr
  gt : Addr
  eq : Addr
  le : Addr
  ge : Addr
  st : Addr
  /-- tuples and tables of the two code records -/
  x : Nat → Addr
  /-- tokens -/
  k : Nat → Tok
noncomputable def sObj : Str := ⟨#[111,98,106]⟩
noncomputable def sK : Str := ⟨#[75]⟩
noncomputable def sKQ : Str := ⟨#[99,109,112,95,116,111,95,107,101,121,46,60,108,111,99,97,108,115,62,46,75]⟩
noncomputable def KA.ents (a : KA) (P : Params) : Array DictEntry := #[⟨PyData.keyHash P ⟨#[95,95,109,111,100,117,108,101,95,95]⟩, .str ⟨#[95,95,109,111,100,117,108,101,95,95]⟩ (a.k 0), .str ⟨#[99,112,121,51,49,51,46,102,117,110,99,116,111,111,108,115]⟩ (a.k 14)⟩, ⟨PyData.keyHash P ⟨#[95,95,102,105,114,115,116,108,105,110,101,110,111,95,95]⟩, .str ⟨#[95,95,102,105,114,115,116,108,105,110,101,110,111,95,95]⟩ (a.k 1), .int 39 (a.k 15)⟩, ⟨PyData.keyHash P ⟨#[95,95,115,108,111,116,115,95,95]⟩, .str ⟨#[95,95,115,108,111,116,115,95,95]⟩ (a.k 2), .ref a.slots⟩, ⟨PyData.keyHash P ⟨#[95,95,105,110,105,116,95,95]⟩, .str ⟨#[95,95,105,110,105,116,95,95]⟩ (a.k 3), .ref a.ini⟩, ⟨PyData.keyHash P ⟨#[95,95,108,116,95,95]⟩, .str ⟨#[95,95,108,116,95,95]⟩ (a.k 4), .ref a.lt⟩, ⟨PyData.keyHash P ⟨#[95,95,103,116,95,95]⟩, .str ⟨#[95,95,103,116,95,95]⟩ (a.k 5), .ref a.gt⟩, ⟨PyData.keyHash P ⟨#[95,95,101,113,95,95]⟩, .str ⟨#[95,95,101,113,95,95]⟩ (a.k 6), .ref a.eq⟩, ⟨PyData.keyHash P ⟨#[95,95,108,101,95,95]⟩, .str ⟨#[95,95,108,101,95,95]⟩ (a.k 7), .ref a.le⟩, ⟨PyData.keyHash P ⟨#[95,95,103,101,95,95]⟩, .str ⟨#[95,95,103,101,95,95]⟩ (a.k 8), .ref a.ge⟩, ⟨PyData.keyHash P ⟨#[95,95,104,97,115,104,95,95]⟩, .str ⟨#[95,95,104,97,115,104,95,95]⟩ (a.k 9), .none⟩, ⟨PyData.keyHash P ⟨#[95,95,115,116,97,116,105,99,95,97,116,116,114,105,98,117,116,101,115,95,95]⟩, .str ⟨#[95,95,115,116,97,116,105,99,95,97,116,116,114,105,98,117,116,101,115,95,95]⟩ (a.k 10), .ref a.st⟩, ⟨PyData.keyHash P ⟨#[111,98,106]⟩, .str ⟨#[111,98,106]⟩ (a.k 11), .ref a.mem⟩, ⟨PyData.keyHash P ⟨#[95,95,100,111,99,95,95]⟩, .str ⟨#[95,95,100,111,99,95,95]⟩ (a.k 12), .none⟩]
noncomputable def KA.nsO (a : KA) (P : Params) : Obj := ⟨.type "dict", none, .dict (a.ents P) 3, #[]⟩
noncomputable def KA.clsO (a : KA) : Obj := ⟨.type "type", none, .cls ⟨sK, [.type "object"], [.ref a.K, .type "object"], a.ns, sKQ, false, [sObj], [], false, none, false⟩, #[some (.ref a.bases), none, some (.str sK (a.k 20)), some (.str sKQ (a.k 21)), some (.builtin "object.__new__"), some (.bool false)]⟩
noncomputable def KA.memO (a : KA) : Obj := ⟨.type "member_descriptor", none, .fields #[.str sObj (a.k 22), .ref a.K, .builtin "proto.slot", .builtin "proto.slot#set", rawInt 0], #[]⟩
noncomputable def KA.cellO (lam : Addr) : Obj := ⟨.type "cell", none, .cell (some (.ref lam)), #[]⟩
noncomputable def KA.iniO (a : KA) : Obj := ⟨.type "function", none, .func { name := Str.ofString "__init__", qualname := Str.ofString "cmp_to_key.<locals>.K.__init__", params := a_ini, body := .stmts b_ini, scope := s_ini, globals := 3, closure := [], defaults := .none, kwdefaults := .none, pyModule := .str (Str.ofString "law_in0014_01") 411, code := .ref a.iniC }, #[]⟩
noncomputable def KA.ltO (a : KA) : Obj := ⟨.type "function", none, .func { name := Str.ofString "__lt__", qualname := Str.ofString "cmp_to_key.<locals>.K.__lt__", params := a_lt, body := .stmts b_lt, scope := s_lt, globals := 3, closure := [(Str.ofString "mycmp", a.cell)], defaults := .none, kwdefaults := .none, pyModule := .str (Str.ofString "law_in0014_01") 411, code := .ref a.ltC, closureTuple := .ref (a.x 5) }, #[]⟩
noncomputable def KA.codeO (n q : Str) (line : Int) (x : Nat → Addr) (t : Nat → Tok) : Obj := ⟨.type "code", none, .fields #[.str n (t 0), .str q (t 1), .str (Str.ofString "/claim/cut.py") (t 2), rawInt line, rawInt 2, rawInt 0, rawInt 0, rawInt 19, .ref (x 0), .bool true, rawInt 181, .ref (x 1), .none, .ref (x 2), .ref (x 3), .ref (x 4), rawInt (t 3), rawInt line, .str (Str.ofString "/claim/cut.py") (t 4)], #[]⟩
noncomputable def KA.iniCO (a : KA) : Obj := KA.codeO (Str.ofString "__init__") (Str.ofString "cmp_to_key.<locals>.K.__init__") 43 (fun i => a.x (10 + i)) (fun i => a.k (30 + i))
noncomputable def KA.ltCO (a : KA) : Obj := KA.codeO (Str.ofString "__lt__") (Str.ofString "cmp_to_key.<locals>.K.__lt__") 46 (fun i => a.x i) (fun i => a.k (40 + i))
/-- the ledger bears K -/
structure KA.In (a : KA) (P : Params) (lam : Addr) (L : List (Addr × Obj)) : Prop where
  cls : (a.K, a.clsO) ∈ L
  nsm : (a.ns, a.nsO P) ∈ L
  mem : (a.mem, a.memO) ∈ L
  cell : (a.cell, KA.cellO lam) ∈ L
  ini : (a.ini, a.iniO) ∈ L
  iniC : (a.iniC, a.iniCO) ∈ L
  lt : (a.lt, a.ltO) ∈ L
  ltC : (a.ltC, a.ltCO) ∈ L
noncomputable abbrev fd_lam : { x : PySem.Arguments × PySem.Expr × PySem.Scope // ∃ (t : List PySem.Expr) (f : PySem.Expr) (p : PySem.Pos) (ks : List PySem.Keyword) (q r : PySem.Pos), b_law[5]? = some (PySem.Stmt.Assign t (PySem.Expr.Call f [PySem.Expr.Lambda x.1 x.2.1 x.2.2 p] ks q) r) } := ⟨(_, _, _), _, _, _, _, _, _, rfl⟩
noncomputable abbrev a_lam : PySem.Arguments := fd_lam.1.1
noncomputable abbrev e_lam : PySem.Expr := fd_lam.1.2.1
noncomputable abbrev s_lam : PySem.Scope := fd_lam.1.2.2
section
open PySem.W.X
noncomputable def cX1 (w : World) (M lam t : Nat) : RS PySem.Fin := RUN w (KX w.params) [] none 4000 [.lit,.lit,.new 0,.new 0] (denote treeTable (.call (.ref 77) ⟨[.ref lam], []⟩)) ⟨[], [], M + 111, t⟩
noncomputable def cX2 (w : World) (M lam t : Nat) : RS PySem.Fin := RUN w (KX w.params) [] none 4000 [] (behindE w (KX w.params) (cX1 w M lam t).t ()) (cX1 w M lam t).st
noncomputable def cX3 (w : World) (M lam t : Nat) : RS PySem.Fin := RUN w (KX w.params) [] none 10 [.lit,.lit,.lit] (denote treeTable (againC (cX2 w M lam t).t)) (cX2 w M lam t).st
noncomputable def cK1 (w : World) (M lam t : Nat) : { F : (Flow → Sem PySem.Fin) × (Value → Sem Unit) × (Flow → Sem Flow) × (Value → Sem Flow) × List Value × (Option Value → Sem Value) × Sem (Option Value) // (cX3 w M lam t).t = Sem.bind (Sem.onRaise (Sem.bind (Sem.bind (Sem.keep F.2.2.2.2.1 (Sem.bind F.2.2.2.2.2.2 F.2.2.2.2.2.1)) F.2.2.2.1) F.2.2.1) F.2.1) F.1 } := ⟨(_, _, _, _, _, _, _), by with_unfolding_all exact rfl⟩
noncomputable def cX4 (w : World) (M lam t : Nat) : RS (Option Value) := RUN w (KX w.params) [] none 4000 [] (cK1 w M lam t).1.2.2.2.2.2.2 (cX3 w M lam t).st
noncomputable def cX5 (w : World) (M lam t : Nat) : RS PySem.Fin := RUN w (KX w.params) [] none 4000 [] (denote treeTable (callC (cX4 w M lam t).t)) (cX4 w M lam t).st
noncomputable def cX6 (w : World) (M lam t : Nat) : RS PySem.Fin := RUN w (KX w.params) [] none 4000 [] (denote treeTable (againC (cX5 w M lam t).t)) (cX5 w M lam t).st
noncomputable def cX7 (w : World) (M lam t : Nat) : RS PySem.Fin := RUN w (KX w.params) [] none 4000 [] (denote treeTable (callC (cX6 w M lam t).t)) (cX6 w M lam t).st
noncomputable def cX8 (w : World) (M lam t : Nat) : RS PySem.Fin := RUN w (KX w.params) [] none 4000 [] (denote treeTable (againC (cX7 w M lam t).t)) (cX7 w M lam t).st
noncomputable def cX9 (w : World) (M lam t : Nat) : RS PySem.Fin := RUN w (KX w.params) [] none 4000 [] (callK (cX6 w M lam t).t (.ok (.ret (.ref (M + 111 + 3))))) (cX8 w M lam t).st
noncomputable def cX10 (w : World) (M lam t : Nat) : RS (Option Value) := RUN w (KX w.params) [] none 4000 [] (callK (cX4 w M lam t).t (.ok (.ret (.ref (M + 111 + 3))))) (cX9 w M lam t).st
noncomputable def cK2 (w : World) (M lam t : Nat) : { F : Sem Value × (Value → Sem Value) // ((cK1 w M lam t).1.2.2.2.2.2.1 (some (.ref (M + 111 + 3)))) = Sem.bind F.1 F.2 } := ⟨(_, _), by with_unfolding_all exact rfl⟩
noncomputable def cX11 (w : World) (M lam t : Nat) : RS Value := RUN w (KX w.params) [] none 4000 [] (cK2 w M lam t).1.1 (cX10 w M lam t).st
noncomputable def cX12 (w : World) (M lam t : Nat) : RS PySem.Fin := RUN w (KX w.params) [] none 4000 [.new 0] (denote treeTable (callC (cX11 w M lam t).t)) (cX11 w M lam t).st
noncomputable def cX13 (w : World) (M lam t : Nat) : RS PySem.Fin := RUN w (KX w.params) [] none 4000 [] (denote treeTable (againC (cX12 w M lam t).t)) (cX12 w M lam t).st
noncomputable def cX14 (w : World) (M lam t : Nat) : RS Value := RUN w (KX w.params) [] none 4000 [] (callK (cX11 w M lam t).t (.ok (.ret (.ref (M + 111 + 4))))) (cX13 w M lam t).st
noncomputable def cX15 (w : World) (M lam t : Nat) : RS Value := RUN w (KX w.params) [] none 4000 [.new 0,.lit,.lit,.lit] ((cK2 w M lam t).1.2 (.ref (M + 111 + 4))) ⟨[], ((M + 111 + 4), (⟨.type "dict", none, .dict #[] 0, #[]⟩ : Obj)) :: (cX14 w M lam t).st.news.drop 1, M + 111 + 5, (cX14 w M lam t).st.tk⟩
noncomputable def cX16 (w : World) (M lam t : Nat) : RS Value := RUN w (KX w.params) [] none 4 [.chg 0,.lit,.lit,.lit] (updK (cX15 w M lam t).t ()) ⟨(72, PySem.W.X.tableObj (#[] ++ #[rawInt 39, rawInt 4, .ref (M + 111 + 7)])) :: (cX15 w M lam t).st.chg, (cX15 w M lam t).st.news, (cX15 w M lam t).st.nxt, (cX15 w M lam t).st.tk⟩
noncomputable def cK3 (w : World) (M lam t : Nat) : { F : List Value × Sem Addr × (Addr → Sem Value) // (cX16 w M lam t).t = Sem.keep F.1 (Sem.bind F.2.1 F.2.2) } := ⟨(_, _, _), by with_unfolding_all exact rfl⟩
noncomputable def cX17 (w : World) (M lam t : Nat) : RS Addr := RUN w (KX w.params) [] none 4000 [] (cK3 w M lam t).1.2.1 (cX16 w M lam t).st
noncomputable def cK4 (w : World) (M lam t : Nat) : { F : Sem (List (Str × Addr)) × (List (Str × Addr) → Sem Value) // ((cK3 w M lam t).1.2.2 (M + 111 + 8)) = Sem.bind F.1 F.2 } := ⟨(_, _), by with_unfolding_all exact rfl⟩
noncomputable def cX18 (w : World) (M lam t : Nat) : RS (List (Str × Addr)) := RUN w (KX w.params) [] none 4000 [] (cK4 w M lam t).1.1 (cX17 w M lam t).st
noncomputable def cK5 (w : World) (M lam t : Nat) : { F : List Value × (Unit → Sem Value) // ((cK4 w M lam t).1.2 [(Str.ofString "mycmp", M + 111 + 1)]) = Sem.keep F.1 (Sem.bind enterFrame F.2) } := ⟨(_, _), by with_unfolding_all exact rfl⟩
noncomputable def cX19 (w : World) (M lam t : Nat) : RS Value := RUN w (KX w.params) [] none 4000 [.new 4,.new 4,.lit,.new 4,.new 4,.new 4,.new 4,.new 4,.new 4,.new 4,.new 4,.new 4] ((cK5 w M lam t).1.2 ()) (cX18 w M lam t).st
noncomputable def cX20 (w : World) (M lam t : Nat) : RS PySem.Fin := RUN w (KX w.params) [] none 4000 [.new 4,.new 4,.new 4,.new 5,.new 5,.new 5,.new 2,.new 3,.new 9,.new 9,.new 9,.lit,.lit,.lit,.new 12,.new 12,.new 12,.new 10,.new 11,.new 17,.new 17,.new 17,.lit,.lit,.lit,.new 20,.new 20,.new 20,.new 18,.new 19,.new 25,.new 25,.new 25,.lit,.lit,.lit,.new 28,.new 28,.new 28,.new 26,.new 27,.new 33,.new 33,.new 33,.lit,.lit,.lit,.new 36,.new 36,.new 36,.new 34,.new 35,.new 41,.new 41,.new 41,.lit,.lit,.lit,.new 44,.new 44,.new 44,.new 42,.new 43,.new 49,.new 49,.new 49,.lit,.lit,.lit,.new 52,.new 52,.new 52,.new 52,.new 52,.new 52] (denote treeTable (callC (cX19 w M lam t).t)) (cX19 w M lam t).st
noncomputable def cX21 (w : World) (M lam t : Nat) : RS Value := RUN w (KX w.params) [] none 4000 [.new 53,.new 53,.new 53] (callK (cX19 w M lam t).t (.ok .next)) (cX20 w M lam t).st
noncomputable def cFA (w : World) (M lam t : Nat) : Nat → Nat := (fun i => ([(M + 111 + 2), (M + 111 + 9), (M + 111 + 16), (M + 111 + 24), (M + 111 + 32), (M + 111 + 40), (M + 111 + 48), (M + 111 + 56), (M + 111 + 57)] : List Addr).getD i 0)
noncomputable def cFD (w : World) (M lam t : Nat) : Nat → Data := (fun i => ([.plain, .plain, dataAt (cX21 w M lam t).st.news 41, dataAt (cX21 w M lam t).st.news 33, dataAt (cX21 w M lam t).st.news 25, dataAt (cX21 w M lam t).st.news 17, dataAt (cX21 w M lam t).st.news 9, dataAt (cX21 w M lam t).st.news 1, dataAt (cX21 w M lam t).st.news 0] : List Data).getD i .plain)
noncomputable def cFK (w : World) (M lam t : Nat) : Nat → Tok := (fun i => ([t + 8, t + 10, t + 12, t + 16, t + 24, t + 33, t + 42, t + 51, t + 60, t + 69, t + 70, t + 72, t + 13, t + 9, t + 11, t + 15, t] : List Tok).getD i 0)
noncomputable def cX22 (w : World) (M lam t : Nat) : RS Value := RUN w (KX w.params) [] none 4000 [] (callK (cX21 w M lam t).t (.ok (.ret (.ref (M + 111 + 60))))) ⟨(cX21 w M lam t).st.chg, listT w M (cFA w M lam t) ⟨#[99,112,121,51,49,51,46,102,117,110,99,116,111,111,108,115]⟩ 39 12 0 (cFD w M lam t) (cFK w M lam t) (t + 73) ++ (cX21 w M lam t).st.news, M + 111 + 64, t + 77⟩
noncomputable def cX23 (w : World) (M lam t : Nat) : RS Flow := RUN w (KX w.params) [] none 4000 [.new 63,.new 63] ((cK1 w M lam t).1.2.2.2.1 (.ref (M + 111 + 60))) (cX22 w M lam t).st
noncomputable def cX24 (w : World) (M lam t : Nat) : RS Flow := RUN w (KX w.params) [] none 4000 [.new 63] ((cK1 w M lam t).1.2.2.1 Flow.next) (cX23 w M lam t).st
noncomputable def cX25 (w : World) (M lam t : Nat) : RS PySem.Fin := RUN w (KX w.params) [] none 4000 [] ((cK1 w M lam t).1.1 (Flow.ret (.ref (M + 111 + 60)))) (cX24 w M lam t).st
end
open PySem.W.X in
theorem ctk_call {w : World} {L0 lam : Addr} {hp : Heap} {g : Array GenState} {d : Drawn} {t : Nat} {os : OsState} {E : Value → Shared → Prop} {Q : Value → Shared → Prop} (X1 : (KX w.params : Frag).In hp)
  (hQ : ∀ (a : KA) (L : List (Addr × Obj)) (c1 : Addr) (h' : Heap) (tk : Nat), Mem hp h' [(72, tableObj #[rawInt 39, rawInt 4, .ref c1])] L → a.In w.params lam L → Q (.ref a.K) ⟨h', g, d, tk, os⟩)
  : wpAny (model PySem.Challenge.rw_in0014_01.row.prog w) (lawA L0) (call (.ref 77) [.ref lam]) Q E ⟨hp, g, d, t, os⟩ := by
  have hK1 : ∀ a o, List.lookup a (KX w.params) = some o → hp.get? a = some o := X1
  have noF1 : ∀ p ∈ ([] : List (Addr × Obj)), hp.get? p.1 = some p.2 := fun _ h => nomatch h
  obtain ⟨M, S0⟩ : ∃ M, hp.objs.size = M + 111 := ⟨hp.objs.size - 111, by have : 110 < hp.objs.size := Heap.lt_size (X1 110 _ rfl); omega⟩
  have f0 := X1 0 _ rfl
  have f1 := X1 1 _ rfl
  have f2 := X1 2 _ rfl
  have f3 := X1 3 _ rfl
  have f4 := X1 4 _ rfl
  have fS := X1 cStatics _ rfl
  have f72 := X1 72 _ rfl
  have f76 := X1 76 _ rfl
  have f77 := X1 77 _ rfl
  have D0 : MemX hp hp ⟨[], [], M + 111, t⟩ := ⟨Mem.start hp, S0⟩
  show wpAny _ _ (Sem.call _ _ _ _ _) _ _ _
  refine y_start _ _ _ _ _ _ _ _ _ _ _ _ (by intro h; cases h) ?_
  refine y_code _ _ _ _ _ _ ?_
  with_reducible refine own_den ?_
  with_reducible refine own_run (cX1 w M lam t) (KX w.params) [] hK1 noF1 4000 [.lit,.lit,.new 0,.new 0] (by kernel_rfl) D0 (by kernel_rfl) ?_
  intro h1 D1
  with_reducible refine own_enterT (KX w.params) (by kernel_rfl) (nolim (Mem.old D1.mem _ _ fS (by kernel_rfl)) rfl) (of_decide_eq_true (by kernel_rfl)) ?_
  with_reducible refine own_run (cX2 w M lam t) (KX w.params) [] hK1 noF1 4000 [] (by kernel_rfl) D1 (by kernel_rfl) ?_
  intro h2 D2
  with_reducible refine own_againP (by kernel_rfl) (by kernel_rfl) ?_
  with_reducible refine own_run (cX3 w M lam t) (KX w.params) [] hK1 noF1 10 [.lit,.lit,.lit] (by kernel_rfl) D2 (by kernel_rfl) ?_
  intro h3 D3
  with_reducible refine own_eq (Sem.bind (Sem.onRaise (Sem.bind (Sem.bind (Sem.keep (cK1 w M lam t).1.2.2.2.2.1 (Sem.bind (cK1 w M lam t).1.2.2.2.2.2.2 (cK1 w M lam t).1.2.2.2.2.2.1)) (cK1 w M lam t).1.2.2.2.1) (cK1 w M lam t).1.2.2.1) (cK1 w M lam t).1.2.1) (cK1 w M lam t).1.1) (cK1 w M lam t).2 ?_
  with_reducible refine st_zoom ?_
  with_reducible refine st_onRaise ?_
  with_reducible refine st_zoom ?_
  with_reducible refine st_zoom ?_
  with_reducible refine st_keep ?_
  with_reducible refine st_zoom ?_
  with_reducible refine own_run (cX4 w M lam t) (KX w.params) [] hK1 noF1 4000 [] (by kernel_rfl) D3 (by kernel_rfl) ?_
  intro h4 D4
  with_reducible refine own_callP (by kernel_rfl) ?_
  with_reducible refine own_run (cX5 w M lam t) (KX w.params) [] hK1 noF1 4000 [] (by kernel_rfl) D4 (by kernel_rfl) ?_
  intro h5 D5
  with_reducible refine own_againP (by kernel_rfl) (by kernel_rfl) ?_
  with_reducible refine own_run (cX6 w M lam t) (KX w.params) [] hK1 noF1 4000 [] (by kernel_rfl) D5 (by kernel_rfl) ?_
  intro h6 D6
  with_reducible refine own_callP (by kernel_rfl) ?_
  with_reducible refine own_run (cX7 w M lam t) (KX w.params) [] hK1 noF1 4000 [] (by kernel_rfl) D6 (by kernel_rfl) ?_
  intro h7 D7
  with_reducible refine own_againP (by kernel_rfl) (by kernel_rfl) ?_
  with_reducible refine own_run (cX8 w M lam t) (KX w.params) [] hK1 noF1 4000 [] (by kernel_rfl) D7 (by kernel_rfl) ?_
  intro h8 D8
  with_reducible refine own_eq (Sem.pure (PySem.Fin.done (.ret (.ref (M + 111 + 3))))) (by kernel_rfl) ?_
  with_reducible refine st_doneR ?_
  with_reducible refine own_run (cX9 w M lam t) (KX w.params) [] hK1 noF1 4000 [] (by kernel_rfl) D8 (by kernel_rfl) ?_
  intro h9 D9
  with_reducible refine own_eq (Sem.pure (PySem.Fin.done (.ret (.ref (M + 111 + 3))))) (by kernel_rfl) ?_
  with_reducible refine st_doneR ?_
  with_reducible refine own_run (cX10 w M lam t) (KX w.params) [] hK1 noF1 4000 [] (by kernel_rfl) D9 (by kernel_rfl) ?_
  intro h10 D10
  with_reducible refine own_pure (some (.ref (M + 111 + 3))) (by kernel_rfl) ?_
  with_reducible refine own_eq (Sem.bind (cK2 w M lam t).1.1 (cK2 w M lam t).1.2) (cK2 w M lam t).2 ?_
  with_reducible refine st_zoom ?_
  with_reducible refine own_run (cX11 w M lam t) (KX w.params) [] hK1 noF1 4000 [] (by kernel_rfl) D10 (by kernel_rfl) ?_
  intro h11 D11
  with_reducible refine own_callP (by kernel_rfl) ?_
  with_reducible refine own_run (cX12 w M lam t) (KX w.params) [] hK1 noF1 4000 [.new 0] (by kernel_rfl) D11 (by kernel_rfl) ?_
  intro h12 D12
  with_reducible refine own_againP (by kernel_rfl) (by kernel_rfl) ?_
  with_reducible refine own_run (cX13 w M lam t) (KX w.params) [] hK1 noF1 4000 [] (by kernel_rfl) D12 (by kernel_rfl) ?_
  intro h13 D13
  with_reducible refine own_eq (Sem.pure (PySem.Fin.done (.ret (.ref (M + 111 + 4))))) (by kernel_rfl) ?_
  with_reducible refine st_doneR ?_
  with_reducible refine own_run (cX14 w M lam t) (KX w.params) [] hK1 noF1 4000 [] (by kernel_rfl) D13 (by kernel_rfl) ?_
  intro h14 D14
  with_reducible refine own_pure (.ref (M + 111 + 4)) (by kernel_rfl) ?_
  with_reducible refine own_led ⟨[], ((M + 111 + 4), (⟨.type "dict", none, .dict #[] 0, #[]⟩ : Obj)) :: (cX14 w M lam t).st.news.drop 1, M + 111 + 5, (cX14 w M lam t).st.tk⟩ (by kernel_rfl) D14 ?_
  intro DL
  with_reducible refine own_run (cX15 w M lam t) (KX w.params) [] hK1 noF1 4000 [.new 0,.lit,.lit,.lit] (by kernel_rfl) DL (by kernel_rfl) ?_
  intro h15 D15
  with_reducible refine own_growX #[rawInt 39, rawInt 4, .ref (M + 111 + 7)] D15 (table_at f76 rfl rfl f72 rfl) (by kernel_rfl) (by kernel_rfl) (by kernel_rfl) ?_
  intro hgr Dgr
  with_reducible refine own_run (st := ⟨(72, PySem.W.X.tableObj (#[] ++ #[rawInt 39, rawInt 4, .ref (M + 111 + 7)])) :: (cX15 w M lam t).st.chg, (cX15 w M lam t).st.news, (cX15 w M lam t).st.nxt, (cX15 w M lam t).st.tk⟩) (cX16 w M lam t) (KX w.params) [] hK1 noF1 4 [.chg 0,.lit,.lit,.lit] (by kernel_rfl) Dgr (by kernel_rfl) ?_
  intro h16 D16
  with_reducible refine own_eq (Sem.keep (cK3 w M lam t).1.1 (Sem.bind (cK3 w M lam t).1.2.1 (cK3 w M lam t).1.2.2)) (cK3 w M lam t).2 ?_
  with_reducible refine st_keep ?_
  with_reducible refine st_zoom ?_
  with_reducible refine own_run (cX17 w M lam t) (KX w.params) [] hK1 noF1 4000 [] (by kernel_rfl) D16 (by kernel_rfl) ?_
  intro h17 D17
  with_reducible refine own_pure (M + 111 + 8) (by kernel_rfl) ?_
  with_reducible refine own_eq (Sem.bind (cK4 w M lam t).1.1 (cK4 w M lam t).1.2) (cK4 w M lam t).2 ?_
  with_reducible refine st_zoom ?_
  with_reducible refine own_run (cX18 w M lam t) (KX w.params) [] hK1 noF1 4000 [] (by kernel_rfl) D17 (by kernel_rfl) ?_
  intro h18 D18
  with_reducible refine own_pure ([(Str.ofString "mycmp", M + 111 + 1)]) (by kernel_rfl) ?_
  with_reducible refine own_eq (Sem.keep (cK5 w M lam t).1.1 (Sem.bind enterFrame (cK5 w M lam t).1.2)) (cK5 w M lam t).2 ?_
  with_reducible refine st_keep ?_
  with_reducible refine own_enter (cK5 w M lam t).1.2 rfl (nolim (Mem.old D18.mem _ _ fS (by kernel_rfl)) rfl) (of_decide_eq_true (by kernel_rfl)) ?_
  with_reducible refine own_run (cX19 w M lam t) (KX w.params) [] hK1 noF1 4000 [.new 4,.new 4,.lit,.new 4,.new 4,.new 4,.new 4,.new 4,.new 4,.new 4,.new 4,.new 4] (by kernel_rfl) D18 (by kernel_rfl) ?_
  intro h19 D19
  with_reducible refine own_callP (by kernel_rfl) ?_
  with_reducible refine own_run (cX20 w M lam t) (KX w.params) [] hK1 noF1 4000 [.new 4,.new 4,.new 4,.new 5,.new 5,.new 5,.new 2,.new 3,.new 9,.new 9,.new 9,.lit,.lit,.lit,.new 12,.new 12,.new 12,.new 10,.new 11,.new 17,.new 17,.new 17,.lit,.lit,.lit,.new 20,.new 20,.new 20,.new 18,.new 19,.new 25,.new 25,.new 25,.lit,.lit,.lit,.new 28,.new 28,.new 28,.new 26,.new 27,.new 33,.new 33,.new 33,.lit,.lit,.lit,.new 36,.new 36,.new 36,.new 34,.new 35,.new 41,.new 41,.new 41,.lit,.lit,.lit,.new 44,.new 44,.new 44,.new 42,.new 43,.new 49,.new 49,.new 49,.lit,.lit,.lit,.new 52,.new 52,.new 52,.new 52,.new 52,.new 52] (by kernel_rfl) D19 (by kernel_rfl) ?_
  intro h20 D20
  with_reducible refine own_eq (Sem.pure (PySem.Fin.done .next)) (by kernel_rfl) ?_
  with_reducible refine st_doneR ?_
  with_reducible refine own_run (cX21 w M lam t) (KX w.params) [] hK1 noF1 4000 [.new 53,.new 53,.new 53] (by kernel_rfl) D20 (by kernel_rfl) ?_
  intro h21 D21
  with_reducible refine own_led ⟨(cX21 w M lam t).st.chg, (cX21 w M lam t).st.news, M + 111 + 58, t + 73⟩ (by kernel_rfl) D21 ?_
  intro DT
  with_reducible refine own_call (.call (.type "type") ⟨[.str ⟨#[75]⟩ t, .ref (M + 111 + 2), .ref (M + 111 + 4)], []⟩) (by kernel_rfl) ?_
  refine tn_new (w := w) (M := M) (a := cFA w M lam t) (vm := ⟨#[99,112,121,51,49,51,46,102,117,110,99,116,111,111,108,115]⟩) (lf := 39) (n := 12) (nl := 0) (dd := cFD w M lam t) (k := cFK w M lam t) (t := t + 73) (facts_of (L := (cX21 w M lam t).st.news) (fun p hp => (DT.mem.nw p hp).1) [55, 53, 48, 41, 33, 25, 17, 9, 1, 0] (G := [(cStatics, ({ cls := Value.none, data := Data.dict #[] } : Obj))]) (by kernel_rfl) ?_) DT.size ?_
  · intro p hp
    cases List.mem_singleton.mp hp
    exact Mem.old DT.mem _ _ fS (by kernel_rfl)
  intro hF DF1
  have DF : MemX hp hF ⟨(cX21 w M lam t).st.chg, listT w M (cFA w M lam t) ⟨#[99,112,121,51,49,51,46,102,117,110,99,116,111,111,108,115]⟩ 39 12 0 (cFD w M lam t) (cFK w M lam t) (t + 73) ++ (cX21 w M lam t).st.news, M + 111 + 64, t + 77⟩ := ⟨mem_comp DT.mem DF1.mem (by rw [DT.size]; simp [listT]), DF1.size⟩
  with_reducible refine own_ret ?_
  with_reducible refine own_run (cX22 w M lam t) (KX w.params) [] hK1 noF1 4000 [] (by kernel_rfl) DF (by kernel_rfl) ?_
  intro h22 D22
  with_reducible refine own_pure (.ref (M + 111 + 60)) (by kernel_rfl) ?_
  with_reducible refine own_run (cX23 w M lam t) (KX w.params) [] hK1 noF1 4000 [.new 63,.new 63] (by kernel_rfl) D22 (by kernel_rfl) ?_
  intro h23 D23
  with_reducible refine own_pure Flow.next (by kernel_rfl) ?_
  with_reducible refine own_run (cX24 w M lam t) (KX w.params) [] hK1 noF1 4000 [.new 63] (by kernel_rfl) D23 (by kernel_rfl) ?_
  intro h24 D24
  with_reducible refine own_pure (Flow.ret (.ref (M + 111 + 60))) (by kernel_rfl) ?_
  with_reducible refine own_run (cX25 w M lam t) (KX w.params) [] hK1 noF1 4000 [] (by kernel_rfl) D24 (by kernel_rfl) ?_
  intro h25 D25
  with_reducible refine own_eq (Sem.pure (PySem.Fin.done (.ret (.ref (M + 111 + 60))))) (by kernel_rfl) ?_
  refine st_doneA rfl ?_
  have D80 := memCastC (chg' := [(72, tableObj #[rawInt 39, rawInt 4, .ref (M + 111 + 7)])]) D25.mem (by kernel_rfl)
  refine hQ { K := (M + 111 + 60), ns := (M + 111 + 59), mem := (M + 111 + 61), cell := (M + 111 + 1), bases := (M + 111 + 2), slots := (M + 111 + 9), ini := (M + 111 + 16), iniC := (M + 111 + 15), lt := (M + 111 + 24), ltC := (M + 111 + 23), gt := (M + 111 + 32), eq := (M + 111 + 40), le := (M + 111 + 48), ge := (M + 111 + 56), st := (M + 111 + 57), x := fun i => match i with | 0 => (M + 111 + 18) | 1 => (M + 111 + 19) | 2 => (M + 111 + 20) | 3 => (M + 111 + 21) | 4 => (M + 111 + 22) | 5 => (M + 111 + 17) | 10 => (M + 111 + 10) | 11 => (M + 111 + 11) | 12 => (M + 111 + 12) | 13 => (M + 111 + 13) | 14 => (M + 111 + 14) | _ => 0, k := fun i => match i with | 0 => t+8 | 1 => t+12 | 2 => t+16 | 3 => t+24 | 4 => t+33 | 5 => t+42 | 6 => t+51 | 7 => t+60 | 8 => t+69 | 9 => t+70 | 10 => t+72 | 11 => t + 73 + 1 | 12 => t + 73 + 2 | 14 => t+13 | 15 => t+11 | 20 => t | 21 => t+9 | 22 => t + 73 | 30 => t+17 | 31 => t+18 | 32 => t+19 | 33 => t+22 | 34 => t+23 | 40 => t+25 | 41 => t+26 | 42 => t+27 | 43 => t+31 | 44 => t+32 | _ => 0 } _ _ _ _ D80 ⟨memIdx D80 3 (by kernel_rfl), memIdx D80 4 (by kernel_rfl), memIdx D80 2 (by kernel_rfl), memIdx D80 62 (by kernel_rfl), memIdx D80 47 (by kernel_rfl), memIdx D80 48 (by kernel_rfl), memIdx D80 39 (by kernel_rfl), memIdx D80 40 (by kernel_rfl)⟩
noncomputable def KY (P : Params) : Frag := K1 P ++ K0 P
structure KNewQ (hp : Heap) (aK item : Addr) (g : Array GenState) (d : Drawn) (os : OsState) (Q : Value → Shared → Prop) : Prop where
  go : ∀ (o dd : Addr) (od : Obj) (L : List (Addr × Obj)) (h' : Heap) (tk : Nat), PySem.W.X.Mem hp h' [] L → (o, ({ cls := .ref aK, dict := some dd, slots := #[some (.ref item)] } : Obj)) ∈ L → (dd, od) ∈ L → Q (.ref o) ⟨h', g, d, tk, os⟩
noncomputable def factsK (w : World) (aK aN aM aB aS aI aIc aL aG aE aLe aGe aT : Addr) (x : Nat → Addr) (k : Nat → Tok) : List (Addr × Obj) := [(aK, (⟨.type "type", none, .cls ⟨⟨#[75]⟩, [.type "object"], [.ref aK, .type "object"], aN, ⟨#[99,109,112,95,116,111,95,107,101,121,46,60,108,111,99,97,108,115,62,46,75]⟩, false, [⟨#[111,98,106]⟩], [], false, none, false⟩, #[some (.ref aB), none, some (.str ⟨#[75]⟩ (k 20)), some (.str ⟨#[99,109,112,95,116,111,95,107,101,121,46,60,108,111,99,97,108,115,62,46,75]⟩ (k 21)), some (.builtin "object.__new__"), some (.bool false)]⟩ : Obj)), (aN, (⟨.type "dict", none, .dict #[⟨PyData.keyHash w.params ⟨#[95,95,109,111,100,117,108,101,95,95]⟩, .str ⟨#[95,95,109,111,100,117,108,101,95,95]⟩ (k 0), .str ⟨#[99,112,121,51,49,51,46,102,117,110,99,116,111,111,108,115]⟩ (k 14)⟩, ⟨PyData.keyHash w.params ⟨#[95,95,102,105,114,115,116,108,105,110,101,110,111,95,95]⟩, .str ⟨#[95,95,102,105,114,115,116,108,105,110,101,110,111,95,95]⟩ (k 1), .int 39 (k 15)⟩, ⟨PyData.keyHash w.params ⟨#[95,95,115,108,111,116,115,95,95]⟩, .str ⟨#[95,95,115,108,111,116,115,95,95]⟩ (k 2), .ref aS⟩, ⟨PyData.keyHash w.params ⟨#[95,95,105,110,105,116,95,95]⟩, .str ⟨#[95,95,105,110,105,116,95,95]⟩ (k 3), .ref aI⟩, ⟨PyData.keyHash w.params ⟨#[95,95,108,116,95,95]⟩, .str ⟨#[95,95,108,116,95,95]⟩ (k 4), .ref aL⟩, ⟨PyData.keyHash w.params ⟨#[95,95,103,116,95,95]⟩, .str ⟨#[95,95,103,116,95,95]⟩ (k 5), .ref aG⟩, ⟨PyData.keyHash w.params ⟨#[95,95,101,113,95,95]⟩, .str ⟨#[95,95,101,113,95,95]⟩ (k 6), .ref aE⟩, ⟨PyData.keyHash w.params ⟨#[95,95,108,101,95,95]⟩, .str ⟨#[95,95,108,101,95,95]⟩ (k 7), .ref aLe⟩, ⟨PyData.keyHash w.params ⟨#[95,95,103,101,95,95]⟩, .str ⟨#[95,95,103,101,95,95]⟩ (k 8), .ref aGe⟩, ⟨PyData.keyHash w.params ⟨#[95,95,104,97,115,104,95,95]⟩, .str ⟨#[95,95,104,97,115,104,95,95]⟩ (k 9), .none⟩, ⟨PyData.keyHash w.params ⟨#[95,95,115,116,97,116,105,99,95,97,116,116,114,105,98,117,116,101,115,95,95]⟩, .str ⟨#[95,95,115,116,97,116,105,99,95,97,116,116,114,105,98,117,116,101,115,95,95]⟩ (k 10), .ref aT⟩, ⟨PyData.keyHash w.params ⟨#[111,98,106]⟩, .str ⟨#[111,98,106]⟩ (k 11), .ref aM⟩, ⟨PyData.keyHash w.params ⟨#[95,95,100,111,99,95,95]⟩, .str ⟨#[95,95,100,111,99,95,95]⟩ (k 12), .none⟩] 3, #[]⟩ : Obj)), (aM, (⟨.type "member_descriptor", none, .fields #[.str ⟨#[111,98,106]⟩ (k 22), .ref aK, .builtin "proto.slot", .builtin "proto.slot#set", rawInt 0], #[]⟩ : Obj)), (aI, (⟨.type "function", none, .func { name := Str.ofString "__init__", qualname := Str.ofString "cmp_to_key.<locals>.K.__init__", params := a_ini, body := .stmts b_ini, scope := s_ini, globals := 3, closure := [], defaults := .none, kwdefaults := .none, pyModule := .str (Str.ofString "law_in0014_01") 411, code := .ref aIc }, #[]⟩ : Obj)), (aIc, (⟨.type "code", none, .fields #[.str (Str.ofString "__init__") (k 30), .str (Str.ofString "cmp_to_key.<locals>.K.__init__") (k 31), .str (Str.ofString "/claim/cut.py") (k 32), rawInt 43, rawInt 2, rawInt 0, rawInt 0, rawInt 19, .ref (x 10), .bool true, rawInt 181, .ref (x 11), .none, .ref (x 12), .ref (x 13), .ref (x 14), rawInt (k 33), rawInt 43, .str (Str.ofString "/claim/cut.py") (k 34)], #[]⟩ : Obj))]
section
open PySem.Builtin
noncomputable def kX1 (w : World) (aK aN aM aB aS aI aIc aL aG aE aLe aGe aT : Addr) (x : Nat → Addr) (k : Nat → Tok) (item M t : Nat) : RS PySem.Fin := RUN w (KY w.params) (factsK w aK aN aM aB aS aI aIc aL aG aE aLe aGe aT x k) none 4000 [.fact 0,.fact 0] (denote treeTable (.call (.ref aK) ⟨[.ref item], []⟩)) ⟨[], [], M + 111, t⟩
noncomputable def kX2 (w : World) (aK aN aM aB aS aI aIc aL aG aE aLe aGe aT : Addr) (x : Nat → Addr) (k : Nat → Tok) (item M t : Nat) : RS PySem.Fin := RUN w (KY w.params) (factsK w aK aN aM aB aS aI aIc aL aG aE aLe aGe aT x k) none 4000 [.fact 0] (denote treeTable (.call (.builtin "type.__call__") ⟨[.ref aK, .ref item], []⟩)) (kX1 w aK aN aM aB aS aI aIc aL aG aE aLe aGe aT x k item M t).st
noncomputable def kX3 (w : World) (aK aN aM aB aS aI aIc aL aG aE aLe aGe aT : Addr) (x : Nat → Addr) (k : Nat → Tok) (item M t : Nat) : RS (List Value) := RUN w (KY w.params) (factsK w aK aN aM aB aS aI aIc aL aG aE aLe aGe aT x k) none 4000 [.fact 0] (mroOf (.ref aK)) (kX2 w aK aN aM aB aS aI aIc aL aG aE aLe aGe aT x k item M t).st
noncomputable def kX4 (w : World) (aK aN aM aB aS aI aIc aL aG aE aLe aGe aT : Addr) (x : Nat → Addr) (k : Nat → Tok) (item M t : Nat) : RS (Option String) := RUN w (KY w.params) (factsK w aK aN aM aB aS aI aIc aL aG aE aLe aGe aT x k) none 4000 [.fact 0,.fact 0] (Bind.madeBy (.ref aK)) (kX3 w aK aN aM aB aS aI aIc aL aG aE aLe aGe aT x k item M t).st
noncomputable def kX5 (w : World) (aK aN aM aB aS aI aIc aL aG aE aLe aGe aT : Addr) (x : Nat → Addr) (k : Nat → Tok) (item M t : Nat) : RS Value := RUN w (KY w.params) (factsK w aK aN aM aB aS aI aIc aL aG aE aLe aGe aT x k) none 4000 [] (holding [.builtin "object.__new__"] (call (.builtin "object.__new__") [.ref aK, .ref item] [])) (kX4 w aK aN aM aB aS aI aIc aL aG aE aLe aGe aT x k item M t).st
noncomputable def kX6 (w : World) (aK aN aM aB aS aI aIc aL aG aE aLe aGe aT : Addr) (x : Nat → Addr) (k : Nat → Tok) (item M t : Nat) : RS PySem.Fin := RUN w (KY w.params) (factsK w aK aN aM aB aS aI aIc aL aG aE aLe aGe aT x k) none 4000 [.fact 0,.fact 0,.fact 0,.fact 0,.fact 0,.fact 0,.fact 0] (denote treeTable (callC (kX5 w aK aN aM aB aS aI aIc aL aG aE aLe aGe aT x k item M t).t)) (kX5 w aK aN aM aB aS aI aIc aL aG aE aLe aGe aT x k item M t).st
noncomputable def kX7 (w : World) (aK aN aM aB aS aI aIc aL aG aE aLe aGe aT : Addr) (x : Nat → Addr) (k : Nat → Tok) (item M t : Nat) : RS PySem.Fin := RUN w (KY w.params) (factsK w aK aN aM aB aS aI aIc aL aG aE aLe aGe aT x k) none 4000 [.fact 0,.fact 0,.fact 0,.fact 0,.fact 0,.fact 0,.fact 0,.fact 0,.fact 0,.fact 0,.fact 1,.fact 0,.fact 0] (denote treeTable (againC (kX6 w aK aN aM aB aS aI aIc aL aG aE aLe aGe aT x k item M t).t)) (kX6 w aK aN aM aB aS aI aIc aL aG aE aLe aGe aT x k item M t).st
noncomputable def kX8 (w : World) (aK aN aM aB aS aI aIc aL aG aE aLe aGe aT : Addr) (x : Nat → Addr) (k : Nat → Tok) (item M t : Nat) : RS Value := RUN w (KY w.params) (factsK w aK aN aM aB aS aI aIc aL aG aE aLe aGe aT x k) none 4000 [] (callK (kX5 w aK aN aM aB aS aI aIc aL aG aE aLe aGe aT x k item M t).t (.ok (.ret (.ref (M + 111 + 1))))) (kX7 w aK aN aM aB aS aI aIc aL aG aE aLe aGe aT x k item M t).st
noncomputable def kX9 (w : World) (aK aN aM aB aS aI aIc aL aG aE aLe aGe aT : Addr) (x : Nat → Addr) (k : Nat → Tok) (item M t : Nat) : RS Bool := RUN w (KY w.params) (factsK w aK aN aM aB aS aI aIc aL aG aE aLe aGe aT x k) none 4000 [.new 0,.fact 0] (isInstance (.ref (M + 111 + 1)) (.ref aK)) (kX8 w aK aN aM aB aS aI aIc aL aG aE aLe aGe aT x k item M t).st
noncomputable def kX10 (w : World) (aK aN aM aB aS aI aIc aL aG aE aLe aGe aT : Addr) (x : Nat → Addr) (k : Nat → Tok) (item M t : Nat) : RS (Option Value) := RUN w (KY w.params) (factsK w aK aN aM aB aS aI aIc aL aG aE aLe aGe aT x k) none 4000 [.new 0,.fact 0,.fact 0,.fact 1,.fact 3] (holding [(.ref (M + 111 + 1))] (callSpecial? (.ref (M + 111 + 1)) "__init__" [.ref item] [])) (kX9 w aK aN aM aB aS aI aIc aL aG aE aLe aGe aT x k item M t).st
noncomputable def kX11 (w : World) (aK aN aM aB aS aI aIc aL aG aE aLe aGe aT : Addr) (x : Nat → Addr) (k : Nat → Tok) (item M t : Nat) : RS PySem.Fin := RUN w (KY w.params) (factsK w aK aN aM aB aS aI aIc aL aG aE aLe aGe aT x k) none 4000 [.fact 3,.fact 4,.new 0,.new 0,.new 0,.new 0] (denote treeTable (.call (.ref aI) ⟨[(.ref (M + 111 + 1)), .ref item], []⟩)) (kX10 w aK aN aM aB aS aI aIc aL aG aE aLe aGe aT x k item M t).st
noncomputable def kX12 (w : World) (aK aN aM aB aS aI aIc aL aG aE aLe aGe aT : Addr) (x : Nat → Addr) (k : Nat → Tok) (item M t : Nat) : RS PySem.Fin := RUN w (KY w.params) (factsK w aK aN aM aB aS aI aIc aL aG aE aLe aGe aT x k) none 4000 [] (behindE w (KY w.params) (kX11 w aK aN aM aB aS aI aIc aL aG aE aLe aGe aT x k item M t).t ()) (kX11 w aK aN aM aB aS aI aIc aL aG aE aLe aGe aT x k item M t).st
noncomputable def kX13 (w : World) (aK aN aM aB aS aI aIc aL aG aE aLe aGe aT : Addr) (x : Nat → Addr) (k : Nat → Tok) (item M t : Nat) : RS PySem.Fin := RUN w (KY w.params) (factsK w aK aN aM aB aS aI aIc aL aG aE aLe aGe aT x k) none 4000 [.new 0,.new 0,.new 1,.fact 0,.fact 0,.fact 1] (denote treeTable (againC (kX12 w aK aN aM aB aS aI aIc aL aG aE aLe aGe aT x k item M t).t)) (kX12 w aK aN aM aB aS aI aIc aL aG aE aLe aGe aT x k item M t).st
noncomputable def kX14 (w : World) (aK aN aM aB aS aI aIc aL aG aE aLe aGe aT : Addr) (x : Nat → Addr) (k : Nat → Tok) (item M t : Nat) : RS PySem.Fin := RUN w (KY w.params) (factsK w aK aN aM aB aS aI aIc aL aG aE aLe aGe aT x k) none 4000 [.new 1,.fact 0] (denote treeTable (callC (kX13 w aK aN aM aB aS aI aIc aL aG aE aLe aGe aT x k item M t).t)) (kX13 w aK aN aM aB aS aI aIc aL aG aE aLe aGe aT x k item M t).st
noncomputable def kX15 (w : World) (aK aN aM aB aS aI aIc aL aG aE aLe aGe aT : Addr) (x : Nat → Addr) (k : Nat → Tok) (item M t : Nat) : RS PySem.Fin := RUN w (KY w.params) (factsK w aK aN aM aB aS aI aIc aL aG aE aLe aGe aT x k) none 4000 [.new 1,.fact 0,.new 1,.fact 0,.fact 0,.fact 1,.fact 2,.fact 2] (denote treeTable (againC (kX14 w aK aN aM aB aS aI aIc aL aG aE aLe aGe aT x k item M t).t)) (kX14 w aK aN aM aB aS aI aIc aL aG aE aLe aGe aT x k item M t).st
noncomputable def kX16 (w : World) (aK aN aM aB aS aI aIc aL aG aE aLe aGe aT : Addr) (x : Nat → Addr) (k : Nat → Tok) (item M t : Nat) : RS PySem.Fin := RUN w (KY w.params) (factsK w aK aN aM aB aS aI aIc aL aG aE aLe aGe aT x k) none 4000 [.fact 2] (denote treeTable (callC (kX15 w aK aN aM aB aS aI aIc aL aG aE aLe aGe aT x k item M t).t)) (kX15 w aK aN aM aB aS aI aIc aL aG aE aLe aGe aT x k item M t).st
noncomputable def kX20 (w : World) (aK aN aM aB aS aI aIc aL aG aE aLe aGe aT : Addr) (x : Nat → Addr) (k : Nat → Tok) (item M t : Nat) : RS PySem.Fin := RUN w (KY w.params) (factsK w aK aN aM aB aS aI aIc aL aG aE aLe aGe aT x k) none 4000 [.fact 2,.fact 2,.new 1,.fact 0,.new 1] (denote treeTable (.builtin "proto.slot#set" ⟨[(.ref (M + 111 + 1)), .ref item, .ref aM], []⟩)) (kX16 w aK aN aM aB aS aI aIc aL aG aE aLe aGe aT x k item M t).st
noncomputable def kX21 (w : World) (aK aN aM aB aS aI aIc aL aG aE aLe aGe aT : Addr) (x : Nat → Addr) (k : Nat → Tok) (item M t : Nat) : RS PySem.Fin := RUN w (KY w.params) (factsK w aK aN aM aB aS aI aIc aL aG aE aLe aGe aT x k) none 4000 [] (callK (kX15 w aK aN aM aB aS aI aIc aL aG aE aLe aGe aT x k item M t).t (.ok (.ret .none))) (kX20 w aK aN aM aB aS aI aIc aL aG aE aLe aGe aT x k item M t).st
noncomputable def kX22 (w : World) (aK aN aM aB aS aI aIc aL aG aE aLe aGe aT : Addr) (x : Nat → Addr) (k : Nat → Tok) (item M t : Nat) : RS PySem.Fin := RUN w (KY w.params) (factsK w aK aN aM aB aS aI aIc aL aG aE aLe aGe aT x k) none 4000 [] (callK (kX13 w aK aN aM aB aS aI aIc aL aG aE aLe aGe aT x k item M t).t (.ok (.ret .none))) (kX21 w aK aN aM aB aS aI aIc aL aG aE aLe aGe aT x k item M t).st
noncomputable def kX23 (w : World) (aK aN aM aB aS aI aIc aL aG aE aLe aGe aT : Addr) (x : Nat → Addr) (k : Nat → Tok) (item M t : Nat) : RS (Option Value) := RUN w (KY w.params) (factsK w aK aN aM aB aS aI aIc aL aG aE aLe aGe aT x k) none 4000 [] (callK (kX10 w aK aN aM aB aS aI aIc aL aG aE aLe aGe aT x k item M t).t (.ok (.ret .none))) (kX22 w aK aN aM aB aS aI aIc aL aG aE aLe aGe aT x k item M t).st
end
open PySem.W.X PySem.Builtin in
theorem k_new {w : World} {L0 : Addr} {hp : Heap} {g : Array GenState} {d : Drawn} {t : Nat} {os : OsState} {E : Value → Shared → Prop} {Q : Value → Shared → Prop} {aK aN aM aB aS aI aIc aL aG aE aLe aGe aT item : Addr} {x : Nat → Addr} {k : Nat → Tok}
  (Y : (KY w.params : Frag).In hp)
  (fK : hp.get? aK = some (⟨.type "type", none, .cls ⟨⟨#[75]⟩, [.type "object"], [.ref aK, .type "object"], aN, ⟨#[99,109,112,95,116,111,95,107,101,121,46,60,108,111,99,97,108,115,62,46,75]⟩, false, [⟨#[111,98,106]⟩], [], false, none, false⟩, #[some (.ref aB), none, some (.str ⟨#[75]⟩ (k 20)), some (.str ⟨#[99,109,112,95,116,111,95,107,101,121,46,60,108,111,99,97,108,115,62,46,75]⟩ (k 21)), some (.builtin "object.__new__"), some (.bool false)]⟩ : Obj))
  (fN : hp.get? aN = some (⟨.type "dict", none, .dict #[⟨PyData.keyHash w.params ⟨#[95,95,109,111,100,117,108,101,95,95]⟩, .str ⟨#[95,95,109,111,100,117,108,101,95,95]⟩ (k 0), .str ⟨#[99,112,121,51,49,51,46,102,117,110,99,116,111,111,108,115]⟩ (k 14)⟩, ⟨PyData.keyHash w.params ⟨#[95,95,102,105,114,115,116,108,105,110,101,110,111,95,95]⟩, .str ⟨#[95,95,102,105,114,115,116,108,105,110,101,110,111,95,95]⟩ (k 1), .int 39 (k 15)⟩, ⟨PyData.keyHash w.params ⟨#[95,95,115,108,111,116,115,95,95]⟩, .str ⟨#[95,95,115,108,111,116,115,95,95]⟩ (k 2), .ref aS⟩, ⟨PyData.keyHash w.params ⟨#[95,95,105,110,105,116,95,95]⟩, .str ⟨#[95,95,105,110,105,116,95,95]⟩ (k 3), .ref aI⟩, ⟨PyData.keyHash w.params ⟨#[95,95,108,116,95,95]⟩, .str ⟨#[95,95,108,116,95,95]⟩ (k 4), .ref aL⟩, ⟨PyData.keyHash w.params ⟨#[95,95,103,116,95,95]⟩, .str ⟨#[95,95,103,116,95,95]⟩ (k 5), .ref aG⟩, ⟨PyData.keyHash w.params ⟨#[95,95,101,113,95,95]⟩, .str ⟨#[95,95,101,113,95,95]⟩ (k 6), .ref aE⟩, ⟨PyData.keyHash w.params ⟨#[95,95,108,101,95,95]⟩, .str ⟨#[95,95,108,101,95,95]⟩ (k 7), .ref aLe⟩, ⟨PyData.keyHash w.params ⟨#[95,95,103,101,95,95]⟩, .str ⟨#[95,95,103,101,95,95]⟩ (k 8), .ref aGe⟩, ⟨PyData.keyHash w.params ⟨#[95,95,104,97,115,104,95,95]⟩, .str ⟨#[95,95,104,97,115,104,95,95]⟩ (k 9), .none⟩, ⟨PyData.keyHash w.params ⟨#[95,95,115,116,97,116,105,99,95,97,116,116,114,105,98,117,116,101,115,95,95]⟩, .str ⟨#[95,95,115,116,97,116,105,99,95,97,116,116,114,105,98,117,116,101,115,95,95]⟩ (k 10), .ref aT⟩, ⟨PyData.keyHash w.params ⟨#[111,98,106]⟩, .str ⟨#[111,98,106]⟩ (k 11), .ref aM⟩, ⟨PyData.keyHash w.params ⟨#[95,95,100,111,99,95,95]⟩, .str ⟨#[95,95,100,111,99,95,95]⟩ (k 12), .none⟩] 3, #[]⟩ : Obj))
  (fM : hp.get? aM = some (⟨.type "member_descriptor", none, .fields #[.str ⟨#[111,98,106]⟩ (k 22), .ref aK, .builtin "proto.slot", .builtin "proto.slot#set", rawInt 0], #[]⟩ : Obj))
  (fI : hp.get? aI = some (⟨.type "function", none, .func { name := Str.ofString "__init__", qualname := Str.ofString "cmp_to_key.<locals>.K.__init__", params := a_ini, body := .stmts b_ini, scope := s_ini, globals := 3, closure := [], defaults := .none, kwdefaults := .none, pyModule := .str (Str.ofString "law_in0014_01") 411, code := .ref aIc }, #[]⟩ : Obj))
  (fIc : hp.get? aIc = some (⟨.type "code", none, .fields #[.str (Str.ofString "__init__") (k 30), .str (Str.ofString "cmp_to_key.<locals>.K.__init__") (k 31), .str (Str.ofString "/claim/cut.py") (k 32), rawInt 43, rawInt 2, rawInt 0, rawInt 0, rawInt 19, .ref (x 10), .bool true, rawInt 181, .ref (x 11), .none, .ref (x 12), .ref (x 13), .ref (x 14), rawInt (k 33), rawInt 43, .str (Str.ofString "/claim/cut.py") (k 34)], #[]⟩ : Obj))
  (hQ : KNewQ hp aK item g d os Q)
  : wpAny (model PySem.Challenge.rw_in0014_01.row.prog w) (lawA L0).in1.in1 (call (.ref aK) [.ref item]) Q E ⟨hp, g, d, t, os⟩ := by
  have hK1 : ∀ a o, List.lookup a (KY w.params) = some o → hp.get? a = some o := Y
  have hF1 : ∀ p ∈ factsK w aK aN aM aB aS aI aIc aL aG aE aLe aGe aT x k, hp.get? p.1 = some p.2 := by
    intro p hp
    unfold factsK at hp
    simp only [List.mem_cons, List.not_mem_nil, or_false] at hp
    rcases hp with rfl | rfl | rfl | rfl | rfl
    · exact fK
    · exact fN
    · exact fM
    · exact fI
    · exact fIc
  obtain ⟨M, S0⟩ : ∃ M, hp.objs.size = M + 111 := ⟨hp.objs.size - 111, by have : 110 < hp.objs.size := Heap.lt_size (Y 110 _ rfl); omega⟩
  have fS := Y cStatics _ rfl
  have D0 : MemX hp hp ⟨[], [], M + 111, t⟩ := ⟨Mem.start hp, S0⟩
  show wpAny _ _ (Sem.call _ _ _ _ _) _ _ _
  refine y_start _ _ _ _ _ _ _ _ _ _ _ _ (by intro h; cases h) ?_
  refine y_code _ _ _ _ _ _ ?_
  with_reducible refine own_den ?_
  with_reducible refine own_run (kX1 w aK aN aM aB aS aI aIc aL aG aE aLe aGe aT x k item M t) (KY w.params) (factsK w aK aN aM aB aS aI aIc aL aG aE aLe aGe aT x k) hK1 hF1 4000 [.fact 0,.fact 0] (by kernel_rfl) D0 (by kernel_rfl) ?_
  intro h1 D1
  with_reducible refine own_again (.call (.builtin "type.__call__") ⟨[.ref aK, .ref item], []⟩) (by kernel_rfl) (by kernel_rfl) ?_
  with_reducible refine own_den ?_
  with_reducible refine own_run (kX2 w aK aN aM aB aS aI aIc aL aG aE aLe aGe aT x k item M t) (KY w.params) (factsK w aK aN aM aB aS aI aIc aL aG aE aLe aGe aT x k) hK1 hF1 4000 [.fact 0] (by kernel_rfl) D1 (by kernel_rfl) ?_
  intro h2 D2
  with_reducible refine own_again (.builtin "type.__call__" ⟨[.ref aK, .ref item], []⟩) (by kernel_rfl) (by kernel_rfl) ?_
  with_reducible refine own_eq (Builtin.«type.__call__» ⟨[.ref aK, .ref item], []⟩) den_tc ?_
  unfold Builtin.«type.__call__»
  dsimp only
  refine st_ifF (by exact Bool.false_ne_true) ?_
  with_reducible refine st_zoomI ?_
  with_reducible refine own_run (kX3 w aK aN aM aB aS aI aIc aL aG aE aLe aGe aT x k item M t) (KY w.params) (factsK w aK aN aM aB aS aI aIc aL aG aE aLe aGe aT x k) hK1 hF1 4000 [.fact 0] (by kernel_rfl) D2 (by kernel_rfl) ?_
  intro h3 D3
  with_reducible refine own_pure [.ref aK, .type "object"] (by kernel_rfl) ?_
  refine st_ifF (by exact Bool.false_ne_true) ?_
  with_reducible refine st_zoomI ?_
  with_reducible refine own_run (kX4 w aK aN aM aB aS aI aIc aL aG aE aLe aGe aT x k item M t) (KY w.params) (factsK w aK aN aM aB aS aI aIc aL aG aE aLe aGe aT x k) hK1 hF1 4000 [.fact 0,.fact 0] (by kernel_rfl) D3 (by kernel_rfl) ?_
  intro h4 D4
  with_reducible refine own_pure (some "object.__new__") (by kernel_rfl) ?_
  dsimp only
  with_reducible refine st_zoomI ?_
  with_reducible refine own_pure (.builtin "object.__new__") (by kernel_rfl) ?_
  with_reducible refine st_zoomI ?_
  with_reducible refine own_run (kX5 w aK aN aM aB aS aI aIc aL aG aE aLe aGe aT x k item M t) (KY w.params) (factsK w aK aN aM aB aS aI aIc aL aG aE aLe aGe aT x k) hK1 hF1 4000 [] (by kernel_rfl) D4 (by kernel_rfl) ?_
  intro h5 D5
  with_reducible refine own_callP (by kernel_rfl) ?_
  with_reducible refine own_run (kX6 w aK aN aM aB aS aI aIc aL aG aE aLe aGe aT x k item M t) (KY w.params) (factsK w aK aN aM aB aS aI aIc aL aG aE aLe aGe aT x k) hK1 hF1 4000 [.fact 0,.fact 0,.fact 0,.fact 0,.fact 0,.fact 0,.fact 0] (by kernel_rfl) D5 (by kernel_rfl) ?_
  intro h6 D6
  with_reducible refine own_againP (by kernel_rfl) (by kernel_rfl) ?_
  with_reducible refine own_run (kX7 w aK aN aM aB aS aI aIc aL aG aE aLe aGe aT x k item M t) (KY w.params) (factsK w aK aN aM aB aS aI aIc aL aG aE aLe aGe aT x k) hK1 hF1 4000 [.fact 0,.fact 0,.fact 0,.fact 0,.fact 0,.fact 0,.fact 0,.fact 0,.fact 0,.fact 0,.fact 1,.fact 0,.fact 0] (by kernel_rfl) D6 (by kernel_rfl) ?_
  intro h7 D7
  with_reducible refine own_eq (Sem.pure (PySem.Fin.done (.ret (.ref (M + 111 + 1))))) (by kernel_rfl) ?_
  with_reducible refine st_doneR ?_
  with_reducible refine own_run (kX8 w aK aN aM aB aS aI aIc aL aG aE aLe aGe aT x k item M t) (KY w.params) (factsK w aK aN aM aB aS aI aIc aL aG aE aLe aGe aT x k) hK1 hF1 4000 [] (by kernel_rfl) D7 (by kernel_rfl) ?_
  intro h8 D8
  with_reducible refine own_pure (.ref (M + 111 + 1)) (by kernel_rfl) ?_
  with_reducible refine st_zoomI ?_
  with_reducible refine own_run (kX9 w aK aN aM aB aS aI aIc aL aG aE aLe aGe aT x k item M t) (KY w.params) (factsK w aK aN aM aB aS aI aIc aL aG aE aLe aGe aT x k) hK1 hF1 4000 [.new 0,.fact 0] (by kernel_rfl) D8 (by kernel_rfl) ?_
  intro h9 D9
  with_reducible refine own_pure true (Eq.trans (b := Sem.pure (List.contains [Value.ref aK, Value.type "object"] (Value.ref aK))) (by kernel_rfl) (congrArg Sem.pure contHead)) ?_
  refine st_ifF (by exact Bool.false_ne_true) ?_
  with_reducible refine st_zoomI ?_
  with_reducible refine own_run (kX10 w aK aN aM aB aS aI aIc aL aG aE aLe aGe aT x k item M t) (KY w.params) (factsK w aK aN aM aB aS aI aIc aL aG aE aLe aGe aT x k) hK1 hF1 4000 [.new 0,.fact 0,.fact 0,.fact 1,.fact 3] (by kernel_rfl) D9 (by kernel_rfl) ?_
  intro h10 D10
  with_reducible refine own_call (.call (.ref aI) ⟨[(.ref (M + 111 + 1)), .ref item], []⟩) (by kernel_rfl) ?_
  refine y_code _ _ _ _ _ _ ?_
  with_reducible refine own_den ?_
  with_reducible refine own_run (kX11 w aK aN aM aB aS aI aIc aL aG aE aLe aGe aT x k item M t) (KY w.params) (factsK w aK aN aM aB aS aI aIc aL aG aE aLe aGe aT x k) hK1 hF1 4000 [.fact 3,.fact 4,.new 0,.new 0,.new 0,.new 0] (by kernel_rfl) D10 (by kernel_rfl) ?_
  intro h11 D11
  with_reducible refine own_enterT (KY w.params) (by kernel_rfl) (nolim (Mem.old D11.mem _ _ fS (by kernel_rfl)) rfl) (of_decide_eq_true (by kernel_rfl)) ?_
  with_reducible refine own_run (kX12 w aK aN aM aB aS aI aIc aL aG aE aLe aGe aT x k item M t) (KY w.params) (factsK w aK aN aM aB aS aI aIc aL aG aE aLe aGe aT x k) hK1 hF1 4000 [] (by kernel_rfl) D11 (by kernel_rfl) ?_
  intro h12 D12
  with_reducible refine own_againP (by kernel_rfl) (by kernel_rfl) ?_
  with_reducible refine own_run (kX13 w aK aN aM aB aS aI aIc aL aG aE aLe aGe aT x k item M t) (KY w.params) (factsK w aK aN aM aB aS aI aIc aL aG aE aLe aGe aT x k) hK1 hF1 4000 [.new 0,.new 0,.new 1,.fact 0,.fact 0,.fact 1] (by kernel_rfl) D12 (by kernel_rfl) ?_
  intro h13 D13
  with_reducible refine own_callP (by kernel_rfl) ?_
  with_reducible refine own_run (kX14 w aK aN aM aB aS aI aIc aL aG aE aLe aGe aT x k item M t) (KY w.params) (factsK w aK aN aM aB aS aI aIc aL aG aE aLe aGe aT x k) hK1 hF1 4000 [.new 1,.fact 0] (by kernel_rfl) D13 (by kernel_rfl) ?_
  intro h14 D14
  with_reducible refine own_againP (by kernel_rfl) (by kernel_rfl) ?_
  with_reducible refine own_run (kX15 w aK aN aM aB aS aI aIc aL aG aE aLe aGe aT x k item M t) (KY w.params) (factsK w aK aN aM aB aS aI aIc aL aG aE aLe aGe aT x k) hK1 hF1 4000 [.new 1,.fact 0,.new 1,.fact 0,.fact 0,.fact 1,.fact 2,.fact 2] (by kernel_rfl) D14 (by kernel_rfl) ?_
  intro h15 D15
  with_reducible refine own_callP (by kernel_rfl) ?_
  with_reducible refine own_run (kX16 w aK aN aM aB aS aI aIc aL aG aE aLe aGe aT x k item M t) (KY w.params) (factsK w aK aN aM aB aS aI aIc aL aG aE aLe aGe aT x k) hK1 hF1 4000 [.fact 2] (by kernel_rfl) D15 (by kernel_rfl) ?_
  intro h16 D16
  with_reducible refine own_again (.builtin "member_descriptor.__set__" ⟨[.ref aM, (.ref (M + 111 + 1)), .ref item], []⟩) (by kernel_rfl) (by kernel_rfl) ?_
  with_reducible refine own_eq (Builtin.«member_descriptor.__set__» ⟨[.ref aM, (.ref (M + 111 + 1)), .ref item], []⟩) den_ms ?_
  unfold Builtin.«member_descriptor.__set__» Getset_descriptor.descrSet
  dsimp only
  refine st_ifF (by exact Bool.false_ne_true) ?_
  unfold Getset_descriptor.descrStoreThrough
  dsimp only
  with_reducible refine st_zoomI ?_
  unfold Getset_descriptor.descrCheckInstance
  with_reducible refine st_zoomI ?_
  with_reducible refine own_run _ (KY w.params) (factsK w aK aN aM aB aS aI aIc aL aG aE aLe aGe aT x k) hK1 hF1 4000 [.fact 2,.fact 2] rfl D16 (by kernel_rfl) ?_
  intro hi Di
  with_reducible refine own_led (kX16 w aK aN aM aB aS aI aIc aL aG aE aLe aGe aT x k item M t).st (by kernel_rfl) Di ?_
  intro D17
  with_reducible refine own_pure (⟨#[111,98,106]⟩, .ref aK) (by kernel_rfl) ?_
  dsimp only
  with_reducible refine st_zoomI ?_
  with_reducible refine own_run _ (KY w.params) (factsK w aK aN aM aB aS aI aIc aL aG aE aLe aGe aT x k) hK1 hF1 4000 [.new 1,.fact 0] rfl D17 (by kernel_rfl) ?_
  intro hi Di
  with_reducible refine own_led (kX16 w aK aN aM aB aS aI aIc aL aG aE aLe aGe aT x k item M t).st (by kernel_rfl) Di ?_
  intro D18
  with_reducible refine own_pure true (Eq.trans (b := Sem.pure (List.contains [Value.ref aK, Value.type "object"] (Value.ref aK))) (by kernel_rfl) (congrArg Sem.pure contHead)) ?_
  refine st_ifF (by exact Bool.false_ne_true) ?_
  with_reducible refine own_pure () (by kernel_rfl) ?_
  with_reducible refine own_run _ (KY w.params) (factsK w aK aN aM aB aS aI aIc aL aG aE aLe aGe aT x k) hK1 hF1 4000 [.fact 2,.fact 2] rfl D18 (by kernel_rfl) ?_
  intro hi Di
  with_reducible refine own_led (kX16 w aK aN aM aB aS aI aIc aL aG aE aLe aGe aT x k item M t).st (by kernel_rfl) Di ?_
  intro D19
  with_reducible refine own_again (.builtin "proto.slot#set" ⟨[(.ref (M + 111 + 1)), .ref item, .ref aM], []⟩) (by kernel_rfl) (by kernel_rfl) ?_
  with_reducible refine own_den ?_
  with_reducible refine own_run (kX20 w aK aN aM aB aS aI aIc aL aG aE aLe aGe aT x k item M t) (KY w.params) (factsK w aK aN aM aB aS aI aIc aL aG aE aLe aGe aT x k) hK1 hF1 4000 [.fact 2,.fact 2,.new 1,.fact 0,.new 1] (by kernel_rfl) D19 (by kernel_rfl) ?_
  intro h20 D20
  with_reducible refine own_eq (Sem.pure (PySem.Fin.done (.ret .none))) (by kernel_rfl) ?_
  with_reducible refine st_doneR ?_
  with_reducible refine own_run (kX21 w aK aN aM aB aS aI aIc aL aG aE aLe aGe aT x k item M t) (KY w.params) (factsK w aK aN aM aB aS aI aIc aL aG aE aLe aGe aT x k) hK1 hF1 4000 [] (by kernel_rfl) D20 (by kernel_rfl) ?_
  intro h21 D21
  with_reducible refine own_eq (Sem.pure (PySem.Fin.done (.ret .none))) (by kernel_rfl) ?_
  with_reducible refine st_doneR ?_
  with_reducible refine own_run (kX22 w aK aN aM aB aS aI aIc aL aG aE aLe aGe aT x k item M t) (KY w.params) (factsK w aK aN aM aB aS aI aIc aL aG aE aLe aGe aT x k) hK1 hF1 4000 [] (by kernel_rfl) D21 (by kernel_rfl) ?_
  intro h22 D22
  with_reducible refine own_eq (Sem.pure (PySem.Fin.done (.ret .none))) (by kernel_rfl) ?_
  with_reducible refine st_doneR ?_
  with_reducible refine own_run (kX23 w aK aN aM aB aS aI aIc aL aG aE aLe aGe aT x k item M t) (KY w.params) (factsK w aK aN aM aB aS aI aIc aL aG aE aLe aGe aT x k) hK1 hF1 4000 [] (by kernel_rfl) D22 (by kernel_rfl) ?_
  intro h23 D23
  with_reducible refine own_pure (some .none) (by kernel_rfl) ?_
  dsimp only
  refine st_ifF (by exact Bool.false_ne_true) ?_
  with_reducible refine own_eq (Sem.pure (PySem.Fin.done (.ret (.ref (M + 111 + 1))))) (by kernel_rfl) ?_
  refine st_doneA rfl ?_
  have DZ := memCastC (chg' := []) D23.mem (by kernel_rfl)
  have m1 := memIdx (p := ((M + 111 + 1), ({ cls := .ref aK, dict := some (M + 111), slots := #[some (.ref item)] } : Obj))) DZ 1 (by kernel_rfl)
  have m2 := memObj DZ (M + 111) 2 (by kernel_rfl)
  exact hQ.go _ _ _ _ _ _ DZ m1 m2
section
local macro_rules | `(tactic| walk_at $s:str) => `(tactic| k_extra $s)
theorem rs_S5 : True := by w_top off; k_with_none; trivial
theorem rk_S5_mac1_8 : True := by
  k_with "subscriptTail" => (k_here; (with_reducible show wpAny _ _ (subscriptTail _ _ (Value.ref _) (Value.int (-1) _)) _ _ _); (k_dflt (refine' item_neg1 (by k_asm) (by k_mem) ?_ (by with_unfolding_all rfl))); k_whole)
  trivial
section
variable {prog : Program} {w : World} {A : Around} {E : Value → Shared → Prop} {s : Shared} {h₀ : Heap} {L a : Addr} {news : List (Addr × Obj)} {Q : Value → Shared → Prop} {value slice : PySem.Expr} {xs : List Value} {v : Value} {n k : Nat}
theorem at_lst {u : Tok} {d : Option Addr} {sl : Array (Option Value)} (N : News h₀ L s.heap news) (hm : (a, ({ cls := .type "list", dict := d, data := .seq xs.toArray n, slots := sl } : Obj)) ∈ news) (hk : (k : Int) < 2 ^ 63) (hx : xs[k]? = some v) (h : Q v s)
    (hs : subscripted slice false (.ref a) (.int k u) = operate [.ref a, .int k u] (getItem (.ref a) (.int k u))) :
    wpAny (model prog w) A (subscriptTail value slice (.ref a) (.int k u)) Q E s :=
  tail_any (News.isList N hm).typeIs slot_list_getitem.lookup (wpAny_getItem_list (News.isList N hm) (by omega) hk (by simpa using hx) h) hs
theorem at_tup {u : Tok} {d : Option Addr} {sl : Array (Option Value)} (N : News h₀ L s.heap news) (hm : (a, ({ cls := .type "tuple", dict := d, data := .seq xs.toArray n, slots := sl } : Obj)) ∈ news) (hk : (k : Int) < 2 ^ 63) (hj : seqIndex? k xs.length = some k) (hx : xs[k]? = some v) (h : Q v s)
    (hs : subscripted slice false (.ref a) (.int k u) = operate [.ref a, .int k u] (getItem (.ref a) (.int k u))) :
    wpAny (model prog w) A (subscriptTail value slice (.ref a) (.int k u)) Q E s :=
  item_tupleT (News.isTup N hm) (by omega) hk hj hx h hs
end
theorem rk_S5_mac10_3 : True := by
  k_with "subscriptTail" => (k_here; (with_reducible show wpAny _ _ (subscriptTail _ _ (Value.ref _) (Value.int 0 _)) _ _ _); (first | (refine at_lst (k := 0) (by k_asm) (by with_reducible assumption) (by decide) rfl ?_ (by with_unfolding_all rfl)) | (refine at_tup (k := 0) (by k_asm) (by with_reducible assumption) (by decide) (by decide) rfl ?_ (by with_unfolding_all rfl))); k_whole)
  k_with "subscriptTail" => (k_here; (with_reducible show wpAny _ _ (subscriptTail _ _ (Value.ref _) (Value.int 1 _)) _ _ _); (first | (refine at_lst (k := 1) (by k_asm) (by with_reducible assumption) (by decide) rfl ?_ (by with_unfolding_all rfl)) | (refine at_tup (k := 1) (by k_asm) (by with_reducible assumption) (by decide) (by decide) rfl ?_ (by with_unfolding_all rfl))); k_whole)
  k_with "eval Name" => (k_here; name_kind "free"; k_dflt (refine' nameX_F (by k_asm) (by rfl) (by with_reducible assumption) (by first | exact rfl | with_reducible assumption) ?_ (by rfl) (by rfl); k_whole))
  trivial
section
variable {w : World} {A₀ : Around} {base g : Heap} {outer : List Env} {L0 L : Addr} {m mg mb : Str → Option Value} {p : Program} {loose : List Str} {mean : ExcName → Option Value} {news : List (Addr × Obj)} {s : Shared}
  {E : Value → Shared → Prop}
noncomputable abbrev lamEnv (q : Str) (L f c' cW : Addr) : Env := envX q s_lam L f (.ref c') [(Str.ofString "wide", cW)]
theorem lam_body {Q : Value → Shared → Prop} {q : Str} {f c' cW i1 i2 w1 w2 : Addr} {a1 b1 a2 b2 wide n1 n2 : Int} {ta1 tb1 ta2 tb2 tw tn1 tn2 ts1 ts2 : Tok} {s1 s2 : Str} {m1 m2 m3 m4 : Nat}
  {oW : Obj} (hWd : oW.data = .cell (some (.int wide tw))) (hW : (cW, oW) ∈ news)
  (hi1 : (i1, (⟨.type "tuple", none, .seq [.ref w1, .str s1 ts1, .int n1 tn1].toArray m1, #[]⟩ : Obj)) ∈ news)
  (hi2 : (i2, (⟨.type "tuple", none, .seq [.ref w2, .str s2 ts2, .int n2 tn2].toArray m2, #[]⟩ : Obj)) ∈ news)
  (hw1 : (w1, (⟨.type "list", none, .seq [.int a1 ta1, .int b1 tb1].toArray m3, #[]⟩ : Obj)) ∈ news)
  (hw2 : (w2, (⟨.type "list", none, .seq [.int a2 ta2, .int b2 tb2].toArray m4, #[]⟩ : Obj)) ∈ news)
  (ha1 : 0 ≤ a1) (ha1' : a1 ≤ 1000) (ha2 : 0 ≤ a2) (ha2' : a2 ≤ 1000) (hb1 : 0 ≤ b1) (hb1' : b1 ≤ 1000) (hb2 : 0 ≤ b2) (hb2' : b2 ≤ 1000) (hv1 : 0 ≤ wide) (hv2 : wide ≤ 1000)
  (hp1 : -1000000 ≤ (a1 - a2) * wide) (hp2 : (a1 - a2) * wide ≤ 1000000)
  (B : Below A₀ base outer g) (F : Fr g L s.heap (fun y => [(Str.ofString "one", Value.ref i1), (Str.ofString "other", Value.ref i2)].reverse.lookup y)) (X : (K0 w.params).In g) (N : News g L s.heap news) (T : Top p loose mean mg mb g)
  (hQ : ∀ h' tk m' t, Fr g L h' m' → News g L h' news → Q (.int ((a1 - a2) * wide + b1 - b2) t) { s with heap := h', toks := tk })
  : wpAny (model PySem.Challenge.rw_in0014_01.row.prog w) (A₀.deeper (lamEnv q L f c' cW)) (eval e_lam (lamEnv q L f c' cW)) Q E s := by
  revert X; k_fill; intro X
  obtain ⟨hh, gg, dd, tt, oo⟩ := s
  dsimp only at F N
  repeat' (first | (k_unfold; (try dsimp only)) | ((try dsimp only); walk1))
  all_goals exact hQ _ _ _ _ F N
end
end
/-- a small fragment that holds the class K's own parts -/
structure KF (a : KA) (P : Params) (K : Frag) : Prop where
  k : K.lookup a.K = some a.clsO
  n : K.lookup a.ns = some (a.nsO P)
  m : K.lookup a.mem = some a.memO
  l : K.lookup a.lt = some a.ltO
theorem KF.make {a : KA} {P : Params} {h : Heap} (h1 : h.get? a.K = some a.clsO) (h2 : h.get? a.ns = some (a.nsO P)) (h3 : h.get? a.mem = some a.memO) (h4 : h.get? a.lt = some a.ltO) : ∃ K : Frag, KF a P K ∧ K.In h := by
  have d : ∀ {x y : Addr} {o o' : Obj} {m n : String}, h.get? x = some o → h.get? y = some o' → o.cls = .type m → o'.cls = .type n → n ≠ m → (y == x) = false := fun {x y o o' m n} e1 e2 c1 c2 z => beq_false_of_ne fun q => by
    rw [q, e1] at e2; injection e2 with e2; rw [← e2, c1] at c2; injection c2 with c2; exact z c2.symm
  have n1 : (a.ns == a.K) = false := d h1 h2 rfl rfl (by decide)
  have n2 : (a.mem == a.K) = false := d h1 h3 rfl rfl (by decide)
  have n3 : (a.mem == a.ns) = false := d h2 h3 rfl rfl (by decide)
  have n4 : (a.lt == a.K) = false := d h1 h4 rfl rfl (by decide)
  have n5 : (a.lt == a.ns) = false := d h2 h4 rfl rfl (by decide)
  have n6 : (a.lt == a.mem) = false := d h3 h4 rfl rfl (by decide)
  refine ⟨[(a.K, a.clsO), (a.ns, a.nsO P), (a.mem, a.memO), (a.lt, a.ltO)], ⟨by simp only [List.lookup, BEq.rfl], by simp only [List.lookup, n1, BEq.rfl], by simp only [List.lookup, n2, n3, BEq.rfl], by simp only [List.lookup, n4, n5, n6, BEq.rfl]⟩, fun b o e => ?_⟩
  simp only [List.lookup] at e
  split at e
  · rename_i q; cases e; rw [beq_iff_eq.mp q]; exact h1
  split at e
  · rename_i q; cases e; rw [beq_iff_eq.mp q]; exact h2
  split at e
  · rename_i q; cases e; rw [beq_iff_eq.mp q]; exact h3
  split at e
  · rename_i q; cases e; rw [beq_iff_eq.mp q]; exact h4
  cases e
section
variable {a : KA} {P : Params} {K : Frag}
theorem KF.find (X : KF a P K) {name : Str} {r : Option Value} (e : (match (a.ents P).toList.find? (·.key.isStr name) with
      | some e => some (some e.val)
      | none => if (a.ents P).toList.any (·.refKey) then none else some none) = some r)
    {r' : Option Value} (e' : (match (some r : Option (Option Value)) with | some (some v) => some (some v) | some none => alongIn K name [.type "object"] | none => none) = some r') : findIn K (.ref a.K) name = some r' := by
  have c1 : findIn K (.ref a.K) name = alongIn K name [.ref a.K, .type "object"] := by
    show (match K.lookup a.K with
      | some ⟨_, _, .cls cd, _⟩ => alongIn K name cd.mro
      | _ => none) = _
    rw [X.k]; rfl
  have c2 : ownIn K name (.ref a.K) = some r := by
    show (match K.lookup a.K with
      | some ⟨_, _, .cls cd, _⟩ => nsIn K cd.ns name
      | _ => none) = _
    rw [X.k]
    show nsIn K a.ns name = _
    unfold nsIn
    rw [X.n]
    exact e
  rw [c1]
  show (match ownIn K name (.ref a.K) with | some (some v) => some (some v) | some none => alongIn K name [.type "object"] | none => none) = _
  rw [c2]; exact e'
theorem KF.obj (X : KF a P K) : findIn K (.ref a.K) sObj = some (some (.ref a.mem)) := X.find (r := some (.ref a.mem)) (by kernel_rfl) rfl
theorem KF.getattribute (X : KF a P K) : findIn K (.ref a.K) "__getattribute__" = some (some (.builtin "object.__getattribute__")) := X.find (r := none) (by kernel_rfl) (by kernel_rfl)
theorem KF.getattr (X : KF a P K) : findIn K (.ref a.K) "__getattr__" = some none := X.find (r := none) (by kernel_rfl) (by kernel_rfl)
theorem KF.ltName (X : KF a P K) : findIn K (.ref a.K) "__lt__" = some (some (.ref a.lt)) := X.find (r := some (.ref a.lt)) (by kernel_rfl) rfl
theorem KF.memType (X : KF a P K) : typeIn K (.ref a.mem) = some (.type "member_descriptor") := by show (K.lookup a.mem).map (·.cls) = _; rw [X.m]; rfl
theorem KF.ltType (X : KF a P K) : typeIn K (.ref a.lt) = some (.type "function") := by show (K.lookup a.lt).map (·.cls) = _; rw [X.l]; rfl
theorem KF.memGet (X : KF a P K) : specialIn K (.ref a.mem) "__get__" = some (some (.builtin "member_descriptor.__get__")) := by
  unfold specialIn; rw [X.memType]; exact (by kernel_rfl : findIn [] (.type "member_descriptor") "__get__" = some (some (.builtin "member_descriptor.__get__")))
theorem KF.memTakes (X : KF a P K) : takesIn K (.ref a.mem) = some true := by
  have e : specialIn K (.ref a.mem) "__set__" = some (some (.builtin "member_descriptor.__set__")) := by
    unfold specialIn; rw [X.memType]; exact (by kernel_rfl : findIn [] (.type "member_descriptor") "__set__" = some (some (.builtin "member_descriptor.__set__")))
  unfold takesIn; rw [e]
theorem KF.cls (X : KF a P K) : (clsIn K a.K).isSome = true := by unfold clsIn; rw [X.k]; rfl
theorem KF.slot (X : KF a P K) : slotIn K a.mem a.K = some 0 := by
  have r : recIn K a.mem "member_descriptor" = some [.str sObj (a.k 22), .ref a.K, .builtin "proto.slot", .builtin "proto.slot#set", rawInt 0] := by unfold recIn; rw [X.m]; rfl
  unfold slotIn; rw [r]; unfold clsIn; rw [X.k]
  dsimp only [KA.clsO, rawInt]
  have c : [Value.ref a.K, Value.type "object"].contains (.ref a.K) = true := by simp
  rw [if_pos]
  · rfl
  · rw [c]; rfl
theorem KF.isFn (X : KF a P K) : isFn K (.ref a.lt) = true := by unfold PySem.W.isFn; rw [X.ltType]; rfl
noncomputable abbrev KA.keyO (a : KA) (dd i : Addr) : Obj := { cls := .ref a.K, dict := some dd, slots := #[some (.ref i)] }
variable {prog : Program} {w : World} {A : Around} {E : Value → Shared → Prop} {s : Shared} {Q : Value → Shared → Prop}
theorem KF.inst {h : Heap} {x dd i : Addr} {od : Obj} (h1 : h.get? x = some (a.keyO dd i)) (h2 : h.get? dd = some od) : InstAt h x (a.keyO dd i) a.K (some od) := ⟨h1, rfl, rfl, h2⟩
theorem KF.getObj {x dd i : Addr} {od : Obj} {expr : Bool} (X : KF a P K) (Y : K.In s.heap) (h1 : s.heap.get? x = some (a.keyO dd i)) (h2 : s.heap.get? dd = some od) (h : Q (.ref i) { s with toks := s.toks + 1 }) :
    wpAny (model prog w) A (getAttr (.ref x) sObj expr) Q E s := by
  refine get_bind Y (KF.inst h1 h2) X.getattribute (findObj_data X.cls X.obj X.memGet X.memTakes) X.getattr (wpAny_call (slot_get (s := { s with toks := s.toks + 1 }) Y (KF.inst h1 h2) X.slot rfl ?_))
  show wpAny _ _ (handedOut (.ref i)) _ _ _
  rw [handedOut_of rfl]
  exact wpAny_pure h
end
section
local macro_rules | `(tactic| walk_at "zz1") => `(tactic| skip)
local macro_rules | `(tactic| walk_at $s:str) => `(tactic| k_extra $s)
theorem rs_S7 : True := by w_top off; k_with_none; trivial
theorem rk_S7_mac10_3 : True := by
  k_with "eval Name" => (k_here; name_kind "free"; k_dflt (refine' nameX_F (by k_asm) (by rfl) (by with_reducible assumption) (by first | exact rfl | with_reducible assumption) ?_ (by rfl) (by rfl); k_whole))
  trivial
section
variable {w : World} {A₀ : Around} {base g : Heap} {outer : List Env} {L0 L : Addr} {m mg mb : Str → Option Value} {p : Program} {loose : List Str} {mean : ExcName → Option Value} {news : List (Addr × Obj)} {s : Shared}
  {E : Value → Shared → Prop}
theorem KA.getObjN {prog : Program} {A : Around} {a : KA} {lam x dd i : Addr} {od : Obj} {expr : Bool} {Q : Value → Shared → Prop} (I : a.In w.params lam news) (N : News g L s.heap news) (h1 : (x, a.keyO dd i) ∈ news) (h2 : (dd, od) ∈ news) (h : Q (.ref i) { s with toks := s.toks + 1 }) :
    wpAny (model prog w) A (getAttr (.ref x) sObj expr) Q E s := by
  obtain ⟨K, X, Y⟩ := KF.make (N.get I.cls) (N.get I.nsm) (N.get I.mem) (N.get I.lt)
  exact X.getObj Y (N.get h1) (N.get h2) h
noncomputable abbrev ltEnv (L : Addr) (a : KA) : Env := envX (Str.ofString "cmp_to_key.<locals>.K.__lt__") s_lt L a.lt (.ref a.ltC) [(Str.ofString "mycmp", a.cell)]
noncomputable abbrev lamO (q : Str) (c' cW : Addr) (pm ctv : Value) : Obj := kla_obj (Str.ofString "<lambda>") q a_lam e_lam s_lam [(Str.ofString "wide", cW)] pm c' ctv
theorem rk_S7_ltb_2 : True := by
  k_with "getAttr ref" => (k_here; (with_reducible show wpAny _ _ (getAttr (Value.ref _) _ _) _ _ _); k_dflt (refine KA.getObjN (by assumption) (by k_asm) (by with_reducible assumption) (by with_reducible assumption) ?_))
  k_with "callWith ref" => (k_here; k_dflt (refine' callWith_F ?k1d ?_; (case k1d => exact FnAt.of (by k_asm) (by with_reducible assumption)); k_whole))
  k_with "callWith ref" => (k_here; k_dflt (refine' callWith_F ?k1c ?_; (case k1c => exact FnAt.of (by k_asm) (by with_reducible assumption)); k_whole))
  k_with "callWith ref" => (k_here; k_dflt (refine' callWith_F ?k1b ?_; (case k1b => exact FnAt.of (by k_asm) (by with_reducible assumption)); k_whole))
  k_with "callWith ref" => (k_here; k_dflt (refine' callWith_F ?k1a ?_; (case k1a => exact FnAt.of (by k_asm) (by with_reducible assumption)); k_whole))
  trivial
theorem lam_call {A : Around} {env : Env} {Q : Value → Shared → Prop} {q : Str} {pm ctv : Value} {oc : Obj} {vs : Array Value} {tq : Tok} {c' cW lam i1 i2 w1 w2 : Addr} {a1 b1 a2 b2 wide n1 n2 : Int} {ta1 tb1 ta2 tb2 tw tn1 tn2 ts1 ts2 : Tok} {s1 s2 : Str} {m1 m2 m3 m4 : Nat}
  (hlam : (lam, lamO q c' cW pm ctv) ∈ news) (hoc : (c', oc) ∈ news) (hvs : oc.data = .fields vs) (hvq : vs[1]? = some (.str q tq))
  {oW : Obj} (hWd : oW.data = .cell (some (.int wide tw))) (hW : (cW, oW) ∈ news)
  (hi1 : (i1, (⟨.type "tuple", none, .seq [.ref w1, .str s1 ts1, .int n1 tn1].toArray m1, #[]⟩ : Obj)) ∈ news)
  (hi2 : (i2, (⟨.type "tuple", none, .seq [.ref w2, .str s2 ts2, .int n2 tn2].toArray m2, #[]⟩ : Obj)) ∈ news)
  (hw1 : (w1, (⟨.type "list", none, .seq [.int a1 ta1, .int b1 tb1].toArray m3, #[]⟩ : Obj)) ∈ news)
  (hw2 : (w2, (⟨.type "list", none, .seq [.int a2 ta2, .int b2 tb2].toArray m4, #[]⟩ : Obj)) ∈ news)
  (ha1 : 0 ≤ a1) (ha1' : a1 ≤ 1000) (ha2 : 0 ≤ a2) (ha2' : a2 ≤ 1000) (hb1 : 0 ≤ b1) (hb1' : b1 ≤ 1000) (hb2 : 0 ≤ b2) (hb2' : b2 ≤ 1000) (hv1 : 0 ≤ wide) (hv2 : wide ≤ 1000)
  (hp1 : -1000000 ≤ (a1 - a2) * wide) (hp2 : (a1 - a2) * wide ≤ 1000000)
  (B : Below A₀ base outer g) (F : Fr g L s.heap m) (X : (K0 w.params).In g) (N : News g L s.heap news) (T : Top p loose mean mg mb g)
  (hA : A.frames = some (env :: outer)) (hf : env.frame = some L) (hke : env.scope.kind = .function) (hroom : A.depth < recursionLimit)
  (hQ : ∀ h' tk t, Fr g L h' m → News g L h' news → Q (.int ((a1 - a2) * wide + b1 - b2) t) { s with heap := h', toks := tk })
  : wpAny (model PySem.Challenge.rw_in0014_01.row.prog w) A (call (.ref lam) [.ref i1, .ref i2]) Q E s := by
  refine wpAny_call ?_
  refine kla_code B F X N T hA hf hke hlam (codeRec_news N hoc hvs hvq) hroom (binds := [(Str.ofString "one", Value.ref i1), (Str.ofString "other", Value.ref i2)]) rfl (locs rfl) (fun g' L' h₁ FG F' N' B' X' T' => ?_) rfl rfl rfl (by decide)
  exact lam_body hWd hW hi1 hi2 hw1 hw2 ha1 ha1' ha2 ha2' hb1 hb1' hb2 hb2' hv1 hv2 hp1 hp2 B' F' X' N' T' fun h'' tk m' t F'' N'' => leaveK_ F'' N'' fun Fo No => hQ h'' tk t Fo No
theorem rk_S7_ltb_3 : True := by
  k_with "call ref" => (k_here; k_dflt (refine' lam_call ?h1d ?h2d ?h3d ?h4d ?h45d ?h5d ?h6d ?h7d ?h8d ?h9d ?u1d ?u2d ?u3d ?u4d ?u5d ?u6d ?u7d ?u8d ?u9d ?u10d ?u11d ?u12d ?kBd ?kFd ?kXd ?kNd ?kTd ?kAd ?kfd ?kkd ?krd ?_; (case h1d => with_reducible assumption); (case h2d => with_reducible assumption); (case h3d => with_reducible assumption); (case h4d => with_reducible assumption); (case h5d => with_reducible assumption); (case h45d => with_reducible assumption); (case h6d => with_reducible assumption); (case h7d => with_reducible assumption); (case h8d => with_reducible assumption); (case h9d => with_reducible assumption); (case u1d => assumption); (case u2d => assumption); (case u3d => assumption); (case u4d => assumption); (case u5d => assumption); (case u6d => assumption); (case u7d => assumption); (case u8d => assumption); (case u9d => assumption); (case u10d => assumption); (case u11d => assumption); (case u12d => assumption); (case kBd => k_asm); (case kFd => k_asm); (case kXd => k_asm); (case kNd => k_asm); (case kTd => k_asm); (case kAd => assumption); (case kfd => rfl); (case kkd => rfl); (case krd => assumption); k_whole); intro h'q tk'q t'q F'q N'q)
  k_with "call ref" => (k_here; k_dflt (refine' lam_call ?h1c ?h2c ?h3c ?h4c ?h45c ?h5c ?h6c ?h7c ?h8c ?h9c ?u1c ?u2c ?u3c ?u4c ?u5c ?u6c ?u7c ?u8c ?u9c ?u10c ?u11c ?u12c ?kBc ?kFc ?kXc ?kNc ?kTc ?kAc ?kfc ?kkc ?krc ?_; (case h1c => with_reducible assumption); (case h2c => with_reducible assumption); (case h3c => with_reducible assumption); (case h4c => with_reducible assumption); (case h5c => with_reducible assumption); (case h45c => with_reducible assumption); (case h6c => with_reducible assumption); (case h7c => with_reducible assumption); (case h8c => with_reducible assumption); (case h9c => with_reducible assumption); (case u1c => assumption); (case u2c => assumption); (case u3c => assumption); (case u4c => assumption); (case u5c => assumption); (case u6c => assumption); (case u7c => assumption); (case u8c => assumption); (case u9c => assumption); (case u10c => assumption); (case u11c => assumption); (case u12c => assumption); (case kBc => k_asm); (case kFc => k_asm); (case kXc => k_asm); (case kNc => k_asm); (case kTc => k_asm); (case kAc => assumption); (case kfc => rfl); (case kkc => rfl); (case krc => assumption); k_whole); intro h'q tk'q t'q F'q N'q)
  k_with "call ref" => (k_here; k_dflt (refine' lam_call ?h1b ?h2b ?h3b ?h4b ?h45b ?h5b ?h6b ?h7b ?h8b ?h9b ?u1b ?u2b ?u3b ?u4b ?u5b ?u6b ?u7b ?u8b ?u9b ?u10b ?u11b ?u12b ?kBb ?kFb ?kXb ?kNb ?kTb ?kAb ?kfb ?kkb ?krb ?_; (case h1b => with_reducible assumption); (case h2b => with_reducible assumption); (case h3b => with_reducible assumption); (case h4b => with_reducible assumption); (case h5b => with_reducible assumption); (case h45b => with_reducible assumption); (case h6b => with_reducible assumption); (case h7b => with_reducible assumption); (case h8b => with_reducible assumption); (case h9b => with_reducible assumption); (case u1b => assumption); (case u2b => assumption); (case u3b => assumption); (case u4b => assumption); (case u5b => assumption); (case u6b => assumption); (case u7b => assumption); (case u8b => assumption); (case u9b => assumption); (case u10b => assumption); (case u11b => assumption); (case u12b => assumption); (case kBb => k_asm); (case kFb => k_asm); (case kXb => k_asm); (case kNb => k_asm); (case kTb => k_asm); (case kAb => assumption); (case kfb => rfl); (case kkb => rfl); (case krb => assumption); k_whole); intro h'q tk'q t'q F'q N'q)
  k_with "call ref" => (k_here; k_dflt (refine' lam_call ?h1a ?h2a ?h3a ?h4a ?h45a ?h5a ?h6a ?h7a ?h8a ?h9a ?u1a ?u2a ?u3a ?u4a ?u5a ?u6a ?u7a ?u8a ?u9a ?u10a ?u11a ?u12a ?kBa ?kFa ?kXa ?kNa ?kTa ?kAa ?kfa ?kka ?kra ?_; (case h1a => with_reducible assumption); (case h2a => with_reducible assumption); (case h3a => with_reducible assumption); (case h4a => with_reducible assumption); (case h5a => with_reducible assumption); (case h45a => with_reducible assumption); (case h6a => with_reducible assumption); (case h7a => with_reducible assumption); (case h8a => with_reducible assumption); (case h9a => with_reducible assumption); (case u1a => assumption); (case u2a => assumption); (case u3a => assumption); (case u4a => assumption); (case u5a => assumption); (case u6a => assumption); (case u7a => assumption); (case u8a => assumption); (case u9a => assumption); (case u10a => assumption); (case u11a => assumption); (case u12a => assumption); (case kBa => k_asm); (case kFa => k_asm); (case kXa => k_asm); (case kNa => k_asm); (case kTa => k_asm); (case kAa => assumption); (case kfa => rfl); (case kka => rfl); (case kra => assumption); k_whole); intro h'q tk'q t'q F'q N'q)
  trivial
theorem lt_body {Q : Flow → Shared → Prop} {a : KA} {q : Str} {pm ctv : Value} {oc : Obj} {vs : Array Value} {tq : Tok} {c' cW lam i1 i2 w1 w2 k1 k2 d1 d2 : Addr} {o1 o2 : Obj} {a1 b1 a2 b2 wide n1 n2 : Int} {ta1 tb1 ta2 tb2 tw tn1 tn2 ts1 ts2 : Tok} {s1 s2 : Str} {m1 m2 m3 m4 : Nat}
  (I : a.In w.params lam news)
  (hlam : (lam, lamO q c' cW pm ctv) ∈ news) (hoc : (c', oc) ∈ news) (hvs : oc.data = .fields vs) (hvq : vs[1]? = some (.str q tq))
  {oW : Obj} (hWd : oW.data = .cell (some (.int wide tw))) (hW : (cW, oW) ∈ news)
  (hk1 : (k1, a.keyO d1 i1) ∈ news) (hk2 : (k2, a.keyO d2 i2) ∈ news) (hd1 : (d1, o1) ∈ news) (hd2 : (d2, o2) ∈ news)
  (hi1 : (i1, (⟨.type "tuple", none, .seq [.ref w1, .str s1 ts1, .int n1 tn1].toArray m1, #[]⟩ : Obj)) ∈ news)
  (hi2 : (i2, (⟨.type "tuple", none, .seq [.ref w2, .str s2 ts2, .int n2 tn2].toArray m2, #[]⟩ : Obj)) ∈ news)
  (hw1 : (w1, (⟨.type "list", none, .seq [.int a1 ta1, .int b1 tb1].toArray m3, #[]⟩ : Obj)) ∈ news)
  (hw2 : (w2, (⟨.type "list", none, .seq [.int a2 ta2, .int b2 tb2].toArray m4, #[]⟩ : Obj)) ∈ news)
  (ha1 : 0 ≤ a1) (ha1' : a1 ≤ 1000) (ha2 : 0 ≤ a2) (ha2' : a2 ≤ 1000) (hb1 : 0 ≤ b1) (hb1' : b1 ≤ 1000) (hb2 : 0 ≤ b2) (hb2' : b2 ≤ 1000) (hv1 : 0 ≤ wide) (hv2 : wide ≤ 1000)
  (hp1 : -1000000 ≤ (a1 - a2) * wide) (hp2 : (a1 - a2) * wide ≤ 1000000)
  (hroom : A₀.depth < 900)
  (B : Below A₀ base outer g) (F : Fr g L s.heap (fun y => [(Str.ofString "self", Value.ref k1), (Str.ofString "other", Value.ref k2)].reverse.lookup y)) (X : (K0 w.params).In g) (N : News g L s.heap news) (T : Top p loose mean mg mb g)
  (hQ : ∀ h' tk m', Fr g L h' m' → News g L h' news → Q (.ret (.bool (decide ((a1 - a2) * wide + b1 - b2 < 0)))) { s with heap := h', toks := tk })
  : wpAny (model PySem.Challenge.rw_in0014_01.row.prog w) (A₀.deeper (ltEnv L a)) (execs b_lt (ltEnv L a)) Q E s := by
  revert X; k_fill; intro X
  have I1 := I.cell
  have hA : (A₀.deeper (ltEnv L a)).frames = some (ltEnv L a :: outer) := by
    show (A₀.frames.map (ltEnv L a :: ·)) = _; rw [B.stack]; rfl
  have hr : (A₀.deeper (ltEnv L a)).depth < recursionLimit := by
    have : (A₀.deeper (ltEnv L a)).depth = A₀.depth + 1 := rfl
    rw [this, show recursionLimit = 1000 from rfl]; omega
  obtain ⟨hh, gg, dd, tt, oo⟩ := s
  dsimp only at F N
  repeat' (first | (k_unfold; (try dsimp only)) | ((try dsimp only); walk1))
  all_goals exact hQ _ _ _ (by assumption) (by assumption)
end
end
section
variable {w : World} {A₀ : Around} {base g : Heap} {outer : List Env} {L0 L : Addr} {m mg mb : Str → Option Value} {p : Program} {loose : List Str} {mean : ExcName → Option Value} {news : List (Addr × Obj)} {s : Shared}
  {E : Value → Shared → Prop}
/-- what the ledger bears for the comparing of keys -/
structure LamIn (a : KA) (P : Params) (news : List (Addr × Obj)) (wide : Int) : Prop where
  ex : ∃ (q : Str) (pm ctv : Value) (oc : Obj) (vs : Array Value) (tq tw : Tok) (c' cW lam : Addr), a.In P lam news ∧ (lam, lamO q c' cW pm ctv) ∈ news ∧ (c', oc) ∈ news ∧ oc.data = .fields vs ∧ vs[1]? = some (.str q tq) ∧ ∃ oW : Obj, oW.data = .cell (some (.int wide tw)) ∧ (cW, oW) ∈ news
/-- one item of the sorted list: a tuple of a place and two more -/
structure ItemIn (news : List (Addr × Obj)) (i : Addr) (x y : Int) : Prop where
  ex : ∃ (w1 : Addr) (s1 : Str) (n1 : Int) (t1 t2 t3 t4 : Tok) (m1 m2 : Nat), (i, (⟨.type "tuple", none, .seq [.ref w1, .str s1 t1, .int n1 t2].toArray m1, #[]⟩ : Obj)) ∈ news ∧ (w1, (⟨.type "list", none, .seq [.int x t3, .int y t4].toArray m2, #[]⟩ : Obj)) ∈ news
/-- a key object and the item behind it -/
structure KeyIn (a : KA) (news : List (Addr × Obj)) (k i : Addr) : Prop where
  ex : ∃ (d : Addr) (o : Obj), (k, a.keyO d i) ∈ news ∧ (d, o) ∈ news
theorem LamIn.more {a : KA} {P : Params} {wide : Int} {news news' : List (Addr × Obj)} (h : LamIn a P news wide) (s : ∀ q ∈ news, q ∈ news') : LamIn a P news' wide := by
  obtain ⟨q, pm, ctv, oc, vs, tq, tw, c', cW, lam, I, h1, h2, h3, h4, oW, h45, h5⟩ := h.ex
  exact ⟨q, pm, ctv, oc, vs, tq, tw, c', cW, lam, ⟨s _ I.cls, s _ I.nsm, s _ I.mem, s _ I.cell, s _ I.ini, s _ I.iniC, s _ I.lt, s _ I.ltC⟩, s _ h1, s _ h2, h3, h4, oW, h45, s _ h5⟩
theorem ItemIn.more {i : Addr} {x y : Int} {news news' : List (Addr × Obj)} (h : ItemIn news i x y) (s : ∀ q ∈ news, q ∈ news') : ItemIn news' i x y := by
  obtain ⟨w1, s1, n1, t1, t2, t3, t4, m1, m2, h1, h2⟩ := h.ex
  exact ⟨w1, s1, n1, t1, t2, t3, t4, m1, m2, s _ h1, s _ h2⟩
theorem KeyIn.more {a : KA} {k i : Addr} {news news' : List (Addr × Obj)} (h : KeyIn a news k i) (s : ∀ q ∈ news, q ∈ news') : KeyIn a news' k i := by
  obtain ⟨d, o, h1, h2⟩ := h.ex
  exact ⟨d, o, s _ h1, s _ h2⟩
theorem lt_call {A : Around} {env : Env} {Q : Value → Shared → Prop} {a : KA} {k1 k2 i1 i2 : Addr} {a1 b1 a2 b2 wide : Int}
  (I : LamIn a w.params news wide) (hk1 : KeyIn a news k1 i1) (hk2 : KeyIn a news k2 i2) (hi1 : ItemIn news i1 a1 b1) (hi2 : ItemIn news i2 a2 b2)
  (ha1 : 0 ≤ a1) (ha1' : a1 ≤ 1000) (ha2 : 0 ≤ a2) (ha2' : a2 ≤ 1000) (hb1 : 0 ≤ b1) (hb1' : b1 ≤ 1000) (hb2 : 0 ≤ b2) (hb2' : b2 ≤ 1000) (hv1 : 0 ≤ wide) (hv2 : wide ≤ 1000)
  (B : Below A₀ base outer g) (F : Fr g L s.heap m) (X : (K0 w.params).In g) (N : News g L s.heap news) (T : Top p loose mean mg mb g)
  (hA : A.frames = some (env :: outer)) (hf : env.frame = some L) (hke : env.scope.kind = .function) (hroom : A.depth < 900)
  (hQ : ∀ h' tk, Fr g L h' m → News g L h' news → Q (.bool (decide ((a1 - a2) * wide + b1 - b2 < 0))) { s with heap := h', toks := tk })
  : wpAny (model PySem.Challenge.rw_in0014_01.row.prog w) A (call (.ref a.lt) [.ref k1, .ref k2]) Q E s := by
  obtain ⟨q, pm, ctv, oc, vs, tq, tw, c', cW, lam, I, hlam, hoc, hvs, hvq, oW, hWd, hW⟩ := I.ex
  obtain ⟨d1, o1, hk1, hd1⟩ := hk1.ex
  obtain ⟨d2, o2, hk2, hd2⟩ := hk2.ex
  obtain ⟨w1, s1, n1, t1, t2, t3, t4, m1, m2, hi1, hw1⟩ := hi1.ex
  obtain ⟨w2, s2, n2, u1, u2, u3, u4, m3, m4, hi2, hw2⟩ := hi2.ex
  have hp : -1000000 ≤ (a1 - a2) * wide ∧ (a1 - a2) * wide ≤ 1000000 := by
    have l1 : -1000 ≤ a1 - a2 := by omega
    have l2 : a1 - a2 ≤ 1000 := by omega
    have e1 : (a1 - a2) * wide ≤ 1000 * wide := Int.mul_le_mul_of_nonneg_right l2 hv1
    have e2 : -1000 * wide ≤ (a1 - a2) * wide := Int.mul_le_mul_of_nonneg_right l1 hv1
    omega
  refine wpAny_call ?_
  refine code_nest (f := a.lt) B F X N T hA hf hke (show (a.lt, fnMade (Str.ofString "__lt__") (Str.ofString "cmp_to_key.<locals>.K.__lt__") a_lt b_lt s_lt [(Str.ofString "mycmp", a.cell)] .none (.str (Str.ofString "law_in0014_01") 411) a.ltC (.ref (a.x 5))) ∈ news from I.lt)
    ⟨_, _, _, _, rfl, (N _ I.ltC).1, rfl, rfl⟩ (by rw [show recursionLimit = 1000 from rfl]; omega) (binds := [(Str.ofString "self", Value.ref k1), (Str.ofString "other", Value.ref k2)]) (BindsTo.of_eq rfl) (locs rfl) (fun g' L' h₁ FG F' N' B' X' T' => ?_) rfl rfl rfl (by decide)
  exact lt_body (w1 := w1) (w2 := w2) I hlam hoc hvs hvq hWd hW hk1 hk2 hd1 hd2 hi1 hi2 hw1 hw2 ha1 ha1' ha2 ha2' hb1 hb1' hb2 hb2' hv1 hv2 hp.1 hp.2 hroom B' F' X' N' T' fun h'' tk m' F'' N'' => leaveK_ F'' N'' fun Fo No => hQ h'' tk Fo No
end
section
variable {g hp h' : Heap} {L : Addr} {m : Str → Option Value} {news L1 : List (Addr × Obj)}
theorem mem_fr (D : PySem.W.X.Mem hp h' [] L1) (F : Fr g L hp m) : Fr g L h' m :=
  have k : ∀ b o, hp.get? b = some o → h'.get? b = some o := fun b o e => D.keep b o e (by rw [show PySem.W.X.away [] b = true from rfl]; simp)
  ⟨F.ns.keeps k, fun b o e => k b o (F.keep b o e), F.above⟩
theorem mem_news (D : PySem.W.X.Mem hp h' [] L1) (F : Fr g L hp m) (N : News g L hp news) : News g L h' (L1 ++ news) := fun p q => by
  have k : ∀ b o, hp.get? b = some o → h'.get? b = some o := fun b o e => D.keep b o e (by rw [show PySem.W.X.away [] b = true from rfl]; simp)
  rcases List.mem_append.mp q with q | q
  · have z := D.nw p q
    refine ⟨z.1, fun e => ?_, ?_⟩
    · obtain ⟨oL, _, _, hL, _⟩ := F.ns
      rw [e, hL] at z; exact absurd z.2 (by simp)
    · cases y : g.get? p.1 with
      | none => rfl
      | some o => have := F.keep _ _ y; rw [z.2] at this; cases this
  · exact ⟨k _ _ (N p q).1, (N p q).2⟩
end
theorem key_new {w : World} {L0 : Addr} {g : Heap} {s : Shared} {m : Str → Option Value} {news : List (Addr × Obj)} {E : Value → Shared → Prop} {Q : Value → Shared → Prop} {a : KA} {wide : Int} {i : Addr}
  (Y : (KY w.params : Frag).In g) (F : Fr g L0 s.heap m) (N : News g L0 s.heap news) (I : LamIn a w.params news wide)
  (hQ : ∀ k h' tk own, Fr g L0 h' m → News g L0 h' (own ++ news) → KeyIn a own k i → (∀ p ∈ own, s.heap.get? p.1 = none) → Q (.ref k) { s with heap := h', toks := tk })
  : wpAny (model PySem.Challenge.rw_in0014_01.row.prog w) (lawA L0).in1.in1 (call (.ref a.K) [.ref i]) Q E s := by
  obtain ⟨q, pm, ctv, oc, vs, tq, tw, c', cW, lam, I, -⟩ := I.ex
  obtain ⟨hp, gg, d, t, os⟩ := s
  refine k_new (Y.keeps F.keep) (N.get I.cls) (N.get I.nsm) (N.get I.mem) (N.get I.ini) (N.get I.iniC) ⟨fun o dd od L1 h' tk D h1 h2 => ?_⟩
  exact hQ o h' tk L1 (mem_fr D F) (mem_news D F N) ⟨dd, od, h1, h2⟩ fun p hp => (D.nw p hp).2
/-- what the sorting makes of a list that never rises: the runs of equal keys, turned about as wholes -/
noncomputable def srtG {α : Type} (key : α → Int) : List α → List α → α → List α → List α
  | acc, cur, _, [] => cur ++ acc
  | acc, cur, l, x :: r => if key x < key l then srtG key (cur ++ acc) [x] x r else srtG key acc (cur ++ [x]) x r
theorem rev_parts (A B C : List Nat) : kas_rev (A ++ B ++ C).toArray A.length (A.length + B.length) = (A ++ B.reverse ++ C).toArray := by
  apply Array.ext_getElem?
  intro k
  unfold kas_rev
  rw [getElem?_mirror_all (by simp)]
  simp only [List.getElem?_toArray]
  by_cases h1 : k < A.length
  · rw [if_neg (by omega)]
    rw [List.append_assoc, List.append_assoc, List.getElem?_append_left h1, List.getElem?_append_left h1]
  by_cases h2 : k < A.length + B.length
  · rw [if_pos ⟨by omega, h2⟩]
    have l : (A ++ B ++ C)[A.length + (A.length + B.length) - 1 - k]? = B[(A.length + (A.length + B.length) - 1 - k) - A.length]? := by
      rw [List.append_assoc, List.getElem?_append_right (by omega), List.getElem?_append_left (by omega)]
    have r : (A ++ B.reverse ++ C)[k]? = B[B.length - 1 - (k - A.length)]? := by
      rw [List.append_assoc, List.getElem?_append_right (by omega), List.getElem?_append_left (by rw [List.length_reverse]; omega), List.getElem?_reverse (by omega)]
    rw [l, r]; congr 1; omega
  · rw [if_neg (by omega)]
    rw [List.getElem?_append_right (by simp; omega), List.getElem?_append_right (by simp; omega)]
    simp
theorem getD_parts {A C : List Nat} {x n : Nat} (e : n = A.length) : (A ++ x :: C).toArray.getD n 0 = x := by
  subst e; simp [Array.getD]
section
variable {N : Nat} {key : Nat → Int} {cmp : Nat → Nat → (Bool → Shared → Prop) → Shared → Prop} {J : Shared → Prop}
theorem path_desc (hcmp : ∀ i j C s, i < N → j < N → J s → (∀ s', J s' → C (decide (key i < key j)) s') → cmp i j C s) : ∀ (rest acc c : List Nat) (l : Nat) (G : Array Nat × Nat × Nat → Shared → Prop) (s : Shared),
    (∀ x ∈ l :: rest, x < N) → (l :: rest).Pairwise (fun a b => key b ≤ key a) → J s →
    (∀ s' acc' c' l', J s' → (c' ++ [l']) ++ acc' = srtG key acc (c ++ [l]) l rest → acc'.length + c'.length = acc.length + c.length + rest.length → G ((acc'.reverse ++ (c' ++ [l'])).toArray, acc'.length + c'.length + 1, c'.length) s') →
    (kas_desc rest.length (acc.reverse ++ (c ++ [l]) ++ rest).toArray (acc.length + c.length + 1) c.length).kasWp cmp G s
  | [], acc, c, l, G, s, _, _, hJ, hG => by
    show G ((acc.reverse ++ (c ++ [l]) ++ []).toArray, acc.length + c.length + 1, c.length) s
    rw [List.append_nil]
    exact hG s acc c l hJ rfl rfl
  | x :: r, acc, c, l, G, s, hN, hP, hJ, hG => by
    have e1 : (acc.reverse ++ (c ++ [l]) ++ x :: r).toArray.getD (acc.length + c.length + 1) 0 = x := getD_parts (A := acc.reverse ++ (c ++ [l])) (by simp; omega)
    have e2 : (acc.reverse ++ (c ++ [l]) ++ x :: r).toArray.getD (acc.length + c.length + 1 - 1) 0 = l := by
      rw [show acc.reverse ++ (c ++ [l]) ++ x :: r = (acc.reverse ++ c) ++ l :: x :: r by simp]
      exact getD_parts (by simp)
    have hx := hN x (.tail _ (.head _))
    have hl := hN l (.head _)
    have hxl : key x ≤ key l := (List.pairwise_cons.mp hP).1 x (.head _)
    have hP' := (List.pairwise_cons.mp hP).2
    have hN' : ∀ y ∈ x :: r, y < N := fun y hy => hN y (.tail _ hy)
    show cmp _ _ _ s
    rw [e1, e2]
    refine hcmp x l _ s hx hl hJ fun s1 J1 => ?_
    by_cases h : key x < key l
    · rw [decide_eq_true h]
      have next : (kas_desc r.length ((c ++ [l] ++ acc).reverse ++ ([] ++ [x]) ++ r).toArray ((c ++ [l] ++ acc).length + ([] : List Nat).length + 1) ([] : List Nat).length).kasWp cmp G s1 := by
        refine path_desc hcmp r (c ++ [l] ++ acc) [] x G s1 hN' hP' J1 fun s' acc' c' l' J' h1 h2 => hG s' acc' c' l' J' ?_ ?_
        · rw [h1]; show _ = (if key x < key l then _ else _); rw [if_pos h]; rfl
        · simp at h2 ⊢; omega
      have en : (c ++ [l] ++ acc).length + ([] : List Nat).length + 1 = acc.length + c.length + 1 + 1 := by simp; omega
      rw [en] at next
      show (if true = true then (if c.length > 0 then _ else _) else _ : KasT _).kasWp cmp G s1
      rw [if_pos rfl]
      by_cases hc : c.length > 0
      · rw [if_pos hc]
        have er : kas_rev (acc.reverse ++ (c ++ [l]) ++ x :: r).toArray (acc.length + c.length + 1 - (c.length + 1)) (acc.length + c.length + 1) = ((c ++ [l] ++ acc).reverse ++ ([] ++ [x]) ++ r).toArray := by
          have z := rev_parts acc.reverse (c ++ [l]) (x :: r)
          rw [show acc.length + c.length + 1 - (c.length + 1) = acc.reverse.length by rw [List.length_reverse]; omega, show acc.length + c.length + 1 = acc.reverse.length + (c ++ [l]).length by simp; omega, z]
          simp
        rw [er]; exact next
      · rw [if_neg hc]
        have hc0 : c = [] := List.length_eq_zero_iff.mp (by omega)
        subst hc0
        have e : ([] ++ [l] ++ acc).reverse ++ ([] ++ [x]) ++ r = acc.reverse ++ ([] ++ [l]) ++ x :: r := by simp
        rw [e] at next
        exact next
    · rw [decide_eq_false h]
      show (if false = true then _ else _ : KasT _).kasWp cmp G s1
      rw [if_neg (by simp)]
      show cmp _ _ _ s1
      refine hcmp l x _ s1 hl hx J1 fun s2 J2 => ?_
      rw [decide_eq_false (show ¬ key l < key x by omega)]
      show (if false = true then _ else _ : KasT _).kasWp cmp G s2
      rw [if_neg (by simp)]
      have next : (kas_desc r.length (acc.reverse ++ ((c ++ [l]) ++ [x]) ++ r).toArray (acc.length + (c ++ [l]).length + 1) (c ++ [l]).length).kasWp cmp G s2 := by
        refine path_desc hcmp r acc (c ++ [l]) x G s2 hN' hP' J2 fun s' acc' c' l' J' h1 h2 => hG s' acc' c' l' J' ?_ ?_
        · rw [h1]; show _ = (if key x < key l then _ else _); rw [if_neg h]
        · simp at h2 ⊢; omega
      have el : (c ++ [l]).length = c.length + 1 := by simp
      rw [el, show acc.reverse ++ (c ++ [l] ++ [x]) ++ r = acc.reverse ++ (c ++ [l]) ++ x :: r by simp] at next
      exact next
theorem path_asc (hcmp : ∀ i j C s, i < N → j < N → J s → (∀ s', J s' → C (decide (key i < key j)) s') → cmp i j C s) : ∀ (rest c : List Nat) (l : Nat) (G : Nat → Shared → Prop) (s : Shared),
    (∀ x ∈ l :: rest, x < N) → (l :: rest).Pairwise (fun a b => key b ≤ key a) → J s →
    (∀ s' c' l' rest', J s' → (c' ++ [l']) ++ rest' = (c ++ [l]) ++ rest → (rest' = [] ∨ ∃ x r', rest' = x :: r' ∧ key x < key l') → srtG key [] (c' ++ [l']) l' rest' = srtG key [] (c ++ [l]) l rest → G (c'.length + 1) s') →
    (kas_asc ((c ++ [l]) ++ rest).toArray rest.length (c.length + 1)).kasWp cmp G s
  | [], c, l, G, s, _, _, hJ, hG => by
    show G (c.length + 1) s
    exact hG s c l [] hJ rfl (.inl rfl) rfl
  | x :: r, c, l, G, s, hN, hP, hJ, hG => by
    have e1 : ((c ++ [l]) ++ x :: r).toArray.getD (c.length + 1) 0 = x := getD_parts (by simp)
    have e2 : ((c ++ [l]) ++ x :: r).toArray.getD (c.length + 1 - 1) 0 = l := by
      rw [show (c ++ [l]) ++ x :: r = c ++ l :: x :: r by simp]
      exact getD_parts (by simp)
    have hx := hN x (.tail _ (.head _))
    have hl := hN l (.head _)
    have hxl : key x ≤ key l := (List.pairwise_cons.mp hP).1 x (.head _)
    have hP' := (List.pairwise_cons.mp hP).2
    have hN' : ∀ y ∈ x :: r, y < N := fun y hy => hN y (.tail _ hy)
    show cmp _ _ _ s
    rw [e1, e2]
    refine hcmp x l _ s hx hl hJ fun s1 J1 => ?_
    by_cases h : key x < key l
    · rw [decide_eq_true h]
      show (if true = true then _ else _ : KasT _).kasWp cmp G s1
      rw [if_pos rfl]
      show G (c.length + 1) s1
      exact hG s1 c l (x :: r) J1 rfl (.inr ⟨x, r, rfl, h⟩) rfl
    · rw [decide_eq_false h]
      show (if false = true then _ else _ : KasT _).kasWp cmp G s1
      rw [if_neg (by simp)]
      have next : (kas_asc (((c ++ [l]) ++ [x]) ++ r).toArray r.length ((c ++ [l]).length + 1)).kasWp cmp G s1 := by
        refine path_asc hcmp r (c ++ [l]) x G s1 hN' hP' J1 fun s' c' l' rest' J' h1 h2 h3 => hG s' c' l' rest' J' ?_ h2 ?_
        · rw [h1]; simp
        · rw [h3]; show _ = (if key x < key l then _ else _); rw [if_neg h]
      rw [show (c ++ [l]).length = c.length + 1 by simp, show (c ++ [l] ++ [x]) ++ r = (c ++ [l]) ++ x :: r by simp] at next
      exact next
end
section
variable {key : Nat → Int} {cmp : Nat → Nat → (Bool → Shared → Prop) → Shared → Prop} {J : Shared → Prop}
theorem path_part {N : Nat} (hcmp : ∀ i j C s, i < N → j < N → J s → (∀ s', J s' → C (decide (key i < key j)) s') → cmp i j C s) {c r : List Nat} {x : Nat} {G : Nat × Array Nat → Shared → Prop} {s : Shared}
    (hN : ∀ y ∈ x :: r, y < N) (hP : (x :: r).Pairwise (fun a b => key b ≤ key a)) (hJ : J s) (hl : c.length + 1 + r.length = N)
    (hG : ∀ s', J s' → G (N, (srtG key c [x] x r).toArray) s') :
    (kas_descPart c.length N (c.reverse ++ x :: r).toArray).kasWp cmp G s := by
  unfold kas_descPart
  rw [KasT.kasWp_bind]
  have e : (kas_desc (N - (c.length + 1)) (c.reverse ++ x :: r).toArray (c.length + 1) 0) = kas_desc r.length (c.reverse ++ ([] ++ [x]) ++ r).toArray (c.length + ([] : List Nat).length + 1) ([] : List Nat).length := by
    rw [show N - (c.length + 1) = r.length by omega]; simp
  rw [e]
  refine path_desc hcmp r c [] x _ s hN hP hJ fun s' acc' c' l' J' h1 h2 => ?_
  have hz : acc'.length + c'.length + 1 = N := by simp at h2; omega
  have last : ∀ (B : List Nat), B.reverse = c' ++ [l'] → (kas_tail3 (acc'.length + c'.length + 1) N (acc'.reverse ++ B).toArray).kasWp cmp G s' := fun B hB => by
    unfold kas_tail3
    rw [hz, Nat.sub_self]
    show G (N, kas_rev (acc'.reverse ++ B).toArray 0 N) s'
    have hBl : B.length = c'.length + 1 := by rw [← List.length_reverse, hB]; simp
    have z := rev_parts [] (acc'.reverse ++ B) []
    simp only [List.nil_append, List.append_nil, List.length_nil, Nat.zero_add] at z
    rw [show (acc'.reverse ++ B).length = N by simp [hBl]; omega] at z
    rw [z, List.reverse_append, List.reverse_reverse, hB, h1]
    exact hG s' J'
  show (if c'.length > 0 then _ else _ : KasT _).kasWp cmp G s'
  by_cases hc : c'.length > 0
  · rw [if_pos hc]
    have z := rev_parts acc'.reverse (c' ++ [l']) []
    rw [List.append_nil, List.append_nil, show acc'.reverse.length + (c' ++ [l']).length = acc'.length + c'.length + 1 by simp; omega, show acc'.reverse.length = acc'.length + c'.length + 1 - (c'.length + 1) by rw [List.length_reverse]; omega] at z
    show (kas_tail3 _ N (kas_rev (acc'.reverse ++ (c' ++ [l'])).toArray (acc'.length + c'.length + 1 - (c'.length + 1)) (acc'.length + c'.length + 1))).kasWp cmp G s'
    rw [z]
    exact last _ (by simp)
  · rw [if_neg hc]
    have hc0 : c' = [] := List.length_eq_zero_iff.mp (by omega)
    subst hc0
    exact last [l'] rfl
theorem path_sort {n : Nat} (hcmp : ∀ i j C s, i < n + 1 → j < n + 1 → J s → (∀ s', J s' → C (decide (key i < key j)) s') → cmp i j C s) {G : Array Nat → Shared → Prop} {s : Shared}
    (hP : ∀ i j, i < j → j < n + 1 → key j ≤ key i) (hJ : J s)
    (hG : ∀ s', J s' → G (srtG key [] [0] 0 (List.range' 1 n)).toArray s') :
    (kas_sort (n + 1)).kasWp cmp G s := by
  have hr : List.range (n + 1) = 0 :: List.range' 1 n := by rw [List.range_eq_range', List.range'_succ]
  have hN : ∀ x ∈ (0 : Nat) :: List.range' 1 n, x < n + 1 := by rw [← hr]; intro x hx; exact List.mem_range.mp hx
  have hp : ((0 : Nat) :: List.range' 1 n).Pairwise (fun a b => key b ≤ key a) := by
    rw [← hr, List.pairwise_iff_getElem]
    intro i j hi hj hij
    simp only [List.length_range] at hi hj
    simp only [List.getElem_range]
    exact hP i j hij hj
  unfold kas_sort
  rw [KasT.kasWp_bind]
  unfold kas_count
  rw [KasT.kasWp_bind, hr]
  have ea : kas_asc (0 :: List.range' 1 n).toArray (n + 1 - 1) 1 = kas_asc (([] ++ [0]) ++ List.range' 1 n).toArray (List.range' 1 n).length (([] : List Nat).length + 1) := by simp
  rw [ea]
  refine path_asc hcmp (List.range' 1 n) [] 0 _ s hN hp hJ fun s1 c l rest J1 h1 h2 h3 => ?_
  have hlen : c.length + 1 + rest.length = n + 1 := by have := congrArg List.length h1; simp at this; omega
  have fin : ∀ (m : Nat) (s' : Shared), J s' → (if (n + 1) < n + 1 then kas_bin (n + 1 - max (n + 1) 1) (srtG key [] [0] 0 (List.range' 1 n)).toArray (max (n + 1) 1) else .ret (srtG key [] [0] 0 (List.range' 1 n)).toArray : KasT (Array Nat)).kasWp cmp G s' := fun m s' J' => by
    rw [if_neg (Nat.lt_irrefl _)]; exact hG s' J'
  have hall : (0 :: List.range' 1 n) = (c ++ [l]) ++ rest := by rw [h1]; rfl
  rcases h2 with rfl | ⟨x, r, rfl, hxl⟩
  · have hc : c.length + 1 = n + 1 := by simpa using hlen
    rw [hc]
    show (if ((n + 1) == (n + 1)) = true then _ else _ : KasT _).kasWp cmp _ s1
    rw [if_pos (by simp)]
    show (if (n + 1) < n + 1 then _ else _ : KasT (Array Nat)).kasWp cmp G s1
    rw [if_neg (Nat.lt_irrefl _)]
    have e : (0 : Nat) :: List.range' 1 n = srtG key [] [0] 0 (List.range' 1 n) := by
      rw [hall, List.append_nil]
      have z : srtG key [] (c ++ [l]) l [] = c ++ [l] := by show (c ++ [l]) ++ [] = _; rw [List.append_nil]
      rw [← z]; exact h3
    show G _ s1
    rw [e]
    exact hG s1 J1
  · have hne : ¬ ((c.length + 1 == n + 1) = true) := by simp at hlen ⊢; omega
    rw [if_neg hne]
    have hs3 : srtG key [] [0] 0 (List.range' 1 n) = srtG key (c ++ [l]) [x] x r := by
      rw [show ([0] : List Nat) = [] ++ [0] from rfl, ← h3]
      show (if key x < key l then _ else _) = _
      rw [if_pos hxl, List.append_nil]
    have hN' : ∀ y ∈ x :: r, y < n + 1 := fun y hy => hN y (by rw [hall]; exact List.mem_append_right _ hy)
    have hP' : (x :: r).Pairwise (fun a b => key b ≤ key a) := by rw [hall] at hp; exact (List.pairwise_append.mp hp).2.1
    have part : ∀ s', J s' → (kas_descPart (c ++ [l]).length (n + 1) ((c ++ [l]).reverse ++ x :: r).toArray).kasWp cmp (fun a s' => (if a.1 < n + 1 then kas_bin (n + 1 - max a.1 1) a.2 (max a.1 1) else .ret a.2 : KasT (Array Nat)).kasWp cmp G s') s' := fun s' J' =>
      path_part hcmp hN' hP' J' (by simp at hlen ⊢; omega) fun s2 J2 => by
        show (if (n + 1) < n + 1 then _ else _ : KasT (Array Nat)).kasWp cmp G s2
        rw [if_neg (Nat.lt_irrefl _), ← hs3]
        exact hG s2 J2
    rw [hall]
    by_cases hc1 : c.length + 1 > 1
    · rw [if_pos hc1]
      have hl0 : ((c ++ [l]) ++ x :: r).toArray.getD (c.length + 1 - 1) 0 = l := by
        rw [show (c ++ [l]) ++ x :: r = c ++ l :: x :: r by simp]; exact getD_parts (by simp)
      have h00 : ((c ++ [l]) ++ x :: r).toArray.getD 0 0 = 0 := by rw [← hall]; rfl
      have hlN : l < n + 1 := hN l (by rw [hall]; simp)
      have hk : key l ≤ key 0 := by
        by_cases hl0' : l = 0
        · rw [hl0']; exact Int.le_refl _
        · exact hP 0 l (by omega) hlN
      show cmp _ _ _ s1
      rw [hl0, h00]
      refine hcmp 0 l _ s1 (by omega) hlN J1 fun s2 J2 => ?_
      rw [decide_eq_false (show ¬ key 0 < key l by omega)]
      show KasT.kasWp cmp (if false = true then _ else _) _ s2
      rw [if_neg (by simp)]
      have z := rev_parts [] (c ++ [l]) (x :: r)
      simp only [List.nil_append, List.length_nil, Nat.zero_add] at z
      have q := part s2 J2
      rw [← z, show (c ++ [l]).length = c.length + 1 by simp] at q
      exact q
    · rw [if_neg hc1]
      have hc0 : c = [] := List.length_eq_zero_iff.mp (by omega)
      subst hc0
      exact part s1 J1
end
noncomputable abbrev It := Addr × Int × Int
noncomputable def ordOf (wide : Int) (t : It) : Int := t.2.1 * wide + t.2.2
noncomputable def srtL {α : Type} (key : α → Int) : List α → List α
  | [] => []
  | x :: r => srtG key [] [x] x r
theorem srtG_map {α β : Type} (key : β → Int) (f : α → β) : ∀ (rest acc cur : List α) (l : α), (srtG (fun i => key (f i)) acc cur l rest).map f = srtG key (acc.map f) (cur.map f) (f l) (rest.map f)
  | [], acc, cur, l => by show (cur ++ acc).map f = cur.map f ++ acc.map f; rw [List.map_append]
  | x :: r, acc, cur, l => by
    show (if key (f x) < key (f l) then srtG (fun i => key (f i)) (cur ++ acc) [x] x r else srtG (fun i => key (f i)) acc (cur ++ [x]) x r).map f = (if key (f x) < key (f l) then _ else _)
    by_cases h : key (f x) < key (f l)
    · rw [if_pos h, if_pos h, srtG_map key f r]; simp
    · rw [if_neg h, if_neg h, srtG_map key f r]; simp
theorem srtG_perm {α : Type} (key : α → Int) : ∀ (rest acc cur : List α) (l : α), (srtG key acc cur l rest).Perm (acc ++ cur ++ rest)
  | [], acc, cur, l => by show (cur ++ acc).Perm _; rw [List.append_nil]; exact List.perm_append_comm
  | x :: r, acc, cur, l => by
    show (if key x < key l then srtG key (cur ++ acc) [x] x r else srtG key acc (cur ++ [x]) x r).Perm _
    split
    · refine (srtG_perm key r (cur ++ acc) [x] x).trans ?_
      rw [List.append_assoc]
      exact List.perm_append_comm.append_right _
    · refine (srtG_perm key r acc (cur ++ [x]) x).trans ?_
      rw [show acc ++ (cur ++ [x]) ++ r = acc ++ cur ++ x :: r by simp]
theorem srtL_perm {α : Type} (key : α → Int) : ∀ l : List α, (srtL key l).Perm l
  | [] => .refl _
  | x :: r => srtG_perm key r [] [x] x
structure ItOk (news : List (Addr × Obj)) (wide : Int) (ix : List It) : Prop where
  mem : ∀ t ∈ ix, ItemIn news t.1 t.2.1 t.2.2
  rng : ∀ t ∈ ix, 0 ≤ t.2.1 ∧ t.2.1 ≤ 1000 ∧ 0 ≤ t.2.2 ∧ t.2.2 ≤ 1000
  dsc : ∀ i j (hi : i < ix.length) (hj : j < ix.length), i < j → ordOf wide ix[j] ≤ ordOf wide ix[i]
  w0 : 0 ≤ wide
  w1 : wide ≤ 1000
section
variable {w : World} {base g : Heap} {L0 : Addr} {m mg mb : Str → Option Value} {p : Program} {loose : List Str} {mean : ExcName → Option Value} {news : List (Addr × Obj)} {s : Shared}
  {E : Value → Shared → Prop}
noncomputable abbrev prg : Program := PySem.Challenge.rw_in0014_01.row.prog
theorem key_lt {a : KA} {wide : Int} {k1 k2 : Addr} {t1 t2 : It} {NN : List (Addr × Obj)} {C : Bool → Shared → Prop} (B : Below callerA base [] g) (X : (K0 w.params).In g) (T : Top p loose mean mg mb g)
  (F : Fr g L0 s.heap m) (N : News g L0 s.heap NN) (I : LamIn a w.params NN wide) (h1 : KeyIn a NN k1 t1.1) (h2 : KeyIn a NN k2 t2.1) (i1 : ItemIn NN t1.1 t1.2.1 t1.2.2) (i2 : ItemIn NN t2.1 t2.2.1 t2.2.2)
  (r1 : 0 ≤ t1.2.1 ∧ t1.2.1 ≤ 1000 ∧ 0 ≤ t1.2.2 ∧ t1.2.2 ≤ 1000) (r2 : 0 ≤ t2.2.1 ∧ t2.2.1 ≤ 1000 ∧ 0 ≤ t2.2.2 ∧ t2.2.2 ≤ 1000) (w0 : 0 ≤ wide) (w1 : wide ≤ 1000)
  (hC : ∀ h' tk, Fr g L0 h' m → News g L0 h' NN → C (decide (ordOf wide t1 < ordOf wide t2)) { s with heap := h', toks := tk }) :
  wpAny (model prg w) (lawA L0).in1.in1 (keyLt' oneType' (.ref k1) (.ref k2)) C E s := by
  obtain ⟨q, pm, ctv, oc, vs, tq, tw, c', cW, lam, I', -⟩ := id I.ex
  obtain ⟨K, XK, Y⟩ := KF.make (N.get I'.cls) (N.get I'.nsm) (N.get I'.mem) (N.get I'.lt)
  obtain ⟨d1, o1, hk1, hd1⟩ := id h1.ex
  rw [keyLt'_oneType, oneLt'_eq]
  simp only [if_true]
  refine wpAny_bind (wpAny_cRoomFor (Nat.le_of_ble_eq_true rfl) ?_)
  refine wpAny_bind (ifBound_K Y (KF.inst (N.get hk1) (N.get hd1)) XK.ltName XK.isFn ?_)
  refine lt_call (outer := []) (env := lawEnv L0) I h1 h2 i1 i2 r1.1 r1.2.1 r2.1 r2.2.1 r1.2.2.1 r1.2.2.2 r2.2.2.1 r2.2.2.2 w0 w1 B F X N T rfl rfl rfl (Nat.le_of_ble_eq_true rfl) fun h' tk F' N' => wpAny_truthy_bool ?_
  have e : decide ((t1.2.1 - t2.2.1) * wide + t1.2.2 - t2.2.2 < 0) = decide (ordOf wide t1 < ordOf wide t2) := by
    unfold ordOf
    rw [Int.sub_mul]
    exact decide_eq_decide.mpr (by omega)
  rw [e]
  exact hC h' tk F' N'
theorem ks_tail_ {a0 kS : Addr} {keys : Array Value} {e e1 : Nat} {out : List Value} {NN : List (Addr × Obj)} {P : PySem.Fin → Shared → Prop} {A : Around} {st : SortSt} (F : Fr g L0 s.heap m) (N : News g L0 s.heap (NN ++ [(kS, seqObj "list" keys e), (a0, seqObj "list" #[] e1)])) (hka : kS ≠ a0) (hnk : ∀ p ∈ NN, p.1 ≠ kS) (hna : ∀ p ∈ NN, p.1 ≠ a0)
    (hkz : keys.size < 64) (hoz : out.length < 64) (ho : (arrOf st).map (·.2) = out.toArray) (hfl : failedOf st = none)
    (h : ∀ h' tk c, Fr g L0 h' m → News g L0 h' ((a0, seqObj "list" out.toArray c) :: NN) → P (.done (.ret .none)) { s with heap := h', toks := tk }) :
    wpAny (model prg w) A (ksk_tail a0 false e1 (.ref kS) st) P E s := by
  have nk := N (kS, seqObj "list" keys e) (List.mem_append_right _ (.head _))
  have na := N (a0, seqObj "list" #[] e1) (List.mem_append_right _ (.tail _ (.head _)))
  have Nn : News g L0 s.heap NN := fun p hp => N p (List.mem_append_left _ hp)
  have s1 := Heap.SameBut.update s.heap kS (Obj.mapSeq fun _ => (#[] : Array Value))
  have na1 : (s.heap.update kS (Obj.mapSeq fun _ => (#[] : Array Value))).get? a0 = some (seqObj "list" #[] e1) := (s1.2 a0 hka.symm).trans na.1
  have s2 := Heap.SameBut.update (s.heap.update kS (Obj.mapSeq fun _ => (#[] : Array Value))) a0 (Obj.mapSeq fun _ => (arrOf st).map (·.2))
  obtain ⟨c2, hc2⟩ : ∃ c2, ((s.heap.update kS (Obj.mapSeq fun _ => (#[] : Array Value))).update a0 (Obj.mapSeq fun _ => (arrOf st).map (·.2))).get? a0 = some (seqObj "list" ((arrOf st).map (·.2)) c2) :=
    ⟨_, get?_update_seq na1 fun _ => (arrOf st).map (·.2)⟩
  have N2 := ksk_news (ksk_news Nn s1 hnk) s2 hna
  have hout : ((arrOf st).map (·.2)).size < 64 := by rw [ho]; simpa using hoz
  unfold ksk_tail
  try dsimp only
  refine wpAny_bind (listUpdate_at nk.1 rfl ?_ (by rw [sizeLine_eq]; omega) (Nat.zero_le _))
  refine wpAny_bind (wpAny_letGo ?_)
  refine wpAny_bind (seqEpoch_at na1 rfl ?_)
  simp only [Bool.false_eq_true, if_false]
  refine wpAny_bind (listUpdate_at na1 rfl ?_ (Nat.zero_le _) (by rw [sizeLine_eq]; omega))
  rw [hfl]
  simp only [bne_self_eq_false, Bool.false_eq_true, if_false]
  refine wpAny_pure (h _ _ c2 (ksk_fr (ksk_fr F s1 nk.2.1 nk.2.2) s2 na.2.1 na.2.2) (fun p hp => ?_))
  rcases List.mem_cons.mp hp with rfl | hp
  · rw [← ho]; exact ⟨hc2, na.2⟩
  · exact N2 p hp
theorem ks_end_ {a : KA} {wide : Int} {ix : List It} {ks : List Addr} {a0 kS : Addr} {e e1 : Nat} {NN : List (Addr × Obj)} {P : PySem.Fin → Shared → Prop} (B : Below callerA base [] g) (X : (K0 w.params).In g) (T : Top p loose mean mg mb g)
    (F : Fr g L0 s.heap m) (N : News g L0 s.heap (NN ++ [(kS, seqObj "list" (ks.map Value.ref).toArray e), (a0, seqObj "list" #[] e1)])) (hka : kS ≠ a0) (hnk : ∀ p ∈ NN, p.1 ≠ kS) (hna : ∀ p ∈ NN, p.1 ≠ a0)
    (I : LamIn a w.params NN wide) (O : ItOk NN wide ix) (hl : ks.length = ix.length) (hk : ∀ j (h1 : j < ks.length) (h2 : j < ix.length), KeyIn a NN ks[j] ix[j].1) (h64 : ix.length < 64)
    (h : ∀ h' tk c, Fr g L0 h' m → News g L0 h' ((a0, seqObj "list" ((srtL (ordOf wide) ix).map fun t => Value.ref t.1).toArray c) :: NN) → P (.done (.ret .none)) { s with heap := h', toks := tk }) :
    wpAny (model prg w) (lawA L0).in1.in1 (ksk_end a0 false ((ix.map fun t => Value.ref t.1).toArray) e1 (.ref kS) (ks.map Value.ref).toArray) P E s := by
  unfold ksk_end
  dsimp only
  simp only [Bool.false_eq_true, if_false]
  by_cases h2 : ((ix.map fun t => Value.ref t.1).toArray).size < 2
  · rw [if_pos h2, if_pos h2]
    refine wpAny_bind (wpAny_pure ?_)
    rw [StateT.run_pure]
    refine wpAny_bind (wpAny_pure ?_)
    try dsimp only
    have hs : srtL (ordOf wide) ix = ix := by
      match ix, h2 with
      | [], _ => rfl
      | [x], _ => rfl
      | x :: y :: r, h2 => simp at h2; omega
    refine ks_tail_ (out := ix.map fun t => Value.ref t.1) F N hka hnk hna (by simp; omega) (by simp; omega) ?_ rfl (fun h' tk c F' N' => h h' tk c F' (by rw [hs]; exact N'))
    show ((ks.map Value.ref).toArray.zip (ix.map fun t => Value.ref t.1).toArray).map (·.2) = _
    apply Array.toList_inj.mp
    rw [Array.toList_map, ksk_zip]
    simp [List.map_snd_zip, hl]
  · rw [if_neg h2, if_neg h2]
    have hn : 2 ≤ ix.length := by simpa using h2
    refine wpAny_bind (kas_kind (T := .ref a.K) (by simp; omega) (fun v hv => ?_) rfl (by simp) ?_)
    · obtain ⟨k, hkm, rfl⟩ := List.mem_map.mp hv
      obtain ⟨j, hj, rfl⟩ := List.getElem_of_mem hkm
      obtain ⟨d, o, q1, q2⟩ := (hk j hj (by omega)).ex
      exact (Looks.ld (part := none) (N _ (List.mem_append_left _ q1)).1).andThen .now
    · have hz : ((ks.map Value.ref).toArray.zip (ix.map fun t => Value.ref t.1).toArray).size = ix.length := by simp [hl]
      have est : SortSt.mk' oneType' ((ks.map Value.ref).toArray.zip (ix.map fun t => Value.ref t.1).toArray) #[] 7 none = kas_st oneType' ((ks.map Value.ref).toArray.zip (ix.map fun t => Value.ref t.1).toArray) (List.toArray (List.range ix.length)) := by
        have q := kas_range ((ks.map Value.ref).toArray.zip (ix.map fun t => Value.ref t.1).toArray)
        rw [hz] at q
        unfold kas_st; rw [q]
      have hit : ∀ j (h1 : j < ks.length) (h2 : j < ix.length), kas_item ((ks.map Value.ref).toArray.zip (ix.map fun t => Value.ref t.1).toArray) j = (.ref ks[j], .ref ix[j].1) := fun j h1 h2 => by
        unfold kas_item; simp only [Array.getD, hz]; rw [dif_pos h2]; simp
      rw [est]
      obtain ⟨n, hn1⟩ : ∃ n, ix.length = n + 1 := ⟨ix.length - 1, by omega⟩
      have dft : It := (0, 0, 0)
      have hf : ∀ j (hj : j < ix.length), ix.getD j dft = ix[j] := fun j hj => by simp [hj]
      refine wpAny_bind (wpAny_mono (kas_runs (E := E) (Q := fun _ st' s' => (∃ h' tk, s' = { s with heap := h', toks := tk } ∧ Fr g L0 h' m ∧ News g L0 h' (NN ++ [(kS, seqObj "list" (ks.map Value.ref).toArray e), (a0, seqObj "list" #[] e1)])) ∧ failedOf st' = none ∧ (arrOf st').map (·.2) = ((srtL (ordOf wide) ix).map fun t => Value.ref t.1).toArray)
        (G := fun p' s' => p' = (srtG (fun i => ordOf wide (ix.getD i dft)) [] [0] 0 (List.range' 1 n)).toArray ∧ ∃ h' tk, s' = { s with heap := h', toks := tk } ∧ Fr g L0 h' m ∧ News g L0 h' (NN ++ [(kS, seqObj "list" (ks.map Value.ref).toArray e), (a0, seqObj "list" #[] e1)]))
        hn h64 (fun p' st' s' z1 z2 z3 z4 => ?_) ?_) ?_ fun _ _ x => x)
      · obtain ⟨rfl, hJ⟩ := z4
        refine ⟨hJ, z3, ?_⟩
        rw [z2]
        have hx : (0 :: List.range' 1 n).map (fun i => ix.getD i dft) = ix := by
          have : (0 : Nat) :: List.range' 1 n = List.range ix.length := by rw [hn1, List.range_eq_range', List.range'_succ]
          rw [this]
          refine List.ext_getElem (by simp) fun i h1 h2 => ?_
          simp [h2]
        have hs : srtL (ordOf wide) ix = (srtG (fun i => ordOf wide (ix.getD i dft)) [] [0] 0 (List.range' 1 n)).map fun i => ix.getD i dft := by
          rw [srtG_map (ordOf wide) (fun i => ix.getD i dft)]
          conv => lhs; rw [← hx]
          rfl
        rw [hs]
        apply Array.toList_inj.mp
        rw [Array.toList_map, Array.toList_map, List.map_map, List.map_map]
        refine List.map_congr_left fun i hi => ?_
        have hi' : i ∈ (0 : Nat) :: List.range' 1 n := (srtG_perm _ _ _ _ _).mem_iff.mp hi
        have hlt : i < ix.length := by
          have : (0 : Nat) :: List.range' 1 n = List.range ix.length := by rw [hn1, List.range_eq_range', List.range'_succ]
          rw [this] at hi'; exact List.mem_range.mp hi'
        show (kas_item _ i).2 = Value.ref (ix.getD i dft).1
        rw [hit i (by omega) hlt, hf i hlt]
      · rw [hn1]
        refine path_sort (key := fun i => ordOf wide (ix.getD i dft)) (J := fun s' => ∃ h' tk, s' = { s with heap := h', toks := tk } ∧ Fr g L0 h' m ∧ News g L0 h' (NN ++ [(kS, seqObj "list" (ks.map Value.ref).toArray e), (a0, seqObj "list" #[] e1)])) ?_ ?_ ⟨s.heap, s.toks, rfl, F, N⟩ fun s' hJ => ⟨rfl, hJ⟩
        · rintro i j C s' hi hj ⟨h', tk, rfl, F', N'⟩ hC
          have hi' : i < ix.length := by omega
          have hj' : j < ix.length := by omega
          unfold kas_cmp
          rw [hit i (by omega) hi', hit j (by omega) hj']
          have sub : ∀ q ∈ NN, q ∈ NN ++ [(kS, seqObj "list" (ks.map Value.ref).toArray e), (a0, seqObj "list" #[] e1)] := fun q hq => List.mem_append_left _ hq
          refine key_lt (t1 := ix[i]) (t2 := ix[j]) B X T F' N' (I.more sub) ((hk i (by omega) hi').more sub) ((hk j (by omega) hj').more sub) ((O.mem _ (List.getElem_mem hi')).more sub) ((O.mem _ (List.getElem_mem hj')).more sub)
            (O.rng _ (List.getElem_mem hi')) (O.rng _ (List.getElem_mem hj')) O.w0 O.w1 fun h'' tk'' F'' N'' => ?_
          have q := hC _ ⟨h'', tk'', rfl, F'', N''⟩
          simp only [hf i hi', hf j hj'] at q
          exact q
        · intro i j hij hj
          have hi' : i < ix.length := by omega
          have hj' : j < ix.length := by omega
          simp only [hf i hi', hf j hj']
          exact O.dsc i j hi' hj' hij
      · rintro ⟨⟨⟩, st'⟩ s' ⟨⟨h', tk, rfl, F', N'⟩, q1, q2⟩
        exact ks_tail_ F' N' hka hnk hna (by simp; omega) (by rw [List.length_map, (srtL_perm _ ix).length_eq]; exact h64) q2 q1 h
end
section
variable {w : World} {base g : Heap} {L0 : Addr} {m mg mb : Str → Option Value} {p : Program} {loose : List Str} {mean : ExcName → Option Value} {news : List (Addr × Obj)} {s : Shared}
  {E : Value → Shared → Prop}
theorem ItOk.more {wide : Int} {ix : List It} {N1 N2 : List (Addr × Obj)} (O : ItOk N1 wide ix) (h : ∀ q ∈ N1, q ∈ N2) : ItOk N2 wide ix := ⟨fun t ht => (O.mem t ht).more h, O.rng, O.dsc, O.w0, O.w1⟩
theorem ks_rest_ {a : KA} {wide : Int} {ix : List It} {a0 kS : Addr} {e1 : Nat} {NN : List (Addr × Obj)} {P : PySem.Fin → Shared → Prop} (B : Below callerA base [] g) (X : (K0 w.params).In g) (Y : (KY w.params : Frag).In g) (T : Top p loose mean mg mb g)
    (F : Fr g L0 s.heap m) (N : News g L0 s.heap (NN ++ [(kS, seqObj "list" #[] 0), (a0, seqObj "list" #[] e1)])) (hka : kS ≠ a0) (hnk : ∀ p ∈ NN, p.1 ≠ kS) (hna : ∀ p ∈ NN, p.1 ≠ a0)
    (I : LamIn a w.params NN wide) (O : ItOk NN wide ix) (h64 : ix.length < 64)
    (h : ∀ h' tk c, Fr g L0 h' m → News g L0 h' ((a0, seqObj "list" ((srtL (ordOf wide) ix).map fun t => Value.ref t.1).toArray c) :: NN) → P (.done (.ret .none)) { s with heap := h', toks := tk }) :
    wpAny (model prg w) (lawA L0).in1.in1 (ksk_rest a0 (.ref a.K) false ((ix.map fun t => Value.ref t.1).toArray) e1 (.ref kS)) P E s := by
  unfold ksk_rest
  refine wpAny_bind (wpAny_rule ?_)
  first
    | rw [List.forIn_toArray]
    | (rw [← Array.forIn_toList]; simp only [List.toList_toArray])
    | rw [← Array.forIn_toList]
  refine wpAny_bind (ksk_fold (fun i s' => ∃ (h' : Heap) (tk : Nat) (ks : List Addr) (own : List (Addr × Obj)) (e : Nat), s' = { s with heap := h', toks := tk } ∧ Fr g L0 h' m ∧ News g L0 h' ((own ++ NN) ++ [(kS, seqObj "list" (ks.map Value.ref).toArray e), (a0, seqObj "list" #[] e1)]) ∧ ks.length = i ∧ (∀ j (h1 : j < ks.length) (h2 : j < ix.length), KeyIn a own ks[j] ix[j].1) ∧ ∀ p ∈ own, p.1 ≠ kS ∧ p.1 ≠ a0)
    (ix.map fun t => Value.ref t.1) 0 s ⟨s.heap, s.toks, [], [], 0, rfl, F, N, rfl, (fun j h1 => by simp at h1), (fun p hp => by simp at hp)⟩ ?step ?done)
  case step =>
    rintro j x s' hx ⟨h', tk, ks, own, e, rfl, F', N', hks, hk, ho⟩
    simp only [Nat.zero_add] at hks ⊢
    have hj : j < ix.length := by
      have := (List.getElem?_eq_some_iff.mp hx).1; simpa using this
    have hxe : x = Value.ref ix[j].1 := by
      have := hx; simp [hj] at this; exact this.symm
    subst hxe
    have sub : ∀ q ∈ NN, q ∈ (own ++ NN) ++ [(kS, seqObj "list" (ks.map Value.ref).toArray e), (a0, seqObj "list" #[] e1)] := fun q hq => List.mem_append_left _ (List.mem_append_right _ hq)
    have nk0 := N' (kS, seqObj "list" (ks.map Value.ref).toArray e) (List.mem_append_right _ (.head _))
    have na0 := N' (a0, seqObj "list" #[] e1) (List.mem_append_right _ (.tail _ (.head _)))
    refine wpAny_bind (wpAny_attempt (key_new (s := { s with heap := h', toks := tk }) Y F' N' (I.more sub) fun k h2 tk2 own2 F2 N2 hk2 hn2 => ?_))
    try dsimp only
    have nk := N2 (kS, seqObj "list" (ks.map Value.ref).toArray e) (List.mem_append_right _ (List.mem_append_right _ (.head _)))
    have na := N2 (a0, seqObj "list" #[] e1) (List.mem_append_right _ (List.mem_append_right _ (.tail _ (.head _))))
    have s1 := Heap.SameBut.update h2 kS (Obj.mapSeq (·.push (Value.ref k)))
    obtain ⟨c2, hc2⟩ : ∃ c2, (h2.update kS (Obj.mapSeq (·.push (Value.ref k)))).get? kS = some (seqObj "list" ((ks.map Value.ref).toArray.push (Value.ref k)) c2) := ⟨_, get?_update_seq nk.1 (·.push (Value.ref k))⟩
    have hz : (ks.map Value.ref).toArray.size = j := by simp [hks]
    have ea : (ks.map Value.ref).toArray.push (Value.ref k) = ((ks ++ [k]).map Value.ref).toArray := by simp
    have hn2' : ∀ p ∈ own2, p.1 ≠ kS ∧ p.1 ≠ a0 := fun p hp => by
      have z : h'.get? p.1 = none := hn2 p hp
      refine ⟨fun q => ?_, fun q => ?_⟩
      · rw [q, nk0.1] at z; cases z
      · rw [q, na0.1] at z; cases z
    refine wpAny_bind (listUpdate_at nk.1 rfl ?_ (by rw [sizeLine_eq]; omega) (Nat.le_trans (Nat.le_of_eq (Array.size_push ..)) (by rw [sizeLine_eq]; omega)))
    refine wpAny_pure ⟨rfl, _, _, ks ++ [k], own2 ++ own, c2, rfl, ksk_fr F2 s1 nk.2.1 nk.2.2, fun p hp => ?_, by simp [hks], fun i h1 h2' => ?_, fun p hp => ?_⟩
    · rcases List.mem_append.mp hp with hp | hp
      · refine ksk_news (news := own2 ++ (own ++ NN)) (fun q hq => N2 q ?_) s1 (fun q hq => ?_) p (by rw [List.append_assoc] at hp; exact hp)
        · rcases List.mem_append.mp hq with hq | hq
          · exact List.mem_append_left _ hq
          · exact List.mem_append_right _ (List.mem_append_left _ hq)
        · rcases List.mem_append.mp hq with hq | hq
          · exact (hn2' q hq).1
          · rcases List.mem_append.mp hq with hq | hq
            · exact (ho q hq).1
            · exact hnk q hq
      · rcases List.mem_cons.mp hp with rfl | hp
        · rw [← ea]; exact ⟨hc2, nk.2⟩
        · rw [List.mem_singleton.mp hp]
          exact ⟨(s1.2 a0 hka.symm).trans na.1, na.2⟩
    · by_cases hi : i < ks.length
      · rw [List.getElem_append_left hi]
        exact (hk i hi h2').more fun q hq => List.mem_append_right _ hq
      · have hij : i = j := by simp at h1; omega
        subst hij
        have e3 : (ks ++ [k])[i] = k := by rw [List.getElem_append_right (by omega)]; simp
        rw [e3]
        exact hk2.more fun q hq => List.mem_append_left _ hq
    · rcases List.mem_append.mp hp with hp | hp
      · exact hn2' p hp
      · exact ho p hp
  case done =>
    rintro s' ⟨h', tk, ks, own, e, rfl, F', N', hks, hk, ho⟩
    have hl : ks.length = ix.length := by rw [hks]; simp
    have nk := N' (kS, seqObj "list" (ks.map Value.ref).toArray e) (List.mem_append_right _ (.head _))
    have sub : ∀ q ∈ NN, q ∈ own ++ NN := fun q hq => List.mem_append_right _ hq
    try dsimp only
    refine wpAny_bind (listItems_at nk.1 rfl ?_)
    refine ks_end_ B X T F' N' hka (fun q hq => ?_) (fun q hq => ?_) (I.more sub) (O.more sub) hl (fun j h1 h2 => (hk j h1 h2).more fun q hq => List.mem_append_left _ hq) h64 fun h3 tk3 c F3 N3 => h h3 tk3 c F3 fun q hq => N3 q ?_
    · rcases List.mem_append.mp hq with hq | hq
      · exact (ho q hq).1
      · exact hnk q hq
    · rcases List.mem_append.mp hq with hq | hq
      · exact (ho q hq).2
      · exact hna q hq
    · rcases List.mem_cons.mp hq with rfl | hq
      · exact .head _
      · exact .tail _ (List.mem_append_right _ hq)
theorem ks_sort_ {a : KA} {wide : Int} {ix : List It} {a0 : Addr} {n : Nat} {NN : List (Addr × Obj)} {P : PySem.Fin → Shared → Prop} (B : Below callerA base [] g) (X : (K0 w.params).In g) (Y : (KY w.params : Frag).In g) (T : Top p loose mean mg mb g)
    (F : Fr g L0 s.heap m) (N : News g L0 s.heap NN) (ho : s.heap.get? a0 = some (seqObj "list" (ix.map fun t => Value.ref t.1).toArray n)) (haL : a0 ≠ L0) (ha0 : g.get? a0 = none) (hna : ∀ p ∈ NN, p.1 ≠ a0)
    (I : LamIn a w.params NN wide) (O : ItOk NN wide ix) (h64 : ix.length < 64)
    (h : ∀ h' tk c, Fr g L0 h' m → News g L0 h' ((a0, seqObj "list" ((srtL (ordOf wide) ix).map fun t => Value.ref t.1).toArray c) :: NN) → P (.done (.ret .none)) { s with heap := h', toks := tk }) :
    wpAny (model prg w) (lawA L0).in1.in1 (ksk_tree a0 (.ref a.K) false) P E s := by
  have ha : a0 < s.heap.objs.size := Heap.lt_size ho
  have s1 := Heap.SameBut.update s.heap a0 (Obj.mapSeq fun _ => (#[] : Array Value))
  obtain ⟨e1, ho1⟩ : ∃ e1, (s.heap.update a0 (Obj.mapSeq fun _ => (#[] : Array Value))).get? a0 = some (seqObj "list" #[] e1) := ⟨_, get?_update_seq ho fun _ => #[]⟩
  have F1 := ksk_fr F s1 haL ha0
  have N1 := ksk_news N s1 hna
  have hkS : ((s.heap.update a0 (Obj.mapSeq fun _ => (#[] : Array Value))).push (seqObj "tuple" (ix.map fun t => Value.ref t.1).toArray 0)).objs.size = s.heap.objs.size + 1 := by rw [size_push', Heap.size_update]
  have hLk : L0 < ((s.heap.update a0 (Obj.mapSeq fun _ => (#[] : Array Value))).push (seqObj "tuple" (ix.map fun t => Value.ref t.1).toArray 0)).objs.size := (F1.push _).ns.lt
  unfold ksk_tree
  refine wpAny_bind (listItems_at ho rfl ?_)
  refine wpAny_bind (listUpdate_at ho rfl ?_ (by rw [List.size_toArray, List.length_map, sizeLine_eq]; omega) (Nat.zero_le _))
  refine wpAny_bind (seqEpoch_at ho1 rfl ?_)
  refine wpAny_bind (wpAny_newTuple ?_ (by show (List.map (fun t : It => Value.ref t.1) ix).length ≤ _; rw [List.length_map, sizeLine_eq]; omega))
  refine wpAny_bind (wpAny_newList ?_ (Nat.zero_le _))
  refine wpAny_holding ?_
  obtain ⟨sh, sg, sd, st, so⟩ := s
  dsimp only at *
  with_reducible refine ks_rest_ (m := m) (P := P) (E := E) (NN := NN) (wide := wide) B X Y T ?_ ?_ ?_ ?_ hna I O h64 ?_
  · exact (F1.push _).push _
  rotate_left
  · rw [hkS]; exact Nat.ne_of_gt (Nat.lt_succ_of_lt ha)
  · intro p hp; rw [hkS]; exact Nat.ne_of_lt (Nat.lt_succ_of_lt (Heap.lt_size (N p hp).1))
  · exact h
  intro p hp
  rcases List.mem_append.mp hp with hp | hp
  · exact ⟨Heap.get?_push_of_some _ (Heap.get?_push_of_some _ (N1 p hp).1), (N1 p hp).2⟩
  · rcases List.mem_cons.mp hp with rfl | hp
    · exact ⟨Heap.get?_push_size _ rfl, Nat.ne_of_gt hLk, Heap.get?_none_of_le (Nat.le_trans F.above (Nat.le_of_lt hLk))⟩
    · rw [List.mem_singleton.mp hp]
      exact ⟨Heap.get?_push_of_some _ (Heap.get?_push_of_some _ ho1), haL, ha0⟩
theorem ks_sorted {a : KA} {wide : Int} {ix : List It} {l : Addr} {NN : List (Addr × Obj)} {Q : Value → Shared → Prop} (B : Below callerA base [] g) (X : (K0 w.params).In g) (Y : (KY w.params : Frag).In g) (T : Top p loose mean mg mb g)
    (F : Fr g L0 s.heap m) (N : News g L0 s.heap NN) (hl : s.heap.IsList l (ix.map fun t => Value.ref t.1).toArray)
    (I : LamIn a w.params NN wide) (O : ItOk NN wide ix) (h64 : ix.length < 64)
    (h : ∀ D h' tk c, Fr g L0 h' m → News g L0 h' ((D, seqObj "list" ((srtL (ordOf wide) ix).map fun t => Value.ref t.1).toArray c) :: NN) → (∀ q ∈ NN, q.1 < D) → Q (.ref D) { s with heap := h', toks := tk }) :
    wpAny (model prg w) (lawA L0) (call (.builtin "sorted") [.ref l] [(Str.ofString "key", .ref a.K)]) Q E s := by
  refine call_function_entry_kw kind_sorted plain_sorted entry_sorted (ksk_s1 _ _) ?_
  unfold Builtin.«sorted»
  refine wpAny_bind (m := checkCount "sorted" 1 1 _) (wpAny_pure ?_)
  refine wpAny_bind (collect_list hl ?_ (by rw [List.length_map, sizeLine_eq]; omega))
  refine wpAny_bind (wpAny_newList ?_ (by show (List.map (fun t : It => Value.ref t.1) ix).length ≤ _; rw [List.length_map, sizeLine_eq]; omega))
  have hsz : ((s.heap.push (seqObj "list" #[] 0)).update s.heap.objs.size (Obj.mapSeq (· ++ (ix.map fun t => Value.ref t.1).toArray))).objs.size = s.heap.objs.size + 1 := by
    rw [Heap.size_update, size_push']
  have hoL : (((s.heap.push (seqObj "list" #[] 0)).update s.heap.objs.size (Obj.mapSeq (· ++ (ix.map fun t => Value.ref t.1).toArray))).push (seqObj "list" (ix.map fun t => Value.ref t.1).toArray 0)).get? (s.heap.objs.size + 1) = some (seqObj "list" (ix.map fun t => Value.ref t.1).toArray 0) := by
    rw [← hsz]; exact Heap.get?_push_size _ rfl
  have keep : ∀ b o, s.heap.get? b = some o → (((s.heap.push (seqObj "list" #[] 0)).update s.heap.objs.size (Obj.mapSeq (· ++ (ix.map fun t => Value.ref t.1).toArray))).push (seqObj "list" (ix.map fun t => Value.ref t.1).toArray 0)).get? b = some o := fun b o q => by
    have hlt : b < s.heap.objs.size := Heap.lt_size q
    rw [Heap.get?_push_ne _ _ _ (by rw [hsz]; exact Nat.ne_of_lt (Nat.lt_succ_of_lt hlt)), Heap.get?_update_ne _ _ _ _ (Nat.ne_of_lt hlt), Heap.get?_push_ne _ _ _ (Nat.ne_of_lt hlt)]
    exact q
  have hL : L0 < s.heap.objs.size := F.ns.lt
  show wpAny _ _ _ _ _ { s with heap := ((s.heap.push (seqObj "list" #[] 0)).update s.heap.objs.size (Obj.mapSeq (· ++ (ix.map fun t => Value.ref t.1).toArray))).push (seqObj "list" (ix.map fun t => Value.ref t.1).toArray 0) }
  rw [hsz]
  refine wpAny_bind (wpAny_holding (wpAny_call_entry_kw slot_list_sort ⟨_, hoL, rfl⟩ entry_list_sort ?body (ksk_l1 _ _)))
  case body =>
    show wpAny (model prg w) (lawA L0).in1.in1 (Builtin.«list.sort» ⟨[.ref (s.heap.objs.size + 1)], [(Str.ofString "key", .ref a.K)]⟩) _ _ _
    rw [ksk_t1]
    refine ks_sort_ (s := { s with heap := ((s.heap.push (seqObj "list" #[] 0)).update s.heap.objs.size (Obj.mapSeq (· ++ (ix.map fun t => Value.ref t.1).toArray))).push (seqObj "list" (ix.map fun t => Value.ref t.1).toArray 0) })
      B X Y T (F.kept keep) (N.grown keep) hoL (Nat.ne_of_gt (Nat.lt_succ_of_lt hL)) (Heap.get?_none_of_le (Nat.le_trans F.above (Nat.le_succ_of_le (Nat.le_of_lt hL))))
      (fun p hp => Nat.ne_of_lt (Nat.lt_succ_of_lt (Heap.lt_size (N p hp).1))) I O h64 fun h' tk c F' N' => ⟨_, rfl, ?_⟩
    exact wpAny_pure ⟨_, rfl, h _ h' tk c F' N' (fun q hq => Nat.lt_succ_of_lt (Heap.lt_size (N q hq).1))⟩
end
section
variable {g hp h' : Heap} {L : Addr} {m : Str → Option Value} {news L1 : List (Addr × Obj)} {ot : Obj} {o0 : Obj}
theorem mem_keep72 (D : PySem.W.X.Mem hp h' [(72, ot)] L1) : ∀ b o, b ≠ 72 → hp.get? b = some o → h'.get? b = some o := fun b o n e => D.keep b o e (by
  have z : Nat.beq 72 b = false := by
    cases q : Nat.beq 72 b with
    | false => rfl
    | true => exact absurd (Nat.eq_of_beq_eq_true q).symm n
  have : PySem.W.X.away [(72, ot)] b = true := by
    show (!(Nat.beq 72 b) && true) = true
    rw [z]; rfl
  rw [this]; simp)
theorem mem_fr72 (D : PySem.W.X.Mem hp h' [(72, ot)] L1) (F : Fr g L hp m) (N : News g L hp ((72, o0) :: news)) : Fr g L h' m := by
  have z := N _ (.head _)
  obtain ⟨⟨oL, es, ep, hL, r⟩, k, a⟩ := F
  refine ⟨⟨oL, es, ep, mem_keep72 D _ _ (Ne.symm z.2.1) hL, r⟩, fun b o e => mem_keep72 D _ _ (fun q => ?_) (k b o e), a⟩
  rw [q, z.2.2] at e; cases e
theorem mem_news72 (D : PySem.W.X.Mem hp h' [(72, ot)] L1) (F : Fr g L hp m) (N : News g L hp ((72, o0) :: news)) (hn : ∀ q ∈ news, q.1 ≠ 72) : News g L h' (L1 ++ (72, ot) :: news) := fun p q => by
  rcases List.mem_append.mp q with q | q
  · have z := D.nw p q
    refine ⟨z.1, fun e => ?_, ?_⟩
    · obtain ⟨oL, _, _, hL, _⟩ := F.ns
      rw [e, hL] at z; exact absurd z.2 (by simp)
    · cases y : g.get? p.1 with
      | none => rfl
      | some o => have := F.keep _ _ y; rw [z.2] at this; cases this
  · rcases List.mem_cons.mp q with rfl | q
    · exact ⟨(D.ch _ (.head _)).1, (N _ (.head _)).2⟩
    · exact ⟨mem_keep72 D _ _ (hn p q) (N p (.tail _ q)).1, (N p (.tail _ q)).2⟩
end
theorem ctk_k {w : World} {L0 lam : Addr} {g : Heap} {s : Shared} {m : Str → Option Value} {news : List (Addr × Obj)} {E : Value → Shared → Prop} {Q : Value → Shared → Prop}
  (Y : (KY w.params : Frag).In g) (F : Fr g L0 s.heap m) (N : News g L0 s.heap ((72, tabObj #[]) :: news)) (hn : ∀ q ∈ news, q.1 ≠ 72)
  (hQ : ∀ (a : KA) h' tk own c1, Fr g L0 h' m → News g L0 h' (own ++ (72, tabObj #[rawInt 39, rawInt 4, .ref c1]) :: news) → a.In w.params lam own → Q (.ref a.K) { s with heap := h', toks := tk })
  : wpAny (model prg w) (lawA L0) (call (.ref 77) [.ref lam]) Q E s := by
  obtain ⟨hp, gg, d, t, os⟩ := s
  have hX : (KX w.params : Frag).In hp := fun b o e => by
    have e' : List.lookup b ((72, tabObj #[]) :: (K1 w.params ++ K0 w.params)) = some o := e
    simp only [List.lookup] at e'
    split at e'
    · rename_i q; cases e'; rw [beq_iff_eq.mp q]; exact (N _ (.head _)).1
    · exact (Y.keeps F.keep) b o e'
  exact ctk_call hX fun a L c1 h' tk D I => hQ a h' tk L c1 (mem_fr72 D F N) (mem_news72 D F N hn) I
section
local macro_rules | `(tactic| walk_at $s:str) => `(tactic| k_extra $s)
theorem rs_P6 : True := by w_top off; k_with_none; trivial
theorem rk_P6_mac1_8 : True := by
  k_with "subscriptTail" => (k_here; (with_reducible show wpAny _ _ (subscriptTail _ _ (Value.ref _) (Value.int (-1) _)) _ _ _); (k_dflt (refine' item_neg1 (by k_asm) (by k_mem) ?_ (by with_unfolding_all rfl))); k_whole)
  k_with "binaryOp Add ref ref" => (k_here; (with_reducible show wpAny _ _ (binaryOp Operator.Add (Value.ref _) (Value.ref _)) _ _ _); (k_dflt (refine' add_lst (by k_asm) (by k_asm) (by k_mem) (by k_mem) (by first | with_reducible assumption | exact Nat.le_of_ble_eq_true rfl) (by first | with_reducible assumption | exact Nat.le_of_ble_eq_true rfl) ?_)); k_whole; intro D'q h'q F'q N'q; (try k_sweep))
  k_with "subscriptTail Name Slice ref ref" => (k_here; (with_reducible show wpAny _ _ (subscriptTail _ (Expr.Slice none (some (Expr.UnaryOp _ _ _)) none _) _ _) _ _ _); (k_dflt (refine' slice_m1 (s := ⟨_, _, _, _, _⟩) (by k_asm) (by k_asm) (by k_mem) (by with_reducible assumption) ?_ (by with_unfolding_all rfl) (by intro _; with_unfolding_all rfl))); k_whole; intro D'q h'q F'q N'q; (try k_sweep))
  trivial
section
variable {w : World} {A₀ : Around} {base g : Heap} {outer : List Env} {L0 L : Addr} {m mg mb : Str → Option Value} {p : Program} {loose : List Str} {mean : ExcName → Option Value} {news : List (Addr × Obj)} {s : Shared}
  {Q : Flow → Shared → Prop} {E : Value → Shared → Prop}
theorem gat2_nil {L1 : Addr} {a b k : Int} {ta tb tk t1 : Tok} {wd : Str} {R I W : Addr} {n n1 n2 : Nat}
  (B : Below ((lawA L0).deeper (redEnv L1)) base outer g) (F : Fr g L s.heap (fun y => [(Str.ofString "report", Value.ref R), (Str.ofString "item", Value.ref I)].reverse.lookup y)) (X : (K0 w.params).In g)
  (N : News g L s.heap ((R, listOf #[] n) :: (I, { cls := .type "tuple", data := .seq #[.ref W, .str wd t1, .int k tk] n1 }) :: (W, listOf #[.int a ta, .int b tb] n2) :: news)) (T : Top p loose mean mg mb g)
  (hQ : ∀ D l l1 l2 l3 h' tk' m', Fr g L h' m' → News g L h' ((D, listOf #[.ref l1] 0) :: (l, listOf #[.ref l1] 0) :: (l1, listOf #[.str wd t1, .ref l2] 0) :: (l2, listOf #[.int k tk] 0) :: (l3, listOf #[] 0) :: (R, listOf #[] n) :: (I, { cls := .type "tuple", data := .seq #[.ref W, .str wd t1, .int k tk] n1 }) :: (W, listOf #[.int a ta, .int b tb] n2) :: news) → Q (.ret (.ref D)) { s with heap := h', toks := tk' })
  : wpAny (model PySem.Challenge.rw_in0014_01.row.prog w) (((lawA L0).deeper (redEnv L1)).deeper (gatEnv L)) (execs b_gat (gatEnv L)) Q E s := by
  revert X; k_fill; intro X
  k_steps
  all_goals exact hQ _ _ _ _ _ _ _ _ (by assumption) (by assumption)
theorem gat2_cons {L1 : Addr} {a b k : Int} {ta tb tk t1 : Tok} {wd wd' : Str} {R I W Ea Ia : Addr} {n n1 n2 n3 n4 : Nat} {xs ys : List Value} {t3 : Tok} {ds es : List Dat}
  (hxs : xs.length ≤ 1000) (hys : ys.length ≤ 1000)
  (B : Below ((lawA L0).deeper (redEnv L1)) base outer g) (F : Fr g L s.heap (fun y => [(Str.ofString "report", Value.ref R), (Str.ofString "item", Value.ref I)].reverse.lookup y)) (X : (K0 w.params).In g)
  (N : News g L s.heap ((R, listOf (xs ++ [Value.ref Ea]).toArray n) :: (Ea, listOf #[.str wd' t3, .ref Ia] n3) :: (Ia, listOf ys.toArray n4) :: (I, { cls := .type "tuple", data := .seq #[.ref W, .str wd t1, .int k tk] n1 }) :: (W, listOf #[.int a ta, .int b tb] n2) :: news)) (T : Top p loose mean mg mb g)
  (D1 : DatAll ((R, listOf (xs ++ [Value.ref Ea]).toArray n) :: (Ea, listOf #[.str wd' t3, .ref Ia] n3) :: (Ia, listOf ys.toArray n4) :: (I, { cls := .type "tuple", data := .seq #[.ref W, .str wd t1, .int k tk] n1 }) :: (W, listOf #[.int a ta, .int b tb] n2) :: news) (xs ++ [Value.ref Ea]) (ds ++ es))
  (hok : ∀ d ∈ ds ++ es, kqdOk 8 d = true) (hne : (!decide (ds ++ es = [])) = true)
  (hQ1 : ∀ D l l1 l2 l3 D1 D2 h' tk' m', (wd' == wd) = true → Fr g L h' m' → News g L h' ((D, listOf (xs ++ [Value.ref l1]).toArray 0) :: (l, listOf #[.ref l1] 0) :: (l1, listOf #[.str wd t1, .ref D1] 0) :: (D1, listOf (ys ++ [Value.int k tk]).toArray 0) :: (l2, listOf #[.int k tk] 0) :: (D2, listOf xs.toArray 0) :: (l3, listOf #[] 0) :: (R, listOf (xs ++ [Value.ref Ea]).toArray n) :: (Ea, listOf #[.str wd' t3, .ref Ia] n3) :: (Ia, listOf ys.toArray n4) :: (I, { cls := .type "tuple", data := .seq #[.ref W, .str wd t1, .int k tk] n1 }) :: (W, listOf #[.int a ta, .int b tb] n2) :: news) → Q (.ret (.ref D)) { s with heap := h', toks := tk' })
  (hQ2 : ∀ D l l1 l2 l3 h' tk' m', (wd' == wd) = false → Fr g L h' m' → News g L h' ((D, { cls := .type "list", data := .seq (xs ++ [Value.ref Ea] ++ [Value.ref l1]).toArray }) :: (l, listOf #[.ref l1] 0) :: (l1, listOf #[.str wd t1, .ref l2] 0) :: (l2, listOf #[.int k tk] 0) :: (l3, listOf #[] 0) :: (R, listOf (xs ++ [Value.ref Ea]).toArray n) :: (Ea, listOf #[.str wd' t3, .ref Ia] n3) :: (Ia, listOf ys.toArray n4) :: (I, { cls := .type "tuple", data := .seq #[.ref W, .str wd t1, .int k tk] n1 }) :: (W, listOf #[.int a ta, .int b tb] n2) :: news) → Q (.ret (.ref D)) { s with heap := h', toks := tk' })
  : wpAny (model PySem.Challenge.rw_in0014_01.row.prog w) (((lawA L0).deeper (redEnv L1)).deeper (gatEnv L)) (execs b_gat (gatEnv L)) Q E s := by
  revert X; k_fill; intro X
  k_steps
  · exact hQ1 _ _ _ _ _ _ _ _ _ _ (by assumption) (by assumption) (by assumption)
  · exact hQ2 _ _ _ _ _ _ _ _ (by assumption) (by assumption) (by assumption)
end
section
variable {w : World} {A₀ : Around} {base g : Heap} {outer : List Env} {L0 L : Addr} {m mg mb : Str → Option Value} {p : Program} {loose : List Str} {mean : ExcName → Option Value} {news : List (Addr × Obj)} {s : Shared}
  {Q : Flow → Shared → Prop} {E : Value → Shared → Prop}
theorem gat2_spec {L1 : Addr} {rep : List (Str × List Int)} {a b k : Int} {ta tb tk t1 : Tok} {wd : Str} {R I W : Addr} {n1 n2 : Nat}
  (hok : repOk rep) (B : Below ((lawA L0).deeper (redEnv L1)) base outer g) (F : Fr g L s.heap (fun y => [(Str.ofString "report", Value.ref R), (Str.ofString "item", Value.ref I)].reverse.lookup y)) (X : (K0 w.params).In g)
  (N : News g L s.heap news) (T : Top p loose mean mg mb g) (hR : DatIn news (.ref R) (.list (repD rep))) (hI : (I, ({ cls := .type "tuple", data := .seq #[.ref W, .str wd t1, .int k tk] n1 } : Obj)) ∈ news) (hW : (W, listOf #[.int a ta, .int b tb] n2) ∈ news)
  (hQ : ∀ D h' tk' m' news', Fr g L h' m' → News g L h' news' → (∀ p ∈ news, p ∈ news') → DatIn news' (.ref D) (.list (repD (gath rep wd k))) → Q (.ret (.ref D)) { s with heap := h', toks := tk' })
  : wpAny (model PySem.Challenge.rw_in0014_01.row.prog w) (((lawA L0).deeper (redEnv L1)).deeper (gatEnv L)) (execs b_gat (gatEnv L)) Q E s := by
  obtain ⟨R', vs, n, e, hRm, hRd⟩ := dat_inv_list hR
  cases e
  rcases List.eq_nil_or_concat rep with rfl | ⟨r0, e0, rfl⟩
  · obtain rfl := dat_inv_nil hRd
    refine gat2_nil B F X (news_mem (news_mem (news_mem N hW) (.tail _ hI)) (.tail _ (.tail _ hRm))) T fun D l l1 l2 l3 h' tk' m' F' N' => ?_
    refine hQ D h' tk' m' _ F' N' (fun p hp => by simp [hp]) ?_
    refine .list (vs := [_]) (.head _) (.cons (.list (vs := [_, _]) (by repeat (first | exact List.Mem.head _ | refine List.Mem.tail _ ?_)) (.cons (.str _ _) (.cons (.list (vs := [_]) (n := 0) (a := l2) (by repeat (first | exact List.Mem.head _ | refine List.Mem.tail _ ?_)) (.cons (.int _ _) .nil)) .nil))) .nil)
  · rw [List.concat_eq_append] at hRd hok hQ
    rw [repD_append] at hRd
    obtain ⟨xs, v, rfl⟩ : ∃ xs v, vs = xs ++ [v] := by
      rcases List.eq_nil_or_concat vs with rfl | ⟨xs, v, rfl⟩
      · have := hRd.length; simp [repD] at this
      · exact ⟨xs, v, List.concat_eq_append⟩
    obtain ⟨es, d, e1, hxs, hv⟩ := hRd.snoc
    obtain ⟨rfl, rfl⟩ : repD r0 = es ∧ d = .list [.str e0.1, .list (e0.2.map .int)] := by
      have := List.append_inj' e1 rfl
      refine ⟨this.1, ?_⟩
      have := this.2
      simp [repD] at this
      exact this.symm
    obtain ⟨Ea, es', n3, rfl, hEm, hEd⟩ := dat_inv_list hv
    obtain ⟨u1, u2, rfl, h1, h2⟩ := dat_inv_two hEd
    obtain ⟨t3, rfl⟩ := dat_inv_str h1
    obtain ⟨Ia, ys, n4, rfl, hIm, hId⟩ := dat_inv_list h2
    have l1 : xs.length ≤ 1000 := by have := hxs.length; have := hok.1; simp [repD] at *; omega
    have l2 : ys.length ≤ 1000 := by have := hId.length; have := (hok.2 e0 (by simp)).2; simp at *; omega
    have N1 := news_mem (news_mem (news_mem (news_mem (news_mem N hW) (.tail _ hI)) (.tail _ (.tail _ hIm))) (.tail _ (.tail _ (.tail _ hEm)))) (.tail _ (.tail _ (.tail _ (.tail _ hRm))))
    have up : ∀ (q : List (Addr × Obj)), ∀ p ∈ news, p ∈ q ++ news := fun q p hp => List.mem_append.mpr (.inr hp)
    have gl : (r0 ++ [e0]).getLast? = some e0 := by simp
    refine gat2_cons (ds := repD r0) (es := repD [e0]) l1 l2 B F X N1 T (DatAll.mono (up [_, _, _, _, _]) (by exact hRd)) (by rw [← repD_append]; exact kqdOk_rep hok) (by simp [repD]) ?_ ?_
    · intro D l l1 l2 l3 D1 D2 h' tk' m' hw F' N'
      refine hQ D h' tk' m' _ F' N' (up [_, _, _, _, _, _, _, _, _, _, _, _]) ?_
      have e : gath (r0 ++ [e0]) wd k = r0 ++ [(wd, e0.2 ++ [k])] := by unfold gath; rw [gl]; simp [hw]
      rw [e, repD_append]
      refine .list (.head _) (DatAll.append (DatAll.mono (up [_, _, _, _, _, _, _, _, _, _, _, _]) hxs) (.cons (.list (vs := [_, _]) (n := 0) (by repeat (first | exact List.Mem.head _ | refine List.Mem.tail _ ?_)) (.cons (.str _ _) (.cons (.list (n := 0) (a := D1) (vs := ys ++ [Value.int k tk]) (by repeat (first | exact List.Mem.head _ | refine List.Mem.tail _ ?_)) ?_) .nil))) .nil))
      rw [List.map_append]
      exact DatAll.append (DatAll.mono (up [_, _, _, _, _, _, _, _, _, _, _, _]) hId) (.cons (.int _ _) .nil)
    · intro D l l1 l2 l3 h' tk' m' hw F' N'
      refine hQ D h' tk' m' _ F' N' (up [_, _, _, _, _, _, _, _, _, _]) ?_
      have e : gath (r0 ++ [e0]) wd k = (r0 ++ [e0]) ++ [(wd, [k])] := by unfold gath; rw [gl]; simp [hw]
      rw [e, repD_append, repD_append]
      refine .list (.head _) (DatAll.append (DatAll.mono (up [_, _, _, _, _, _, _, _, _, _]) hRd) (.cons (.list (vs := [_, _]) (n := 0) (a := l1) (by repeat (first | exact List.Mem.head _ | refine List.Mem.tail _ ?_)) (.cons (.str _ _) (.cons (.list (n := 0) (a := l2) (vs := [Value.int k tk]) (by repeat (first | exact List.Mem.head _ | refine List.Mem.tail _ ?_)) ?_) .nil))) .nil))
      exact .cons (.int _ _) .nil
end
end
section
variable {prog : Program} {w : World} {A : Around} {E : Value → Shared → Prop} {s : Shared} {h₀ : Heap} {L a : Addr} {m : Str → Option Value} {news : List (Addr × Obj)} {Q : Value → Shared → Prop} {xs : List Value} {n : Nat}
noncomputable abbrev liO (a : Addr) (i : Nat) : Obj := { cls := .type "list_iterator", data := .fields #[.ref a, .int i 0] }
theorem itl_iter (F : Fr h₀ L s.heap m) (N : News h₀ L s.heap news) (hm : (a, listOf xs.toArray n) ∈ news)
    (h : ∀ I h', Fr h₀ L h' m → News h₀ L h' ((I, liO a 0) :: news) → (∀ p ∈ news, p.1 < I) → Q (.ref I) { s with heap := h' }) :
    wpAny (model prog w) A (call (.builtin "iter") [.ref a]) Q E s := by
  refine PySem.Calls.call_function_entry (by decide +kernel) (by decide +kernel) kdk_entry_iter (kdk_args_iter _) ?_
  unfold Builtin.«iter»
  refine wpAny_bind (m := someArgs "iter" 1 2 _) (wpAny_of_eq (a := [Value.ref a]) (by first | rfl | kernel_rfl!) ?_)
  show wpAny _ _ (pyIter (.ref a) >>= _) _ _ _
  refine wpAny_bind (wpAny_pyIter_list (isList_of N hm) ?_)
  exact wpAny_pure ⟨_, rfl, h _ _ (F.push _) (News.push F N _ rfl) (fun q hq => Heap.lt_size (N q hq).1)⟩
end
section
variable {prog : Program} {w : World} {A : Around} {E : Value → Shared → Prop} {s : Shared} {env : Env} {h₀ : Heap} {x : Str} {body : List Stmt} {Q : Flow → Shared → Prop}
/-- a loop over a list iterator that lies in the ledger: J is kept turn by turn -/
theorem itl_loop {I ax : Addr} {vs : List Value} {n : Nat} {m₀ : Str → Option Value} {news : List (Addr × Obj)} (J : Nat → (Str → Option Value) → List (Addr × Obj) → Prop)
    (hh : A.handled = none) (F : Fr h₀ env.locals s.heap m₀) (N : News h₀ env.locals s.heap ((I, liO ax 0) :: news)) (hm : (ax, listOf vs.toArray n) ∈ news) (hI : ∀ p ∈ news, p.1 ≠ I)
    (h0 : J 0 m₀ news)
    (turn : ∀ i v m₁ news₁ it h tk, vs[i]? = some v → J i m₁ news₁ → (∀ p ∈ news₁, p.1 ≠ I) → (ax, listOf vs.toArray n) ∈ news₁ → it.cls = .type "list_iterator" → Fr h₀ env.locals h (fun y => if y = x then some v else m₁ y) → News h₀ env.locals h ((I, it) :: news₁) →
      wpAny (model prog w) A (execs body env) (fun f s₂ => f = .next ∧ ∃ h' tk' m' news', s₂ = { s with heap := h', toks := tk' } ∧ Fr h₀ env.locals h' m' ∧ News h₀ env.locals h' ((I, it) :: news') ∧ (∀ p ∈ news', p.1 ≠ I) ∧ (ax, listOf vs.toArray n) ∈ news' ∧ J (i + 1) m' news') E { s with heap := h, toks := tk })
    (done : ∀ h' tk m' news', Fr h₀ env.locals h' m' → News h₀ env.locals h' news' → J vs.length m' news' → Q .next { s with heap := h', toks := tk }) :
    wpAny (model prog w) A (pyIter (.ref I)) (fun it s₂ => LoopAtV prog w A h₀ env x body Q E it s₂) E s := by
  have hIm := N (I, liO ax 0) (.head _)
  have N₀ : News h₀ env.locals s.heap news := fun p hp => N p (.tail _ hp)
  have hax := N₀ _ hm
  have hne : ax ≠ I := hI _ hm
  have hl : s.heap.IsList ax vs.toArray := ⟨_, hax.1, rfl, n, rfl⟩
  have hit : s.heap.IsListIter I ax 0 := ⟨_, hIm.1, rfl, rfl⟩
  refine wpAny_pyIter_listiter hit ?_
  have W := Walks.list (prog := prog) (w := w) hh I ax hne vs.toArray
  have hlen : vs.toArray.size = vs.length := by simp
  rw [hlen] at W
  refine ⟨I, _, _, vs.length, _, _, m₀, news, fun i m₁ n₁ => (ax, listOf vs.toArray n) ∈ n₁ ∧ J i m₁ n₁, rfl, W, ?_, ?_, ?_, ⟨hit, hl⟩, F, N₀, ⟨hm, h0⟩, ?_, ?_⟩
  · intro hmm
    rcases List.mem_cons.mp hmm with e | hmm
    · exact hIm.2.1 e.symm
    · exact hax.2.1 (List.mem_singleton.mp hmm).symm
  · intro b hb
    rw [List.mem_singleton.mp hb]; exact hIm.2.2
  · intro p hp hq
    exact hI p hp (List.mem_singleton.mp hq)
  · rintro i v m₁ news₁ s₁ own ⟨hh', tk', rfl⟩ hin hP ⟨hmem₁, hJ⟩ hoff hown hget hall hst F₁ N₁
    obtain ⟨it, hit', hic, hid⟩ := hst.1
    have hmemI := hall I (List.mem_cons_self ..) hIm.2.2 _ hit'
    have hv : vs[i]? = some v := by simpa using hP
    have N₂ : News h₀ env.locals hh' ((I, it) :: news₁) := fun p hp => by
      rcases List.mem_cons.mp hp with rfl | hp
      · exact N₁ _ (List.mem_append_left _ hmemI)
      · exact N₁ _ (List.mem_append_right _ hp)
    refine wpAny_mono (turn i v m₁ news₁ it hh' tk' hv hJ (fun p hp q => hoff p hp (List.mem_singleton.mpr q)) hmem₁ hic F₁ N₂) (fun f s₂ p => ?_) fun _ _ e => e
    obtain ⟨rfl, h', tk, m', news', rfl, F', N', ho, hmm, r⟩ := p
    refine LoopStepV.next ⟨rfl, h', tk, m', news', rfl, F', fun p hp => ?_, fun p hp hq => ho p hp (List.mem_singleton.mp hq), hmm, r⟩
    rcases List.mem_append.mp hp with hp | hp
    · have h2 : hh'.get? p.1 = some p.2 := hget p hp
      rcases List.mem_cons.mp (hown p hp) with h1 | h1
      · have h3 : p = (I, it) := by
          rw [h1, hit'] at h2
          exact Prod.ext h1 (Option.some.inj h2).symm
        rw [h3]; exact N' _ (List.mem_cons_self ..)
      · have h1' : p.1 = ax := List.mem_singleton.mp h1
        have h3 : p = (ax, listOf vs.toArray n) := by
          rw [h1', (N₁ _ (List.mem_append_right _ hmem₁)).1] at h2
          exact Prod.ext h1' (Option.some.inj h2).symm
        rw [h3]; exact N' _ (List.mem_cons_of_mem _ hmm)
    · exact N' _ (List.mem_cons_of_mem _ hp)
  · rintro h' tk m' news' F' N' _ ⟨_, hJ⟩
    exact done h' tk m' news' F' N' hJ
end
section
local macro_rules | `(tactic| walk_at "zz1") => `(tactic| skip)
local macro_rules | `(tactic| walk_at $s:str) => `(tactic| k_extra $s)
theorem rs_P9 : True := by w_top off; k_with_none; trivial
mutual
theorem datIn_of {news news' : List (Addr × Obj)} (hs : ∀ p ∈ news, p.2.cls = .type "tuple" ∨ p.2.cls = .type "list" → p ∈ news') : ∀ {v : Value} {d : Dat}, DatIn news v d → DatIn news' v d
  | _, _, .none => .none
  | _, _, .bool b => .bool b
  | _, _, .int i t => .int i t
  | _, _, .str x t => .str x t
  | _, _, .bytes b t => .bytes b t
  | _, _, .tuple h r => .tuple (hs _ h (.inl rfl)) (datAll_of hs r)
  | _, _, .list h r => .list (hs _ h (.inr rfl)) (datAll_of hs r)
theorem datAll_of {news news' : List (Addr × Obj)} (hs : ∀ p ∈ news, p.2.cls = .type "tuple" ∨ p.2.cls = .type "list" → p ∈ news') : ∀ {vs : List Value} {ds : List Dat}, DatAll news vs ds → DatAll news' vs ds
  | _, _, .nil => .nil
  | _, _, .cons h r => .cons (datIn_of hs h) (datAll_of hs r)
end
/-- the ledger without one address -/
noncomputable def offL (I : Addr) (all : List (Addr × Obj)) : List (Addr × Obj) := all.filter fun p => decide (p.1 ≠ I)
theorem offL_ne {I : Addr} {all : List (Addr × Obj)} : ∀ p ∈ offL I all, p.1 ≠ I := fun p hp => by simpa using (List.mem_filter.mp hp).2
theorem offL_mem {I : Addr} {all : List (Addr × Obj)} {p : Addr × Obj} (hp : p ∈ all) (h : p.1 ≠ I) : p ∈ offL I all := List.mem_filter.mpr ⟨hp, by simpa using h⟩
theorem offL_sub {I : Addr} {all : List (Addr × Obj)} : ∀ p ∈ offL I all, p ∈ all := fun p hp => (List.mem_filter.mp hp).1
theorem offL_news {h₀ h : Heap} {L I : Addr} {it : Obj} {all : List (Addr × Obj)} (N : News h₀ L h all) (hI : (I, it) ∈ all) : News h₀ L h ((I, it) :: offL I all) := fun p hp => by
  rcases List.mem_cons.mp hp with rfl | hp
  · exact N _ hI
  · exact N _ (offL_sub p hp)
theorem offL_dat {h₀ h : Heap} {L I : Addr} {it : Obj} {all : List (Addr × Obj)} (N : News h₀ L h all) (hI : (I, it) ∈ all) (h1 : it.cls ≠ .type "tuple") (h2 : it.cls ≠ .type "list") {v : Value} {d : Dat} (D : DatIn all v d) : DatIn (offL I all) v d :=
  datIn_of (fun p hp hc => offL_mem hp fun e => by
    have e1 := (N p hp).1
    have e2 := (N _ hI).1
    rw [e] at e1
    have e3 : p.2 = it := Option.some.inj (e1.symm.trans e2)
    rw [e3] at hc
    rcases hc with hc | hc
    · exact h1 hc
    · exact h2 hc) D
section
variable {w : World} {A₀ : Around} {base g : Heap} {outer : List Env} {L0 L : Addr} {m mg mb : Str → Option Value} {p : Program} {loose : List Str} {mean : ExcName → Option Value} {news : List (Addr × Obj)} {s : Shared}
  {Q : Flow → Shared → Prop} {E : Value → Shared → Prop}
noncomputable abbrev fl_red : { x : List PySem.Stmt // ∃ t i o q, b_red[2]? = some (.For t i x o q) } := ⟨_, _, _, _, _, rfl⟩
noncomputable abbrev bl_red : List PySem.Stmt := fl_red.1
theorem fr_congr' {h₀ h : Heap} {L : Addr} {m m' : Str → Option Value} (F : Fr h₀ L h m) (e : ∀ y, m y = m' y) : Fr h₀ L h m' := by rw [← funext e]; exact F
noncomputable abbrev mRed (S I0 I D : Addr) (el : Option Value) : Str → Option Value := fun y => if y = Str.ofString "element" then el else if y = Str.ofString "value" then some (.ref D) else if y = Str.ofString "it" then some (.ref I) else [(Str.ofString "function", Value.ref 100), (Str.ofString "sequence", Value.ref S), (Str.ofString "initial", Value.ref I0)].reverse.lookup y
theorem mRed_value (S I0 I D D' : Addr) (el : Option Value) (y : Str) : (if y = Str.ofString "value" then some (Value.ref D') else mRed S I0 I D el y) = mRed S I0 I D' el y := by
  have h : Str.ofString "value" ≠ Str.ofString "element" := by decide
  unfold mRed
  by_cases h1 : y = Str.ofString "value"
  · subst h1; rw [if_pos rfl, if_neg h, if_pos rfl]
  · rw [if_neg h1, if_neg h1, if_neg h1]
theorem rk_P9_red_1 : True := by
  k_with "execs cons" => (k_here; (with_reducible show wpAny _ (Around.deeper _ (gatEnv _)) _ _ _ _); k_dflt (refine' gat2_spec ?okd ?Bd ?Fd ?Xd ?Nd ?Td ?Rd ?Id ?Wd ?_; (case okd => with_reducible assumption); (case Bd => k_asm); (case Fd => k_asm); (case Xd => k_asm); (case Nd => k_asm); (case Td => k_asm); (case Rd => with_reducible assumption); (case Id => with_reducible assumption); (case Wd => with_reducible assumption); k_whole); intro D'q h'q tk'q m'q nw'q F'q N'q hsub'q hdat'q)
  k_with "execs cons" => (k_here; (with_reducible show wpAny _ (Around.deeper _ (gatEnv _)) _ _ _ _); k_dflt (refine' gat2_spec ?okc ?Bc ?Fc ?Xc ?Nc ?Tc ?Rc ?Ic ?Wc ?_; (case okc => with_reducible assumption); (case Bc => k_asm); (case Fc => k_asm); (case Xc => k_asm); (case Nc => k_asm); (case Tc => k_asm); (case Rc => with_reducible assumption); (case Ic => with_reducible assumption); (case Wc => with_reducible assumption); k_whole); intro D'q h'q tk'q m'q nw'q F'q N'q hsub'q hdat'q)
  k_with "execs cons" => (k_here; (with_reducible show wpAny _ (Around.deeper _ (gatEnv _)) _ _ _ _); k_dflt (refine' gat2_spec ?okb ?Bb ?Fb ?Xb ?Nb ?Tb ?Rb ?Ib ?Wb ?_; (case okb => with_reducible assumption); (case Bb => k_asm); (case Fb => k_asm); (case Xb => k_asm); (case Nb => k_asm); (case Tb => k_asm); (case Rb => with_reducible assumption); (case Ib => with_reducible assumption); (case Wb => with_reducible assumption); k_whole); intro D'q h'q tk'q m'q nw'q F'q N'q hsub'q hdat'q)
  k_with "execs cons" => (k_here; (with_reducible show wpAny _ (Around.deeper _ (gatEnv _)) _ _ _ _); k_dflt (refine' gat2_spec ?oka ?Ba ?Fa ?Xa ?Na ?Ta ?Ra ?Ia ?Wa ?_; (case oka => with_reducible assumption); (case Ba => k_asm); (case Fa => k_asm); (case Xa => k_asm); (case Na => k_asm); (case Ta => k_asm); (case Ra => with_reducible assumption); (case Ia => with_reducible assumption); (case Wa => with_reducible assumption); k_whole); intro D'q h'q tk'q m'q nw'q F'q N'q hsub'q hdat'q)
  trivial
theorem red_turn {S I0 I D It W : Addr} {el : Option Value} {rep : List (Str × List Int)} {a b k : Int} {ta tb tk t1 : Tok} {wd : Str} {n1 n2 : Nat} {all : List (Addr × Obj)}
  (hok : repOk rep) (B : Below (lawA L0) base [lawEnv L0] g) (F : Fr g L s.heap (mRed S I0 I D (some (.ref It)))) (X : (K0 w.params).In g)
  (N : News g L s.heap news) (T : Top p loose mean mg mb g) (hR : DatIn news (.ref D) (.list (repD rep))) (hI : (It, ({ cls := .type "tuple", data := .seq #[.ref W, .str wd t1, .int k tk] n1 } : Obj)) ∈ news) (hW : (W, listOf #[.int a ta, .int b tb] n2) ∈ news)
  (hQ : ∀ D' h' tk' news', Fr g L h' (mRed S I0 I D' (some (.ref It))) → News g L h' news' → (∀ p ∈ news, p ∈ news') → DatIn news' (.ref D') (.list (repD (gath rep wd k))) → Q .next { s with heap := h', toks := tk' })
  : wpAny (model PySem.Challenge.rw_in0014_01.row.prog w) ((lawA L0).deeper (redEnv L)) (execs bl_red (redEnv L)) Q E s := by
  revert X; k_fill; intro X
  k_steps
  all_goals exact hQ _ _ _ _ (fr_congr' (by assumption) (mRed_value _ _ _ _ _ _)) (by assumption) (by assumption) (by assumption)
noncomputable abbrev ItRow (news : List (Addr × Obj)) (v : Value) (t : Str × Int) : Prop := ∃ It W t1 tk n1 a b ta tb n2, v = .ref It ∧ (It, ({ cls := .type "tuple", data := .seq #[.ref W, .str t.1 t1, .int t.2 tk] n1 } : Obj)) ∈ news ∧ (W, listOf #[.int a ta, .int b tb] n2) ∈ news
noncomputable def gathAll (rs : List (Str × Int)) : List (Str × List Int) := rs.foldl (fun r t => gath r t.1 t.2) []
theorem red_loop {S I0 I D : Addr} {el : Option Value} {vs : List Value} {rs : List (Str × Int)} {n : Nat}
  (hok : ∀ i ≤ rs.length, repOk (gathAll (rs.take i))) (hlen : vs.length = rs.length) (hrs : ∀ (i : Nat) (v : Value) (t : Str × Int), vs[i]? = some v → rs[i]? = some t → ItRow news v t)
  (B : Below (lawA L0) base [lawEnv L0] g) (F : Fr g L s.heap (mRed S I0 I D el)) (X : (K0 w.params).In g)
  (N : News g L s.heap ((I, liO S 0) :: news)) (hm : (S, listOf vs.toArray n) ∈ news) (hI : ∀ p ∈ news, p.1 ≠ I) (T : Top p loose mean mg mb g) (hD : DatIn news (.ref D) (.list []))
  (hQ : ∀ D' el' h' tk' news', Fr g L h' (mRed S I0 I D' el') → News g L h' news' → (∀ p ∈ news, p ∈ news') → DatIn news' (.ref D') (.list (repD (gathAll rs))) → Q .next { s with heap := h', toks := tk' })
  : wpAny (model PySem.Challenge.rw_in0014_01.row.prog w) ((lawA L0).deeper (redEnv L)) (pyIter (.ref I)) (fun it s₂ => LoopAtV PySem.Challenge.rw_in0014_01.row.prog w ((lawA L0).deeper (redEnv L)) g (redEnv L) (Str.ofString "element") bl_red Q E it s₂) E s := by
  refine itl_loop (I := I) (ax := S) (vs := vs) (n := n) (m₀ := mRed S I0 I D el) (news := news)
    (J := fun i m₁ news₁ => ∃ D' el', m₁ = mRed S I0 I D' el' ∧ (∀ p ∈ news, p ∈ news₁) ∧ DatIn news₁ (.ref D') (.list (repD (gathAll (rs.take i)))))
    rfl F N hm hI ⟨D, el, rfl, fun p hp => hp, hD⟩ ?_ ?_
  · rintro i v m₁ news₁ it h tk hv ⟨D₁, el₁, rfl, hsub, hdat⟩ hoff hm₁ hcls F₁ N₁
    have hi : i < rs.length := by rw [← hlen]; exact (List.getElem?_eq_some_iff.mp hv).1
    obtain ⟨It, W, t1, tk1, n1, a, b, ta, tb, n2, rfl, hIt, hW⟩ := hrs i v rs[i] hv (List.getElem?_eq_getElem hi)
    have e1 : gathAll (rs.take (i + 1)) = gath (gathAll (rs.take i)) rs[i].1 rs[i].2 := by
      rw [List.take_succ_eq_append_getElem hi]; unfold gathAll; rw [List.foldl_append]; rfl
    have up : ∀ p ∈ news₁, p ∈ (I, it) :: news₁ := fun p hp => .tail _ hp
    refine red_turn (S := S) (I0 := I0) (I := I) (D := D₁) (el := none) (all := []) (news := (I, it) :: news₁) (hok i (by omega)) B (fr_congr' F₁ fun y => ?_) X N₁ T (DatIn.mono up hdat) (up _ (hsub _ hIt)) (up _ (hsub _ hW)) fun D' h' tk' news' F' N' hs' hd' => ?_
    · unfold mRed
      by_cases h2 : y = Str.ofString "element"
      · subst h2; rw [if_pos rfl, if_pos rfl]
      · rw [if_neg h2, if_neg h2, if_neg h2]
    · have hIm : (I, it) ∈ news' := hs' _ (.head _)
      refine ⟨rfl, h', tk', _, offL I news', rfl, F', offL_news N' hIm, offL_ne, offL_mem (hs' _ (up _ hm₁)) (hoff _ hm₁), D', _, rfl, fun p hp => offL_mem (hs' _ (up _ (hsub _ hp))) (hI p hp), ?_⟩
      rw [e1]
      exact offL_dat N' hIm (by rw [hcls]; decide) (by rw [hcls]; decide) hd'
  · rintro h' tk m' news' F' N' ⟨D', el', rfl, hsub, hdat⟩
    rw [hlen, List.take_length] at hdat
    exact hQ D' el' h' tk news' F' N' hsub hdat
end
end
section
local macro_rules | `(tactic| walk_at $s:str) => `(tactic| k_extra $s)
theorem rs_P10 : True := by w_top off; k_with_none; trivial
section
variable {w : World} {A₀ : Around} {base g : Heap} {outer : List Env} {L0 L : Addr} {m mg mb : Str → Option Value} {p : Program} {loose : List Str} {mean : ExcName → Option Value} {news : List (Addr × Obj)} {s : Shared}
  {Q : Flow → Shared → Prop} {E : Value → Shared → Prop}
local macro_rules | `(tactic| k_all) => `(tactic| with_reducible assumption)
theorem rk_P10_redspec_1 : True := by
  k_with "call builtin:iter" => (k_here; (refine' itl_iter ?Fd ?Nd ?md ?_; (case Fd => k_asm); (case Nd => k_asm); (case md => k_mem); k_whole); intro I'q h'q F'q N'q hlt'q)
  k_with "call builtin:iter" => (k_here; (refine' itl_iter ?Fc ?Nc ?mc ?_; (case Fc => k_asm); (case Nc => k_asm); (case mc => k_mem); k_whole); intro I'q h'q F'q N'q hlt'q)
  k_with "call builtin:iter" => (k_here; (refine' itl_iter ?Fb ?Nb ?mb ?_; (case Fb => k_asm); (case Nb => k_asm); (case mb => k_mem); k_whole); intro I'q h'q F'q N'q hlt'q)
  k_with "call builtin:iter" => (k_here; (refine' itl_iter ?Fa ?Na ?ma ?_; (case Fa => k_asm); (case Na => k_asm); (case ma => k_mem); k_whole); intro I'q h'q F'q N'q hlt'q)
  trivial
theorem mRed_start (S I0 I : Addr) (y : Str) : (if y = Str.ofString "value" then some (Value.ref I0) else if y = Str.ofString "it" then some (Value.ref I) else [(Str.ofString "function", Value.ref 100), (Str.ofString "sequence", Value.ref S), (Str.ofString "initial", Value.ref I0)].reverse.lookup y) = mRed S I0 I I0 none y := by
  have h : ([(Str.ofString "function", Value.ref 100), (Str.ofString "sequence", Value.ref S), (Str.ofString "initial", Value.ref I0)].reverse.lookup (Str.ofString "element")) = none := rfl
  have h1 : Str.ofString "element" ≠ Str.ofString "value" := by decide
  have h2 : Str.ofString "element" ≠ Str.ofString "it" := by decide
  unfold mRed
  by_cases e : y = Str.ofString "element"
  · subst e; rw [if_neg h1, if_neg h2, if_pos rfl, h]
  · rw [if_neg e]
theorem news_tl {h₀ h : Heap} {q : Addr × Obj} (N : News h₀ L h (q :: news)) : News h₀ L h news := fun p hp => N p (.tail _ hp)
theorem forF {prog : Program} {A : Around} {env : Env} {Q : Flow → Shared → Prop} {x : Str} {px pos : Pos} {iter : PySem.Expr} {body : List Stmt} {h₀ : Heap} (F : Fr h₀ L s.heap m) (hx : env.kindOf x = some .local)
    (hp : (env.scope.kind == .class || (env.scope.kind == .module && env.locals != env.globals)) = false)
    (h : wpAny (model prog w) A (eval iter env) (fun xv s₁ => wpAny (model prog w) A (pyIter xv) (fun it s₂ => LoopAtV prog w A h₀ env x body Q E it s₂) E s₁) E s)
    (hs : ∀ x, foldedSetIterable iter env x = pure x)
    (hE : PassesOwn (model prog w) A env E) :
    wpAny (model prog w) A (exec (.For (.Name x px) iter body [] pos) env) Q E s := For_invV h₀ hx hp h hs hE
theorem is_miss {prog : Program} {A : Around} {I0 : Addr} {k : Nat} {Q : Value → Shared → Prop} (F : Fr g L s.heap m) (X : (K0 w.params).In g) (N : News g L s.heap news) (hI : (I0, listOf #[] k) ∈ news) (h : Q (.bool false) s) :
    wpAny (model prog w) A (compareOp .Is (.ref I0) (.ref 78)) Q E s := by
  have e : g.get? 78 = some { cls := .type "object", data := .plain } := X _ _ (by unfold K0; rfl)
  refine kto_is (N _ hI).1 (F.keep _ _ e) (fun q => ?_) (by show Value.type "list" ≠ Value.type "tuple"; decide) h
  rw [← q, (N _ hI).2.2] at e
  cases e
theorem rk_P10_redspec_3 : True := by
  k_with "compareOp Is ref ref" => (k_here; (with_reducible show wpAny _ _ (compareOp _ _ (Value.ref 78)) _ _ _); (refine' is_miss ?Fd ?Xd ?Nd ?md ?_; (case md => with_reducible assumption); (case Fd => k_asm); (case Xd => assumption); (case Nd => exact news_tl (by with_reducible assumption)); k_whole))
  k_with "compareOp Is ref ref" => (k_here; (with_reducible show wpAny _ _ (compareOp _ _ (Value.ref 78)) _ _ _); (refine' is_miss ?Fc ?Xc ?Nc ?mc ?_; (case mc => with_reducible assumption); (case Fc => k_asm); (case Xc => assumption); (case Nc => exact news_tl (by with_reducible assumption)); k_whole))
  k_with "compareOp Is ref ref" => (k_here; (with_reducible show wpAny _ _ (compareOp _ _ (Value.ref 78)) _ _ _); (refine' is_miss ?Fb ?Xb ?Nb ?mb ?_; (case mb => with_reducible assumption); (case Fb => k_asm); (case Xb => assumption); (case Nb => exact news_tl (by with_reducible assumption)); k_whole))
  k_with "compareOp Is ref ref" => (k_here; (with_reducible show wpAny _ _ (compareOp _ _ (Value.ref 78)) _ _ _); (refine' is_miss ?Fa ?Xa ?Na ?ma ?_; (case ma => with_reducible assumption); (case Fa => k_asm); (case Xa => assumption); (case Na => exact news_tl (by with_reducible assumption)); k_whole))
  k_with "exec For" => (k_here; (refine' forF ?Fd ?ad ?bd ?_ ?cd ?dd; (case Fd => k_asm); (case ad => rfl); (case bd => rfl); (case cd => intro _; rfl); (case dd => first | assumption | passes_own)))
  k_with "exec For" => (k_here; (refine' forF ?Fc ?ac ?bc ?_ ?cc ?dc; (case Fc => k_asm); (case ac => rfl); (case bc => rfl); (case cc => intro _; rfl); (case dc => first | assumption | passes_own)))
  k_with "exec For" => (k_here; (refine' forF ?Fb ?ab ?bb ?_ ?cb ?db; (case Fb => k_asm); (case ab => rfl); (case bb => rfl); (case cb => intro _; rfl); (case db => first | assumption | passes_own)))
  k_with "exec For" => (k_here; (refine' forF ?Fa ?aa ?ba ?_ ?ca ?da; (case Fa => k_asm); (case aa => rfl); (case ba => rfl); (case ca => intro _; rfl); (case da => first | assumption | passes_own)))
  trivial
theorem red_spec {S I0 : Addr} {vs : List Value} {rs : List (Str × Int)} {n k : Nat}
  (hok : ∀ i ≤ rs.length, repOk (gathAll (rs.take i))) (hlen : vs.length = rs.length) (hrs : ∀ (i : Nat) (v : Value) (t : Str × Int), vs[i]? = some v → rs[i]? = some t → ItRow news v t)
  (B : Below (lawA L0) base [lawEnv L0] g) (F : Fr g L s.heap (fun y => [(Str.ofString "function", Value.ref 100), (Str.ofString "sequence", Value.ref S), (Str.ofString "initial", Value.ref I0)].reverse.lookup y)) (X : (K0 w.params).In g)
  (N : News g L s.heap news) (hm : (S, listOf vs.toArray n) ∈ news) (hI0 : (I0, listOf #[] k) ∈ news) (T : Top p loose mean mg mb g)
  (hE : PassesOwn (model PySem.Challenge.rw_in0014_01.row.prog w) ((lawA L0).deeper (redEnv L)) (redEnv L) E)
  (hQ : ∀ D' h' m' tk' news', Fr g L h' m' → News g L h' news' → (∀ p ∈ news, p ∈ news') → DatIn news' (.ref D') (.list (repD (gathAll rs))) → Q (.ret (.ref D')) { s with heap := h', toks := tk' })
  : wpAny (model PySem.Challenge.rw_in0014_01.row.prog w) ((lawA L0).deeper (redEnv L)) (execs b_red (redEnv L)) Q E s := by
  revert X; k_fill; intro X
  repeat (first | (k_unfold; (try dsimp only)) | walk1 | (dsimp only; walk1))
  rename ∀ p ∈ news, _ => hlt
  refine red_loop (S := S) (I0 := I0) hok hlen hrs B (fr_congr' (by assumption) (mRed_start _ _ _)) X (by assumption) hm (fun p hp => Nat.ne_of_lt (hlt p hp)) T (.list (vs := []) hI0 .nil) fun D' el' h' tk' news' F' N' hs' hd' => ?_
  clear hlt
  k_steps
  all_goals exact hQ _ _ _ _ _ (by assumption) (by assumption) (by assumption) (by assumption)
end
end
section
local macro_rules | `(tactic| walk_at "zz1") => `(tactic| skip)
local macro_rules | `(tactic| walk_at $s:str) => `(tactic| k_extra $s)
theorem rs_DU1 : True := by w_top off; k_with_none; trivial
section
variable {prog : Program} {w : World} {A : Around} {E : Value → Shared → Prop} {s : Shared} {env : Env} {h₀ : Heap} {x : Str} {px : Pos} {body : List Stmt} {Q : Flow → Shared → Prop}
/-- a for loop over a range, any step: J is kept turn by turn; the turn stores the name itself -/
theorem forG {L r : Addr} {a b c : Int} {t u v : Tok} {n : Nat} {m₀ : Str → Option Value} {news : List (Addr × Obj)} (J : Nat → (Str → Option Value) → List (Addr × Obj) → Prop)
    (hh : A.handled = none) (F : Fr h₀ L s.heap m₀) (N : News h₀ L s.heap news) (hr : IsRange s.heap r a b c t u v) (hsm : Builtin.Range.small a b c = true) (hn : Builtin.Range.rangeSize a b c = (n : Int))
    (hE : PassesOwn (model prog w) A env E) (h0 : J 0 m₀ news)
    (turn : ∀ I i t m₁ news₁ it h tk, i < n → J i m₁ news₁ → (∀ p ∈ news₁, p.1 ≠ I) → (∃ x y z, it = ({ cls := .type "range_iterator", data := .fields #[rawInt x, rawInt y, rawInt z] } : Obj)) → Fr h₀ L h m₁ → News h₀ L h ((I, it) :: news₁) →
      wpAny (model prog w) A (storeName env x (.int (a + (i : Int) * c) t)) (fun _ s₁ => wpAny (model prog w) A (execs body env) (fun f s₂ => (f = .next ∨ f = .cont) ∧ ∃ h' tk' m' news', s₂ = { s with heap := h', toks := tk' } ∧ Fr h₀ L h' m' ∧ News h₀ L h' ((I, it) :: news') ∧ (∀ p ∈ news', p.1 ≠ I) ∧ J (i + 1) m' news') E s₁) E { s with heap := h, toks := tk })
    (done : ∀ h tk m' news', Fr h₀ L h m' → News h₀ L h news' → J n m' news' → Q .next { s with heap := h, toks := tk }) :
    wpAny (model prog w) A (pyIter (.ref r)) (fun it s₂ => codeAny (model prog w) A (.forLoop (.Name x px) it body [] env) (fun r s' => match r with | .ok f => Q f s' | .error e => cameBackBy (model prog w) A env E e s') s₂) E s := by
  refine wpAny_pyIter_range hr hsm ?_
  have W := Walks.range (prog := prog) (w := w) hh s.heap.objs.size a c n
  have hnew : h₀.get? s.heap.objs.size = none := next_is_new F
  refine codeAny_forLoop
    (fun k s' => ∃ h' tk m' news' i, s' = { s with heap := h', toks := tk } ∧ IsRangeIter h' s.heap.objs.size (a + (i : Nat) * c) ((n : Int) - (i : Nat)) c ∧ Fr h₀ L h' m' ∧ News h₀ L h' news' ∧ (∀ p ∈ news', p.1 ≠ s.heap.objs.size) ∧ L ≠ s.heap.objs.size ∧ J i m' news' ∧ i ≤ n ∧ k = n + 1 - i) ?_ (n + 1)
    ⟨_, s.toks, m₀, news, 0, rfl, (by show IsRangeIter _ _ _ _ _; rw [hn]; simpa using Heap.get?_push_size _ rfl), F.push _, (fun p hp => ⟨Heap.get?_push_of_some _ (N p hp).1, (N p hp).2⟩), (fun p hp => Nat.ne_of_lt (Heap.lt_size (N p hp).1)), Nat.ne_of_lt F.ns.lt, h0, Nat.zero_le _, rfl⟩
  rintro k s' ⟨h', tk, m', news', i, rfl, hst', F', N', hoff, hLI, hJ, hi, rfl⟩
  have next : ∀ h₁ : Heap, (∀ b o, b ∉ [s.heap.objs.size] → h'.get? b = some o → h₁.get? b = some o) → Fr h₀ L h₁ m' ∧ News h₀ L h₁ news' := fun h₁ hk₁ =>
    ⟨⟨F'.ns.at' fun o e => hk₁ _ o (by simpa using hLI) e, fun b o e => hk₁ b o (by intro q; rw [List.mem_singleton.mp q, hnew] at e; cases e) (F'.keep b o e), F'.above⟩, fun p hp => ⟨hk₁ _ _ (by simpa using hoff p hp) (N' p hp).1, (N' p hp).2⟩⟩
  by_cases hlt : i < n
  · refine W.item i _ _ _ hlt hst' fun v h₁ tk₁ hP hst₁ hk₁ => ?_
    obtain ⟨t, rfl⟩ := hP
    obtain ⟨F₁, N₁⟩ := next h₁ hk₁
    have hIm : ∃ it : Obj, (∃ x y z, it = ({ cls := .type "range_iterator", data := .fields #[rawInt x, rawInt y, rawInt z] } : Obj)) ∧ h₁.get? s.heap.objs.size = some it := ⟨_, ⟨_, _, _, rfl⟩, hst₁⟩
    obtain ⟨it, hcls, hit⟩ := hIm
    have N₂ : News h₀ L h₁ ((s.heap.objs.size, it) :: news') := fun p hp => by
      rcases List.mem_cons.mp hp with rfl | hp
      · exact ⟨hit, Ne.symm hLI, hnew⟩
      · exact N₁ p hp
    have T := turn s.heap.objs.size i t m' news' it h₁ tk₁ hlt hJ hoff hcls F₁ N₂
    refine wpAny_assign_Name (wpAny_mono (wpAny_passesOwn hE T) (fun _ s₂ h₂ => ?_) fun _ _ e => e)
    refine wpAny_mono (wpAny_passesOwn hE h₂) (fun f s₃ h₃ => ?_) fun _ _ e => e
    obtain ⟨hf, h₃', tk₃, m₂, news₂, rfl, F₃, N₃, ho₃, hJ₃⟩ := h₃
    have fin : ∃ k', k' < n + 1 - i ∧ (∃ h'' tk'' m'' news'' i', ({ s with heap := h₃', toks := tk₃ } : Shared) = { s with heap := h'', toks := tk'' } ∧ IsRangeIter h'' s.heap.objs.size (a + (i' : Nat) * c) ((n : Int) - (i' : Nat)) c ∧ Fr h₀ L h'' m'' ∧ News h₀ L h'' news'' ∧ (∀ p ∈ news'', p.1 ≠ s.heap.objs.size) ∧ L ≠ s.heap.objs.size ∧ J i' m'' news'' ∧ i' ≤ n ∧ k' = n + 1 - i') := by
      refine ⟨n + 1 - (i + 1), by omega, h₃', tk₃, m₂, news₂, i + 1, rfl, ?_, F₃, fun p hp => N₃ p (.tail _ hp), ho₃, hLI, hJ₃, hlt, rfl⟩
      have e₁ : h₁.get? s.heap.objs.size = some _ := hst₁
      show h₃'.get? s.heap.objs.size = some _
      rw [(N₃ _ (.head _)).1, ← hit]
      exact e₁
    rcases hf with rfl | rfl
    · exact fin
    · exact fin
  · have hin : i = n := by omega
    subst hin
    refine W.done _ _ _ hst' fun h₁ tk₁ hk₁ => wpAny_execs_nil ?_
    obtain ⟨F₁, N₁⟩ := next h₁ hk₁
    exact done h₁ tk₁ m' news' F₁ N₁ hJ
end
section
open LCg LCt
variable {prog : Program} {w : World} {A : Around} {E : Value → Shared → Prop} {s : Shared} {h₀ : Heap} {L : Addr} {m : Str → Option Value} {env : Env}
theorem off1_of {D : Addr} : ∀ {l : List (Addr × Obj)}, (∀ p ∈ l, p.1 ≠ D) → Off1 D l
  | [], _ => trivial
  | _ :: _, h => ⟨h _ (.head _), off1_of fun p hp => h p (.tail _ hp)⟩
theorem off1_ne {D : Addr} : ∀ {l : List (Addr × Obj)}, Off1 D l → ∀ p ∈ l, p.1 ≠ D
  | [], _ => fun _ h => nomatch h
  | _ :: _, x => fun p h => by
    rcases List.mem_cons.mp h with rfl | h
    · exact x.1
    · exact off1_ne x.2 p h
/-- what the source of `[x for x in range(a, b, -1)]` owes -/
noncomputable def DownSrc (h₀ : Heap) (L : Addr) (m : Str → Option Value) (Q : Value → Shared → Prop) (xv : Value) (s₁ : Shared) : Prop :=
  ∃ r a b t u v, ∃ news : List (Addr × Obj), xv = .ref r ∧ IsRange s₁.heap r a b (-1) t u v ∧ (-1000 ≤ a ∧ a ≤ 1000 ∧ -1000 ≤ b ∧ b ≤ 1000) ∧ Fr h₀ L s₁.heap m ∧ News h₀ L s₁.heap news ∧
    ∀ D k (vs : List Value) h' tk, Fr h₀ L h' m → News h₀ L h' ((D, listOf vs.toArray k) :: news) → Off1 D news → IntsAre vs (rangeInts a (-1) (a - b).toNat) → Q (.ref D) { s₁ with heap := h', toks := tk }
theorem comp_down {iter : PySem.Expr} {x : Str} {px p2 : Pos} {scope : Scope} {cl : List (Str × Addr)} {pos : Pos} {Q : Value → Shared → Prop} (F₀ : Fr h₀ L s.heap m)
    (hh : A.handled = none) (hclos : closureFor scope env = pure cl) (hcell : ∀ y ∈ scope.names, y.2 ≠ .cell) (hkind : scope.kind = .function)
    (hnames : ∀ y ∈ scope.names, y.2 = .local → scope.names.lookup y.1 = some .local) (hx : scope.names.lookup x = some .local)
    (hl : ∀ C, (compEnvC scope cl C env).kindOf x = some .local) (hd : (x == ("__debug__" : Str)) = false)
    (hs : ∀ x, foldedSetIterable iter env x = pure x)
    (h : wpAny (model prog w) A (eval iter env) (DownSrc h₀ L m Q) E s) :
    wpAny (model prog w) A (eval (.ListComp (.Name x p2) [⟨.Name x px, iter, [], 0⟩] scope pos) env) Q E s := by
  refine ListComp_DCr (h₀ := h₀) (L := L) (m := m) (pz := fun _ => true) (d := PyData.int) hh hclos hcell hkind hnames hx (wpAny_mono h (fun xv s₁ h₁ => ?_) fun _ _ e => e) hs
  obtain ⟨r, a, b, t, u, v, news, rfl, hr, ⟨a1, a2, b1, b2⟩, F, N, hQ⟩ := h₁
  refine ⟨news, r, a, b, -1, t, u, v, (a - b).toNat, rfl, hr, small_down (by omega) (by omega) (by omega) (by omega), rangeSize_downNat a b, (by rw [sizeLine_eq]; omega), F, N, ?_, ?_, ?_⟩
  · intro C a' v' s₂ m₂ E' _ _ _ _ _ _
    show wpAny _ _ (pure true) _ _ _
    exact wpAny_pure ⟨rfl, _, _, rfl, fun _ _ e => e⟩
  · intro C a' v' s₂ m₂ E' _ _ hv _ hn hm _
    obtain ⟨t', rfl⟩ := hv
    exact ldVarK hn hm ⟨.int _ _, _, _, rfl, fun _ _ e => e⟩ hkind (hl C) hd
  · intro D ys h' tk F' N' hD hlD hP hC
    obtain ⟨⟨k, hk⟩, hne⟩ := hP
    refine hQ D k ys h' tk F' (fun p hp => ?_) (off1_of hne) ?_
    · rcases List.mem_cons.mp hp with rfl | hp
      · exact ⟨hk, NewPlain.ne_locals ⟨⟨k, hk⟩, hne⟩ F', hD⟩
      · exact N' p hp
    · have e : (rangeInts a (-1) (a - b).toNat).filter (fun _ => true) = rangeInts a (-1) (a - b).toNat := List.filter_eq_self.mpr fun _ _ => rfl
      rw [e] at hC
      exact IntsAre.ofCarried hC
theorem CompEnd.mono' {I C D : Addr} {s₁ s₂ : Shared} {oI oC oD : Obj} {S : List (Addr × Obj) → Prop} {r r' : Value → List (Addr × Obj) → Prop} {y : Value} (h : CompEnd h₀ L m s₁ I oI C oC D oD S r y s₂) (hr : ∀ y n, r y n → r' y n) : CompEnd h₀ L m s₁ I oI C oC D oD S r' y s₂ := by
  obtain ⟨h', tk, nw, a, b, c, d, e, f⟩ := h
  exact ⟨h', tk, nw, a, b, c, d, e, hr _ _ f⟩
theorem compU_go {elt : PySem.Expr} {x : Str} {scope : Scope} {cl : List (Str × Addr)} {S : List (Addr × Obj) → Prop} {P : Nat → Value → Prop} {Fin : List Value → List (Addr × Obj) → Prop} {n : Nat} (J : Nat → List Value → List (Addr × Obj) → Prop)
    (turn : ∀ i ys news v I oI C oC D m₂ h tk (E' : Value → Shared → Prop), i < n → J i ys news → P i v → NsObj oC m₂ → m₂ x = some v → Fr h₀ L h m → News h₀ L h ((I, oI) :: (C, oC) :: (D, lst ys) :: news) → Off3 I C D news → ((@Ne Nat I C) ∧ (@Ne Nat I D) ∧ (@Ne Nat C D)) →
      wpAny (model prog w) A (eval elt (compEnvC scope cl C env)) (CompEnd h₀ L m { s with heap := h, toks := tk } I oI C oC D (lst ys) S (fun y news' => J (i + 1) (ys ++ [y]) news')) E' { s with heap := h, toks := tk })
    (fin : ∀ ys news, J n ys news → Fin ys news) : ∀ k i ys news, i + k = n → J i ys news → CompRest prog w A h₀ L m env elt x scope cl s S P Fin k i ys news
  | 0, i, ys, news, e, hJ => by
    have e' : i = n := by omega
    subst e'
    exact fin ys news hJ
  | k + 1, i, ys, news, e, hJ => fun v I oI C oC D m₂ h tk E' hP hC hm F N off ne =>
    wpAny_mono (turn i ys news v I oI C oC D m₂ h tk E' (by omega) hJ hP hC hm F N off ne) (fun y s' hh => CompEnd.mono' hh fun y n' hj => compU_go J turn fin k (i + 1) _ _ (by omega) hj) fun _ _ e => e
theorem compT_go {ct elt : PySem.Expr} {x : Str} {scope : Scope} {cl : List (Str × Addr)} {S : List (Addr × Obj) → Prop} {P : Nat → Value → Prop} {Fin : List Value → List (Addr × Obj) → Prop} {n : Nat} (J : Nat → List Value → List (Addr × Obj) → Prop)
    (turn : ∀ i ys news v I oI C oC D m₂ h tk (E' : Value → Shared → Prop), i < n → J i ys news → P i v → NsObj oC m₂ → m₂ x = some v → Fr h₀ L h m → News h₀ L h ((I, oI) :: (C, oC) :: (D, lst ys) :: news) → Off3 I C D news → ((@Ne Nat I C) ∧ (@Ne Nat I D) ∧ (@Ne Nat C D)) →
      wpAny (model prog w) A (isTrue ct (compEnvC scope cl C env) (eval ct (compEnvC scope cl C env))) (fun ok s' => if ok = true then
        wpAny (model prog w) A (eval elt (compEnvC scope cl C env)) (CompEnd h₀ L m { s with heap := h, toks := tk } I oI C oC D (lst ys) S (fun y news' => J (i + 1) (ys ++ [y]) news')) E' s'
        else CompEnd h₀ L m { s with heap := h, toks := tk } I oI C oC D (lst ys) S (fun _ news' => J (i + 1) ys news') Value.none s') E' { s with heap := h, toks := tk })
    (fin : ∀ ys news, J n ys news → Fin ys news) : ∀ k i ys news, i + k = n → J i ys news → CompRestT prog w A h₀ L m env ct elt x scope cl s S P Fin k i ys news
  | 0, i, ys, news, e, hJ => by
    have e' : i = n := by omega
    subst e'
    exact fin ys news hJ
  | k + 1, i, ys, news, e, hJ => fun v I oI C oC D m₂ h tk E' hP hC hm F N off ne =>
    wpAny_mono (turn i ys news v I oI C oC D m₂ h tk E' (by omega) hJ hP hC hm F N off ne) (fun ok s' hh => by
      cases ok with
      | true => exact wpAny_mono (by simpa using hh) (fun y s' hh => CompEnd.mono' hh fun y n' hj => compT_go J turn fin k (i + 1) _ _ (by omega) hj) fun _ _ e => e
      | false => exact CompEnd.mono' (by simpa using hh) fun y n' hj => compT_go J turn fin k (i + 1) _ _ (by omega) hj) fun _ _ e => e
end
theorem rk_DU1_mac1_8 : True := by
  k_with "call builtin:str.split" => (k_here; (refine' split_two (by k_asm) (by k_asm) (by with_reducible assumption) (by with_reducible assumption) (by decide +kernel) ?_; k_whole); intro D'q h'q k'q ta'q tb'q F'q N'q)
  k_with "subscriptTail Name Slice str ref" => (k_here; (with_reducible show wpAny _ _ (subscriptTail _ (Expr.Slice none (some _) none _) _ _) _ _ _); (k_dflt (refine' slc_ns (s := ⟨_, _, _, _, _⟩) (by k_asm) (by k_asm) (by with_reducible assumption) (by with_reducible assumption) ?_ (by with_unfolding_all rfl) (by intro _; with_unfolding_all rfl))); k_whole; intro h'q t'q k'q F'q N'q)
  k_with "subscriptTail Name Slice str ref" => (k_here; (with_reducible show wpAny _ _ (subscriptTail _ (Expr.Slice (some _) none none _) _ _) _ _ _); (k_dflt (refine' slc_sn (s := ⟨_, _, _, _, _⟩) (by k_asm) (by k_asm) (by with_reducible assumption) (by k_dflt rfl) (by with_reducible assumption) ?_ (by with_unfolding_all rfl) (by intro _; with_unfolding_all rfl))); k_whole; intro h'q t'q k'q F'q N'q)
  k_with "subscriptTail Name Slice str ref" => (k_here; (with_reducible show wpAny _ _ (subscriptTail _ (Expr.Slice (some _) (some _) none _) _ _) _ _ _); (k_dflt (refine' slc_ss (s := ⟨_, _, _, _, _⟩) (by k_asm) (by k_asm) (by with_reducible assumption) (by with_reducible assumption) ?_ (by with_unfolding_all rfl) (by intro _; with_unfolding_all rfl))); k_whole; intro h'q t'q k'q F'q N'q)
  k_with "subscriptTail" => (k_here; (with_reducible show wpAny _ _ (subscriptTail _ _ (Value.ref _) (Value.int (-1) _)) _ _ _); (k_dflt (refine' item_neg1 (by k_asm) (by k_mem) ?_ (by with_unfolding_all rfl))); k_whole)
  trivial
theorem rk_DU1_mac3_4 : True := by
  k_with "getMethod ref" => (k_here; (with_reducible show wpAny _ _ (getMethod (Value.ref 36) _ _) _ _ _); k_dflt (refine' fs_method (by exact FS.keeps (by assumption) (Fr.keep (by k_asm))) ?_))
  trivial
theorem rk_DU1_mac4_1 : True := by
  k_with "subscriptTail Name Name str int" => (k_here; (with_reducible show wpAny _ _ (subscriptTail _ _ (Value.str _ _) (Value.int _ _)) _ _ _); (k_dflt (refine' itm_str (by with_reducible assumption) (by with_reducible assumption) (by with_reducible assumption) (by with_reducible assumption) ?_ (by with_unfolding_all rfl) (by intro _; with_unfolding_all rfl))); k_whole; intro t'q k'q)
  trivial
section
variable {w : World} {A₀ : Around} {base g : Heap} {outer : List Env} {L0 L : Addr} {m mg mb : Str → Option Value} {p : Program} {loose : List Str} {mean : ExcName → Option Value} {news : List (Addr × Obj)} {s : Shared}
  {Q : Flow → Shared → Prop} {E : Value → Shared → Prop}
noncomputable abbrev dueE (L : Addr) : Env := envOfC (Str.ofString "_law_due") s_due L 105 (.ref 104)
noncomputable abbrev fl_due : { x : List PySem.Stmt // ∃ t i o q, b_due[5]? = some (.For t i x o q) } := ⟨_, _, _, _, _, rfl⟩
noncomputable abbrev bl_due : List PySem.Stmt := fl_due.1
noncomputable abbrev bt_due : List PySem.Stmt := b_due.drop 6
noncomputable abbrev mDue (nm G R : Addr) (last mark : Int) (tl tm : Tok) (rows words : Option Value) : Str → Option Value := fun y => if y = Str.ofString "words" then words else if y = Str.ofString "rows" then rows else if y = Str.ofString "mark" then some (.int mark tm) else if y = Str.ofString "report" then some (.ref R) else if y = Str.ofString "given" then some (.ref G) else if y = Str.ofString "last" then some (.int last tl) else if y = Str.ofString "names" then some (.ref nm) else none
noncomputable def gvD (g : List (Int × Int × Str)) : List Dat := g.map fun e => .tuple [.int e.1, .tuple [.int e.2.1, .str e.2.2]]
theorem dat_ints {news : List (Addr × Obj)} : ∀ {vs : List Value} {ns : List Int}, IntsAre vs ns → DatAll news vs (ns.map .int)
  | _, _, .nil => .nil
  | _, _, .cons n t r => .cons (.int n t) (dat_ints r)
open PyProof.V in
noncomputable def namesD : List (PyData × PyData) := [(.str (Str.ofString "\n"), .str (Str.ofString "'\\n'")), (.str (Str.ofString "\x7f"), .str (Str.ofString "'\\x7f'")), (.str (Str.ofString "\x1f"), .str (Str.ofString "'\\x1f'"))]
noncomputable def NamesOk (prog : Program) (w : World) (nm : Addr) (oN : Obj) : Prop := (nm == sysModules) = false ∧ ∃ kvs, oN.IsDictOf (PySem.strKind prog w) kvs ∧ PyProof.V.FlatPairs PyData.str kvs namesD
theorem names_tab {prog : Program} {w : World} {nm : Addr} {oN : Obj} {h₀ h : Heap} {L : Addr} {news : List (Addr × Obj)} (N : News h₀ L h news) (hm : (nm, oN) ∈ news) (o : NamesOk prog w nm oN) : StrTab prog w h nm namesD := by
  obtain ⟨lo, kvs, hd, hf⟩ := o
  exact TabAt.ofNews N hm lo hd hf
section
variable {prog : Program} {A : Around} {E : Value → Shared → Prop} {nm : Addr} {oN : Obj} {h₀ : Heap} {c r : Str} {t : Tok} {Q : Value → Shared → Prop} {value slice : PySem.Expr}
theorem in_names_yes {dv : PyData} (N : News h₀ L s.heap news) (hm : (nm, oN) ∈ news) (o : NamesOk prog w nm oN) (e : PySem.Spec.lookup (.str c) namesD = some dv) (h : Q (.bool true) { s with toks := s.toks + 1 }) : wpAny (model prog w) A (compareOp .In (.str c t) (.ref nm)) Q E s :=
  in_strTab (names_tab N hm o) (by rw [e]; exact h)
theorem in_names_no (N : News h₀ L s.heap news) (hm : (nm, oN) ∈ news) (o : NamesOk prog w nm oN) (e : PySem.Spec.lookup (.str c) namesD = none) (h : Q (.bool false) { s with toks := s.toks + 1 }) : wpAny (model prog w) A (compareOp .In (.str c t) (.ref nm)) Q E s :=
  in_strTab (names_tab N hm o) (by rw [e]; exact h)
theorem item_names (N : News h₀ L s.heap news) (hm : (nm, oN) ∈ news) (o : NamesOk prog w nm oN) (e : PySem.Spec.lookup (.str c) namesD = some (.str r)) (h : ∀ t', Q (.str r t') { s with toks := s.toks + 1 })
    (hs : subscripted slice false (.ref nm) (.str c t) = operate [.ref nm, .str c t] (getItem (.ref nm) (.str c t))) (hg : ∀ r, letTemporaryGo value (.ref nm) r = pure ()) :
    wpAny (model prog w) A (subscriptTail value slice (.ref nm) (.str c t)) Q E s :=
  item_strTab (names_tab N hm o) e (fun v hv => by obtain ⟨t', rfl⟩ := PyProof.V.Flat.str_inv hv; exact h _) hs hg
end
theorem rk_DU1_due0_3 : True := by
  k_with "compareOp In str ref" => (k_here; (refine' in_names_yes ?Nd ?md ?od ?ed ?_; (case od => with_reducible assumption); (case ed => with_reducible assumption); (case Nd => k_asm); (case md => k_mem); k_whole))
  k_with "compareOp In str ref" => (k_here; (refine' in_names_yes ?Nc ?mc ?oc ?ec ?_; (case oc => with_reducible assumption); (case ec => with_reducible assumption); (case Nc => k_asm); (case mc => k_mem); k_whole))
  k_with "compareOp In str ref" => (k_here; (refine' in_names_yes ?Nb ?mb ?ob ?eb ?_; (case ob => with_reducible assumption); (case eb => with_reducible assumption); (case Nb => k_asm); (case mb => k_mem); k_whole))
  k_with "compareOp In str ref" => (k_here; (refine' in_names_yes ?Na ?ma ?oa ?ea ?_; (case oa => with_reducible assumption); (case ea => with_reducible assumption); (case Na => k_asm); (case ma => k_mem); k_whole))
  k_with "compareOp In str ref" => (k_here; (refine' in_names_no ?Nd ?md ?od ?ed ?_; (case od => with_reducible assumption); (case ed => with_reducible assumption); (case Nd => k_asm); (case md => k_mem); k_whole))
  k_with "compareOp In str ref" => (k_here; (refine' in_names_no ?Nc ?mc ?oc ?ec ?_; (case oc => with_reducible assumption); (case ec => with_reducible assumption); (case Nc => k_asm); (case mc => k_mem); k_whole))
  k_with "compareOp In str ref" => (k_here; (refine' in_names_no ?Nb ?mb ?ob ?eb ?_; (case ob => with_reducible assumption); (case eb => with_reducible assumption); (case Nb => k_asm); (case mb => k_mem); k_whole))
  k_with "compareOp In str ref" => (k_here; (refine' in_names_no ?Na ?ma ?oa ?ea ?_; (case oa => with_reducible assumption); (case ea => with_reducible assumption); (case Na => k_asm); (case ma => k_mem); k_whole))
  k_with "subscriptTail" => (k_here; (with_reducible show wpAny _ _ (subscriptTail _ _ (Value.ref _) (Value.str _ _)) _ _ _); (refine' item_names ?Nd ?md ?od ?ed ?_ ?k5d ?k6d; (case od => with_reducible assumption); (case ed => with_reducible assumption); (case Nd => k_asm); (case md => k_mem); (case k5d => with_unfolding_all rfl); (case k6d => intro _; with_unfolding_all rfl); k_whole); intro t'q)
  k_with "subscriptTail" => (k_here; (with_reducible show wpAny _ _ (subscriptTail _ _ (Value.ref _) (Value.str _ _)) _ _ _); (refine' item_names ?Nc ?mc ?oc ?ec ?_ ?k5c ?k6c; (case oc => with_reducible assumption); (case ec => with_reducible assumption); (case Nc => k_asm); (case mc => k_mem); (case k5c => with_unfolding_all rfl); (case k6c => intro _; with_unfolding_all rfl); k_whole); intro t'q)
  k_with "subscriptTail" => (k_here; (with_reducible show wpAny _ _ (subscriptTail _ _ (Value.ref _) (Value.str _ _)) _ _ _); (refine' item_names ?Nb ?mb ?ob ?eb ?_ ?k5b ?k6b; (case ob => with_reducible assumption); (case eb => with_reducible assumption); (case Nb => k_asm); (case mb => k_mem); (case k5b => with_unfolding_all rfl); (case k6b => intro _; with_unfolding_all rfl); k_whole); intro t'q)
  k_with "subscriptTail" => (k_here; (with_reducible show wpAny _ _ (subscriptTail _ _ (Value.ref _) (Value.str _ _)) _ _ _); (refine' item_names ?Na ?ma ?oa ?ea ?_ ?k5a ?k6a; (case oa => with_reducible assumption); (case ea => with_reducible assumption); (case Na => k_asm); (case ma => k_mem); (case k5a => with_unfolding_all rfl); (case k6a => intro _; with_unfolding_all rfl); k_whole); intro t'q)
  trivial
local macro_rules | `(tactic| k_all) => `(tactic| with_reducible assumption)
theorem rk_DU1_due0_5 : True := by
  k_with "eval ListComp" => (k_here; (refine' comp_down ?Fd ?a1d ?a2d ?a3d ?a4d ?a5d ?a6d ?a7d ?a8d ?a9d ?_; (case Fd => k_asm); (case a1d => with_unfolding_all rfl); (case a2d => with_unfolding_all rfl); (case a3d => decide); (case a4d => with_unfolding_all rfl); (case a5d => decide); (case a6d => with_unfolding_all rfl); (case a7d => intro _; with_unfolding_all rfl); (case a8d => decide); (case a9d => intro _; with_unfolding_all rfl)))
  k_with "eval ListComp" => (k_here; (refine' comp_down ?Fc ?a1c ?a2c ?a3c ?a4c ?a5c ?a6c ?a7c ?a8c ?a9c ?_; (case Fc => k_asm); (case a1c => with_unfolding_all rfl); (case a2c => with_unfolding_all rfl); (case a3c => decide); (case a4c => with_unfolding_all rfl); (case a5c => decide); (case a6c => with_unfolding_all rfl); (case a7c => intro _; with_unfolding_all rfl); (case a8c => decide); (case a9c => intro _; with_unfolding_all rfl)))
  k_with "eval ListComp" => (k_here; (refine' comp_down ?Fb ?a1b ?a2b ?a3b ?a4b ?a5b ?a6b ?a7b ?a8b ?a9b ?_; (case Fb => k_asm); (case a1b => with_unfolding_all rfl); (case a2b => with_unfolding_all rfl); (case a3b => decide); (case a4b => with_unfolding_all rfl); (case a5b => decide); (case a6b => with_unfolding_all rfl); (case a7b => intro _; with_unfolding_all rfl); (case a8b => decide); (case a9b => intro _; with_unfolding_all rfl)))
  k_with "eval ListComp" => (k_here; (refine' comp_down ?Fa ?a1a ?a2a ?a3a ?a4a ?a5a ?a6a ?a7a ?a8a ?a9a ?_; (case Fa => k_asm); (case a1a => with_unfolding_all rfl); (case a2a => with_unfolding_all rfl); (case a3a => decide); (case a4a => with_unfolding_all rfl); (case a5a => decide); (case a6a => with_unfolding_all rfl); (case a7a => intro _; with_unfolding_all rfl); (case a8a => decide); (case a9a => intro _; with_unfolding_all rfl)))
  k_with "DownSrc" => (refine' ⟨_, _, _, _, _, _, _, rfl, ?Rd, ?bd, ?Fd, ?Nd, ?_⟩; (case Rd => assumption); (case bd => omega); (case Fd => k_asm); (case Nd => k_asm); intro D'q k'q vs'q h'q tk'q F'q N'q ne'q hI'q; (dsimp only [LCg.Off1] at ne'q))
  k_with "DownSrc" => (refine' ⟨_, _, _, _, _, _, _, rfl, ?Rc, ?bc, ?Fc, ?Nc, ?_⟩; (case Rc => assumption); (case bc => omega); (case Fc => k_asm); (case Nc => k_asm); intro D'q k'q vs'q h'q tk'q F'q N'q ne'q hI'q; (dsimp only [LCg.Off1] at ne'q))
  k_with "DownSrc" => (refine' ⟨_, _, _, _, _, _, _, rfl, ?Rb, ?bb, ?Fb, ?Nb, ?_⟩; (case Rb => assumption); (case bb => omega); (case Fb => k_asm); (case Nb => k_asm); intro D'q k'q vs'q h'q tk'q F'q N'q ne'q hI'q; (dsimp only [LCg.Off1] at ne'q))
  k_with "DownSrc" => (refine' ⟨_, _, _, _, _, _, _, rfl, ?Ra, ?ba, ?Fa, ?Na, ?_⟩; (case Ra => assumption); (case ba => omega); (case Fa => k_asm); (case Na => k_asm); intro D'q k'q vs'q h'q tk'q F'q N'q ne'q hI'q; (dsimp only [LCg.Off1] at ne'q))
  trivial
theorem due_tail {src : Str} {t1 tl tm : Tok} {oS oP : Obj} {nm G R : Addr} {last mark : Int} {rows words v0 : Option Value} {gs rs : List Value} {n1 n2 : Nat} {gv : List (Int × Int × Str)} {rep : List (Str × List Int)} (hlen : src.length ≤ 1000) (hl0 : 0 ≤ last) (hl1 : last < (src.length : Int)) (hrs : rs.length ≤ 1000)
  (B : Below (lawA L0) base [lawEnv L0] g) (F : Fr g L s.heap (mDue nm G R last mark tl tm rows words)) (X : (K0 w.params).In g)
  (N : News g L s.heap ((L + 1, oS) :: (L + 2, oP) :: (G, listOf gs.toArray n1) :: (R, listOf rs.toArray n2) :: news)) (hR : ∀ p ∈ news, p.1 ≠ R) (hRG : @Ne Nat G R) (hLR : @LT.lt Nat _ (L + 2) R) (hS : oS.data = .cell (some (.str src t1))) (T : Top p loose mean mg mb g)
  (hgs : DatAll news gs (gvD gv)) (hrs' : DatAll news rs (repD rep))
  (hQ : ∀ D h' tk' m' news', Fr g L h' m' → News g L h' news' → (∀ p ∈ news, p ∈ news') → DatIn news' (.ref D) (.tuple [.list (gvD gv), .list (repD (rep ++ [(Str.ofString "Expected \"'\" (at end of document)", rangeInts src.length (-1) (src.length - (last - 1)).toNat)]))]) → Q (.ret (.ref D)) { s with heap := h', toks := tk' })
  : wpAny (model PySem.Challenge.rw_in0014_01.row.prog w) ((lawA L0).deeper (dueE L)) (execs bt_due (dueE L)) Q E s := by
  revert X; k_fill; intro X
  unfold bt_due
  k_steps
  rename News _ _ _ _ => N'
  rw [List.push_toArray] at N'
  refine hQ _ _ _ _ _ (by assumption) N' (fun p hp => by repeat (first | exact hp | refine List.Mem.tail _ ?_)) ?_
  refine .tuple (vs := [_, _]) (.head _) (.cons (.list (vs := gs) (by repeat (first | exact List.Mem.head _ | refine List.Mem.tail _ ?_)) (DatAll.mono (fun p hp => by repeat (first | exact hp | refine List.Mem.tail _ ?_)) hgs)) (.cons (.list (vs := rs ++ [_]) (n := n2 + 1) (a := R) (by repeat (first | exact List.Mem.head _ | refine List.Mem.tail _ ?_)) ?_) .nil))
  rw [repD_append]
  refine DatAll.append (DatAll.mono (fun p hp => by repeat (first | exact hp | refine List.Mem.tail _ ?_)) hrs') (.cons (.list (vs := [_, _]) (n := 0) (by repeat (first | exact List.Mem.head _ | refine List.Mem.tail _ ?_)) (.cons (.str _ _) (.cons (.list (by repeat (first | exact List.Mem.head _ | refine List.Mem.tail _ ?_)) (dat_ints (by assumption))) .nil))) .nil)
theorem split_rows {prog : Program} {A : Around} {h₀ : Heap} {x y lastr : Str} {front : List Str} {t u : Tok} {Q : Value → Shared → Prop} (F : Fr h₀ L s.heap m) (N : News h₀ L s.heap news) (hsp : Txt.split x y = front ++ [lastr]) (hx : x.length ≤ 1000) (hy : (y.length == 0) = false)
    (h : ∀ D h' k (fs : List Value) ta, (fs ++ [Value.str lastr ta]).length = front.length + 1 → Fr h₀ L h' m → News h₀ L h' ((D, listOf (fs ++ [Value.str lastr ta]).toArray 0) :: news) → LCg.Off1 D news → Q (.ref D) { s with heap := h', toks := k }) :
    wpAny (model prog w) A (call (.builtin "str.split") [.str x t, .str y u]) Q E s := by
  refine splitN1 F N hy ?_ (by rw [sizeLine_eq]; omega)
  intro l h' k hl F' N'
  rw [hsp] at hl
  obtain ⟨fl, e, rfl⟩ : ∃ fl e, l = fl ++ [e] := by
    rcases List.eq_nil_or_concat l with rfl | ⟨a, b, rfl⟩
    · simp at hl
    · exact ⟨a, b, List.concat_eq_append⟩
  rw [List.map_append] at hl
  obtain ⟨h1, h2⟩ := List.append_inj' hl rfl
  have h3 : e.1 = lastr := by simpa using h2
  have e1 : strValues (fl ++ [e]) = strValues fl ++ [Value.str lastr e.2] := by rw [← h3]; simp [strValues]
  rw [e1] at N'
  refine h _ h' k (strValues fl) e.2 ?_ F' N' (off1_of fun p hp => Nat.ne_of_lt (Heap.lt_size (N p hp).1))
  have h4 : fl.length = front.length := by rw [← h1]; simp
  simp [strValues, h4]
theorem len_L {prog : Program} {A : Around} {h₀ : Heap} {a : Addr} {xs : List Value} {n k : Nat} {Q : Value → Shared → Prop} (N : News h₀ L s.heap news) (hm : (a, listOf xs.toArray k) ∈ news) (hn : xs.length = n) (hx : n ≤ 1001)
    (h : Q (.int (n : Int) (s.toks + 1)) { s with toks := s.toks + 1 + 1 }) : wpAny (model prog w) A (call (.builtin "len") [.ref a]) Q E s :=
  Calls.call_len_list (isList_of N hm) (by simp [hn]; omega) (by simp only [List.size_toArray, hn]; exact h)
theorem rk_DU1_due_bad_2 : True := by
  k_with "call builtin:len" => (k_here; (with_reducible show wpAny _ _ (call _ [Value.ref _]) _ _ _); (refine' len_L ?Nd ?md ?nd ?xd ?_; (case Nd => k_asm); (case md => k_mem); (case nd => with_reducible assumption); (case xd => omega); k_whole))
  k_with "call builtin:len" => (k_here; (with_reducible show wpAny _ _ (call _ [Value.ref _]) _ _ _); (refine' len_L ?Nc ?mc ?nc ?xc ?_; (case Nc => k_asm); (case mc => k_mem); (case nc => with_reducible assumption); (case xc => omega); k_whole))
  k_with "call builtin:len" => (k_here; (with_reducible show wpAny _ _ (call _ [Value.ref _]) _ _ _); (refine' len_L ?Nb ?mb ?nb ?xb ?_; (case Nb => k_asm); (case mb => k_mem); (case nb => with_reducible assumption); (case xb => omega); k_whole))
  k_with "call builtin:len" => (k_here; (with_reducible show wpAny _ _ (call _ [Value.ref _]) _ _ _); (refine' len_L ?Na ?ma ?na ?xa ?_; (case Na => k_asm); (case ma => k_mem); (case na => with_reducible assumption); (case xa => omega); k_whole))
  k_with "call builtin:str.split" => (k_here; (refine' split_rows ?k1d ?k2d ?k3d ?k4d ?k5d ?_; (case k1d => k_asm); (case k2d => k_asm); (case k3d => with_reducible assumption); (case k4d => with_reducible assumption); (case k5d => decide +kernel); k_whole); intro D'q h'q k'q fs'q ta'q hfs'q F'q N'q ne'q; (dsimp only [LCg.Off1] at ne'q))
  k_with "call builtin:str.split" => (k_here; (refine' split_rows ?k1c ?k2c ?k3c ?k4c ?k5c ?_; (case k1c => k_asm); (case k2c => k_asm); (case k3c => with_reducible assumption); (case k4c => with_reducible assumption); (case k5c => decide +kernel); k_whole); intro D'q h'q k'q fs'q ta'q hfs'q F'q N'q ne'q; (dsimp only [LCg.Off1] at ne'q))
  k_with "call builtin:str.split" => (k_here; (refine' split_rows ?k1b ?k2b ?k3b ?k4b ?k5b ?_; (case k1b => k_asm); (case k2b => k_asm); (case k3b => with_reducible assumption); (case k4b => with_reducible assumption); (case k5b => decide +kernel); k_whole); intro D'q h'q k'q fs'q ta'q hfs'q F'q N'q ne'q; (dsimp only [LCg.Off1] at ne'q))
  k_with "call builtin:str.split" => (k_here; (refine' split_rows ?k1a ?k2a ?k3a ?k4a ?k5a ?_; (case k1a => k_asm); (case k2a => k_asm); (case k3a => with_reducible assumption); (case k4a => with_reducible assumption); (case k5a => decide +kernel); k_whole); intro D'q h'q k'q fs'q ta'q hfs'q F'q N'q ne'q; (dsimp only [LCg.Off1] at ne'q))
  trivial
noncomputable abbrev badW (r : Str) (n : Nat) (k : Int) : Str := (Str.ofString "Found invalid character " ++ r ++ Str.ofString " (at line " ++ Str.ofString (toString ((n : Nat) : Int))) ++ (Str.ofString ", column " ++ Str.ofString (toString (k + 1)) ++ Str.ofString ")")
theorem mDue_bad (nm G R : Addr) (last mark i : Int) (tl tm ti : Tok) (rows words rw1 wd1 wd2 : Option Value) (y : Str) :
    (if y = Str.ofString "mark" then some (Value.int i ti) else if y = Str.ofString "words" then wd1 else if y = Str.ofString "words" then wd2 else if y = Str.ofString "rows" then rw1 else mDue nm G R last mark tl tm rows words y) = mDue nm G R last i tl ti rw1 wd1 y := by
  have h1 : Str.ofString "mark" ≠ Str.ofString "words" := by decide
  have h2 : Str.ofString "mark" ≠ Str.ofString "rows" := by decide
  unfold mDue
  by_cases e : y = Str.ofString "mark"
  · subst e; rw [if_pos rfl, if_neg h1, if_neg h2, if_pos rfl]
  · rw [if_neg e, if_neg e, if_neg e]
    by_cases e2 : y = Str.ofString "words"
    · rw [if_pos e2, if_pos e2]
    · rw [if_neg e2, if_neg e2, if_neg e2, if_neg e2]
      by_cases e3 : y = Str.ofString "rows"
      · rw [if_pos e3, if_pos e3]
      · rw [if_neg e3, if_neg e3, if_neg e3]
theorem news_turn3 {h₀ h : Heap} {a b c I S P G R n : Addr × Obj} (N : News h₀ L h (a :: b :: c :: I :: S :: P :: G :: R :: n :: news)) : News h₀ L h (I :: S :: P :: G :: R :: n :: ([a, b, c] ++ news)) := fun p hp => N p (by
  simp only [List.mem_cons, List.cons_append, List.nil_append] at hp ⊢
  rcases hp with h | h | h | h | h | h | h | h | h | h <;> simp [h])
theorem due_bad {src c r sl lastr : Str} {front : List Str} {I : Addr} {it oN : Obj} {i : Int} {ti : Tok} {t1 tl tm : Tok} {oS oP : Obj} {nm G R : Addr} {last mark : Int} {rows words v0 : Option Value} {gs rs : List Value} {n1 n2 : Nat} (hlen : src.length ≤ 1000) (hrs : rs.length ≤ 1000)
  (hi0 : 0 ≤ i) (hi1 : i < (src.length : Int)) (hm0 : 0 ≤ mark) (hm1 : mark ≤ i) (hc : Txt.item src i = c) (hc1 : (c == Str.ofString "'") = false) (hcb : PySem.Spec.lookup (.str c) namesD = some (.str r)) (hrl : r.length ≤ 100)
  (hsl : Txt.slice src none (some i) = sl) (hsll : sl.length ≤ 1000) (hsp : Txt.split sl (Str.ofString "\n") = front ++ [lastr]) (hfr : front.length ≤ 1000) (hla : lastr.length ≤ 1000)
  (B : Below (lawA L0) base [lawEnv L0] g) (F : Fr g L s.heap (mDue nm G R last mark tl tm rows words)) (X : (K0 w.params).In g)
  (N : News g L s.heap ((I, it) :: (L + 1, oS) :: (L + 2, oP) :: (G, listOf gs.toArray n1) :: (R, listOf rs.toArray n2) :: (nm, oN) :: news)) (hR : ∀ p ∈ news, p.1 ≠ R) (hP2 : ∀ p ∈ news, p.1 ≠ L + 2) (hIo : @Ne Nat I (L + 2) ∧ @Ne Nat I R) (hRG : @Ne Nat G R ∧ @Ne Nat nm R) (hLR : @LT.lt Nat _ (L + 2) R ∧ @LT.lt Nat _ (L + 2) G ∧ @LT.lt Nat _ (L + 2) nm) (hS : oS.data = .cell (some (.str src t1))) (hP : oP.data = .cell v0)
  (hN : NamesOk PySem.Challenge.rw_in0014_01.row.prog w nm oN) (T : Top p loose mean mg mb g)
  (hQ : ∀ h' tk' new e oP' rw1 wd1, oP'.data = .cell (some (.int i ti)) → Fr g L h' (mDue nm G R last i tl ti rw1 wd1) → News g L h' ((I, it) :: (L + 1, oS) :: (L + 2, oP') :: (G, listOf gs.toArray n1) :: (R, listOf (rs ++ [e]).toArray (n2 + 1)) :: (nm, oN) :: (new ++ news)) →
    (∀ p ∈ new, p.1 ≠ I ∧ p.1 ≠ L + 2 ∧ p.1 ≠ G ∧ p.1 ≠ R) → DatIn (new ++ news) e (.list [.str (badW r (front.length + 1) (lastr.length : Int)), .list ((rangeInts (i - 1) (-1) (i - 1 - (mark - 1)).toNat).map .int)]) → Q .next { s with heap := h', toks := tk' })
  : wpAny (model PySem.Challenge.rw_in0014_01.row.prog w) ((lawA L0).deeper (dueE L)) (storeName (dueE L) (Str.ofString "place") (.int i ti)) (fun _ s₁ => wpAny (model PySem.Challenge.rw_in0014_01.row.prog w) ((lawA L0).deeper (dueE L)) (execs bl_due (dueE L)) Q E s₁) E s := by
  revert X; k_fill; intro X
  k_steps
  rename News _ _ _ _ => N'
  rw [List.push_toArray] at N'
  refine hQ _ _ [_, _, _] (.ref _) _ _ _ (by assumption) (fr_congr' (by assumption) (mDue_bad _ _ _ _ _ _ _ _ _ _ _ _ _ _)) (news_turn3 N') ?_ ?_
  · intro p hp
    simp only [List.mem_cons, List.not_mem_nil, or_false] at hp
    rcases hp with rfl | rfl | rfl <;> refine ⟨?_, ?_, ?_, ?_⟩ <;> k_ne
  · refine .list (vs := [_, _]) (n := 0) (.head _) (.cons (.str _ _) (.cons (.list (.tail _ (.head _)) (dat_ints (by assumption))) .nil))
noncomputable def Hold (P : Prop) : Prop := P
theorem wpAny_hold {α : Type} {M : Model} {A : Around} {t : Sem α} {Q : α → Shared → Prop} (h : wpAny M A t (fun a s' => Hold (Q a s')) E s) : wpAny M A t Q E s := h
noncomputable abbrev fe_tick : { x : PySem.Expr × PySem.Expr × Scope // ∃ t b o q f pe k pc y py pl r, bl_due = .If t (.Expr (.Call f [.ListComp x.1 [⟨.Name y py, x.2.1, [], 0⟩] x.2.2 pl] k pc) pe :: b) o q :: r } := ⟨(_, _, _), _, _, _, _, _, _, _, _, _, _, _, _, rfl⟩
noncomputable abbrev el_tick : PySem.Expr := fe_tick.1.1
noncomputable abbrev it_tick : PySem.Expr := fe_tick.1.2.1
noncomputable abbrev sc_tick : Scope := fe_tick.1.2.2
noncomputable abbrev clDue (L : Addr) : List (Str × Addr) := [(Str.ofString "src", L + 1), (Str.ofString "place", L + 1 + 1)]
noncomputable abbrev tkA (k : Int) (ta : Tok) (T1 : Addr) : Obj := { cls := .type "tuple", data := .seq #[.int k ta, .ref T1] }
noncomputable abbrev tkB (i : Int) (tb : Tok) (sl : Str) (tc : Tok) : Obj := { cls := .type "tuple", data := .seq #[.int (i + 1) tb, .str sl tc] }
theorem tick_el {src sl : Str} {k i : Int} {t t1 ti : Tok} {I' C' D' : Addr} {oI oC oS oP : Obj} {ys : List Value} {m₂ : Str → Option Value} (hlen : src.length ≤ 1000) (hk0 : 0 ≤ k) (hk1 : k < i) (hi1 : i < (src.length : Int)) (hsl : Txt.slice src (some (k + 1)) (some i) = sl)
  (B : Below (lawA L0) base [lawEnv L0] g) (F : Fr g L s.heap m) (X : (K0 w.params).In g) (N : News g L s.heap ((I', oI) :: (C', oC) :: (D', LCg.lst ys) :: (L + 1, oS) :: (L + 2, oP) :: news)) (hC : LCg.NsObj oC m₂) (hx : m₂ (Str.ofString "start") = some (.int k t)) (hS : oS.data = .cell (some (.str src t1))) (hP : oP.data = .cell (some (.int i ti))) (T : Top p loose mean mg mb g) {Q : Value → Shared → Prop}
  (hQ : ∀ T1 T2 ta tb tc h' tk', Fr g L h' m → News g L h' ((T2, tkA k ta T1) :: (T1, tkB i tb sl tc) :: (I', oI) :: (C', oC) :: (D', LCg.lst ys) :: (L + 1, oS) :: (L + 2, oP) :: news) → (I' < T1 ∧ C' < T1 ∧ D' < T1 ∧ L + 1 < T1 ∧ L + 1 + 1 < T1 ∧ AllLt T1 news) → (T1 < T2 ∧ I' < T2 ∧ C' < T2 ∧ D' < T2 ∧ L + 1 < T2 ∧ L + 1 + 1 < T2 ∧ AllLt T2 news) → Q (.ref T2) { s with heap := h', toks := tk' })
  : wpAny (model PySem.Challenge.rw_in0014_01.row.prog w) ((lawA L0).deeper (dueE L)) (eval el_tick (compEnvC sc_tick (clDue L) C' (dueE L))) Q E s := by
  revert X; k_fill; intro X
  k_steps
  all_goals exact hQ _ _ _ _ _ _ _ (by assumption) (by assumption) (by assumption) (by assumption)
theorem allLt_mem {T : Addr} : ∀ {l : List (Addr × Obj)}, AllLt T l → ∀ p ∈ l, p.1 < T
  | [], _ => fun _ h => nomatch h
  | _ :: _, x => fun p h => by
    rcases List.mem_cons.mp h with rfl | h
    · exact x.1
    · exact allLt_mem x.2 p h
noncomputable def tickG (src : Str) (i mark : Int) (n : Nat) : List (Int × Int × Str) := (List.range n).map fun (j : Nat) => (mark + (j : Int), i + 1, Txt.slice src (some (mark + (j : Int) + 1)) (some i))
theorem tickG_succ (src : Str) (i mark : Int) (n : Nat) : tickG src i mark (n + 1) = tickG src i mark n ++ [(mark + (n : Int), i + 1, Txt.slice src (some (mark + (n : Int) + 1)) (some i))] := by
  unfold tickG; rw [List.range_succ, List.map_append]; rfl
theorem tick_comp {src : Str} {i mark last : Int} {t1 ti tl tm : Tok} {oS oP : Obj} {nm G R : Addr} {rows words : Option Value} {sp : Pos} {py : Pos} (hlen : src.length ≤ 1000) (hm0 : 0 ≤ mark) (hm1 : mark ≤ i) (hi1 : i < (src.length : Int))
  (B : Below (lawA L0) base [lawEnv L0] g) (F : Fr g L s.heap (mDue nm G R last mark tl tm rows words)) (X : (K0 w.params).In g) (N : News g L s.heap news) (mS : (L + 1, oS) ∈ news) (mP : (L + 2, oP) ∈ news) (hS : oS.data = .cell (some (.str src t1))) (hP : oP.data = .cell (some (.int i ti))) (T : Top p loose mean mg mb g) {Q : Value → Shared → Prop}
  (hQ : ∀ D (ys : List Value) n new h' tk', Fr g L h' (mDue nm G R last mark tl tm rows words) → News g L h' ((D, listOf ys.toArray n) :: (new ++ news)) → DatAll new ys (gvD (tickG src i mark (i - mark).toNat)) → (∀ p ∈ new, ∀ q ∈ news, q.1 ≠ p.1) → LCg.Off1 D (new ++ news) → Q (.ref D) { s with heap := h', toks := tk' })
  : wpAny (model PySem.Challenge.rw_in0014_01.row.prog w) ((lawA L0).deeper (dueE L)) (eval (.ListComp el_tick [⟨.Name (Str.ofString "start") py, it_tick, [], 0⟩] sc_tick sp) (dueE L)) Q E s := by
  refine LCg.ListComp_U (cl := clDue L) F (by with_unfolding_all rfl) (by decide) (by with_unfolding_all rfl) (by decide) (by with_unfolding_all rfl) (wpAny_hold ?_) (fun _ => by with_unfolding_all rfl)
  revert X; k_fill; intro X
  have N1 : News g L s.heap ((L + 2, oP) :: news) := fun p hp => by
    rcases List.mem_cons.mp hp with rfl | hp
    · exact N _ mP
    · exact N _ hp
  k_steps
  rename IsRange _ _ _ _ _ _ _ _ => hr
  rename Fr _ _ _ _ => F'
  rename News _ _ _ _ => N'
  show LCg.CompSrc _ _ _ _ _ _ _ _ _ _ _ _ _ _
  refine LCg.CompSrc.range (news := news) (n := (i - mark).toNat) rfl F' (fun p hp => N' p (.tail _ hp)) hr (small_one (by omega) (by omega) (by omega) (by omega)) (rangeSize_nat _ _) (by rw [sizeLine_eq]; omega) fun g' => ?_
  refine compU_go (n := (i - mark).toNat) (J := fun j ys nws => ∃ new, nws = new ++ news ∧ DatAll new ys (gvD (tickG src i mark j)) ∧ ∀ p ∈ new, ∀ q ∈ news, q.1 ≠ p.1) ?_ ?_ (i - mark).toNat 0 [] news (by omega) ⟨[], rfl, .nil, fun p hp => nomatch hp⟩
  · rintro j ys nws v I oI C oC D m₂ h tk E' hj ⟨new, rfl, hdat, hoff⟩ ⟨t, rfl⟩ hC hx F₁ N₁ off ne
    have mS' : (L + 1, oS) ∈ new ++ news := List.mem_append.mpr (.inr mS)
    have mP' : (L + 2, oP) ∈ new ++ news := List.mem_append.mpr (.inr mP)
    refine tick_el (src := src) (i := i) (news := new ++ news) (I' := I) (C' := C) (D' := D) (oI := oI) (oC := oC) (ys := ys) hlen (by omega) (by omega) hi1 rfl B F₁ X (fun p hp => ?_) hC hx hS hP T fun T1 T2 ta tb tc h₂ tk₂ F₂ N₂ l1 l2 => ?_
    · simp only [List.mem_cons] at hp
      rcases hp with rfl | rfl | rfl | rfl | rfl | hp
      · exact N₁ _ (.head _)
      · exact N₁ _ (.tail _ (.head _))
      · exact N₁ _ (.tail _ (.tail _ (.head _)))
      · exact N₁ _ (.tail _ (.tail _ (.tail _ mS')))
      · exact N₁ _ (.tail _ (.tail _ (.tail _ mP')))
      · exact N₁ _ (.tail _ (.tail _ (.tail _ hp)))
    · refine LCg.CompEnd.intro F₂ N₂ ([(T2, tkA (mark + (j : Int)) ta T1), (T1, tkB i tb (Txt.slice src (some (mark + (j : Int) + 1)) (some i)) tc)] ++ (new ++ news)) ?_ ?_ trivial ⟨[(T2, tkA (mark + (j : Int)) ta T1), (T1, tkB i tb (Txt.slice src (some (mark + (j : Int) + 1)) (some i)) tc)] ++ new, (List.append_assoc _ _ _).symm, ?_, ?_⟩
      · intro p hp
        simp only [List.mem_cons, List.cons_append, List.nil_append] at hp ⊢
        rcases hp with h | h | h | h | h | h <;> simp [h]
      · refine LCg.Off3.of fun p hp => ?_
        simp only [List.mem_cons, List.cons_append, List.nil_append] at hp
        rcases hp with rfl | rfl | hp
        · exact ⟨Nat.ne_of_gt l2.2.1, Nat.ne_of_gt l2.2.2.1, Nat.ne_of_gt l2.2.2.2.1⟩
        · exact ⟨Nat.ne_of_gt l1.1, Nat.ne_of_gt l1.2.1, Nat.ne_of_gt l1.2.2.1⟩
        · exact LCg.Off3.mem off p hp
      · rw [tickG_succ]
        unfold gvD
        rw [List.map_append]
        refine DatAll.append (DatAll.mono (fun p hp => .tail _ (.tail _ hp)) hdat) (.cons (.tuple (vs := [_, _]) (n := 0) (.head _) (.cons (.int _ _) (.cons (.tuple (vs := [_, _]) (n := 0) (.tail _ (.head _)) (.cons (.int _ _) (.cons (.str _ _) .nil))) .nil))) .nil)
      · intro p hp q hq
        simp only [List.mem_cons, List.cons_append, List.nil_append] at hp
        have hq' : q ∈ new ++ news := List.mem_append.mpr (.inr hq)
        rcases hp with rfl | rfl | hp
        · exact Nat.ne_of_lt (allLt_mem l2.2.2.2.2.2.2 q hq')
        · exact Nat.ne_of_lt (allLt_mem l1.2.2.2.2.2 q hq')
        · exact hoff p hp q hq
  · rintro ys nws ⟨new, rfl, hdat, hoff⟩ D h tk F₁ N₁ o1
    exact hQ D ys _ new h tk F₁ N₁ hdat hoff o1
theorem tooLong_no {n : Nat} (h : n ≤ 2000) : Builtin.List.listTooLong n = false := by
  unfold Builtin.List.listTooLong; rw [sizeLine_eq]; exact decide_eq_false (by omega)
theorem ext_L {prog : Program} {A : Around} {h₀ : Heap} {G D : Addr} {gs ys : List Value} {n1 k : Nat} {rest : List (Addr × Obj)} {Q : Value → Shared → Prop} (F : Fr h₀ L s.heap m) (N : News h₀ L s.heap ((G, listOf gs.toArray n1) :: rest)) (hoff : ∀ p ∈ rest, p.1 ≠ G) (hb : (D, listOf ys.toArray k) ∈ rest) (hx : gs.length ≤ 1000) (hy : ys.length ≤ 1000)
    (h : ∀ n' h', Fr h₀ L h' m → News h₀ L h' ((G, listOf (gs ++ ys).toArray n') :: rest) → Q .none { s with heap := h' }) : wpAny (model prog w) A (call (.builtin "list.extend") [.ref G, .ref D]) Q E s := by
  have hz : ∀ ys : List Value, ys.length ≤ 1000 → ¬(!gs.toArray.isEmpty && Builtin.List.listTooLong (gs.toArray.size + ys.toArray.size)) = true := fun ys hy => by
    rw [tooLong_no (by simp; omega)]; simp
  cases ys with
  | nil =>
    refine kxn_extend F N (.tail _ hb) (by simp) (Upd.head hoff) (hz [] hy) (by rw [sizeLine_eq]; simp; omega) (by rw [sizeLine_eq]; simp; omega) fun h' F' N' => h _ h' F' (by simpa using N')
  | cons y r =>
    refine kl_extend (l := gs ++ y :: r) F N (.tail _ hb) (by simp) (by simp) (Upd.head hoff) (hz (y :: r) hy) (by rw [sizeLine_eq]; simp; omega) (by rw [sizeLine_eq]; simp at hy ⊢; omega) fun h' F' N' => h _ h' F' N'
theorem mDue_tick (nm G R : Addr) (last mark i : Int) (tl tm ti : Tok) (rows words : Option Value) (y : Str) :
    (if y = Str.ofString "mark" then some (Value.int i ti) else mDue nm G R last mark tl tm rows words y) = mDue nm G R last i tl ti rows words y := by
  have h1 : Str.ofString "mark" ≠ Str.ofString "words" := by decide
  have h2 : Str.ofString "mark" ≠ Str.ofString "rows" := by decide
  unfold mDue
  by_cases e : y = Str.ofString "mark"
  · subst e; rw [if_pos rfl, if_neg h1, if_neg h2, if_pos rfl]
  · rw [if_neg e, if_neg e, if_neg e]
theorem due_tick {src : Str} {I : Addr} {it oN : Obj} {i : Int} {ti : Tok} {t1 tl tm : Tok} {oS oP : Obj} {nm G R : Addr} {last mark : Int} {rows words v0 : Option Value} {gs rs : List Value} {n1 n2 : Nat} (hlen : src.length ≤ 1000) (hgs : gs.length ≤ 1000)
  (hi0 : 0 ≤ i) (hi1 : i < (src.length : Int)) (hm0 : 0 ≤ mark) (hm1 : mark ≤ i) (hc : Txt.item src i = Str.ofString "'")
  (B : Below (lawA L0) base [lawEnv L0] g) (F : Fr g L s.heap (mDue nm G R last mark tl tm rows words)) (X : (K0 w.params).In g)
  (N : News g L s.heap ((I, it) :: (L + 1, oS) :: (L + 2, oP) :: (G, listOf gs.toArray n1) :: (R, listOf rs.toArray n2) :: (nm, oN) :: news)) (hR : ∀ p ∈ news, p.1 ≠ R) (hP2 : ∀ p ∈ news, p.1 ≠ L + 2) (hG : ∀ p ∈ news, p.1 ≠ G) (hIo : @Ne Nat I (L + 2) ∧ @Ne Nat I R ∧ @Ne Nat I G) (hRG : @Ne Nat G R ∧ @Ne Nat nm R ∧ @Ne Nat nm G) (hLR : @LT.lt Nat _ (L + 2) R ∧ @LT.lt Nat _ (L + 2) G ∧ @LT.lt Nat _ (L + 2) nm) (hS : oS.data = .cell (some (.str src t1))) (hP : oP.data = .cell v0)
  (T : Top p loose mean mg mb g)
  (hQ : ∀ h' tk' new ys oP' n', oP'.data = .cell (some (.int i ti)) → Fr g L h' (mDue nm G R last i tl ti rows words) → News g L h' ((I, it) :: (L + 1, oS) :: (L + 2, oP') :: (G, listOf (gs ++ ys).toArray n') :: (R, listOf rs.toArray n2) :: (nm, oN) :: (new ++ news)) →
    (∀ p ∈ new, p.1 ≠ I ∧ p.1 ≠ L + 2 ∧ p.1 ≠ G ∧ p.1 ≠ R) → DatAll (new ++ news) ys (gvD (tickG src i mark (i - mark).toNat)) → Q .next { s with heap := h', toks := tk' })
  : wpAny (model PySem.Challenge.rw_in0014_01.row.prog w) ((lawA L0).deeper (dueE L)) (storeName (dueE L) (Str.ofString "place") (.int i ti)) (fun _ s₁ => wpAny (model PySem.Challenge.rw_in0014_01.row.prog w) ((lawA L0).deeper (dueE L)) (execs bl_due (dueE L)) Q E s₁) E s := by
  revert X; k_fill; intro X
  iterate 20 (first | (k_unfold; (try dsimp only)) | walk1 | (dsimp only; walk1))
  refine' tick_comp ?a1 ?a2 ?a3 ?a4 ?B ?F ?X ?N ?mS ?mP ?hS ?hP ?T ?_
  case a1 => with_reducible assumption
  case a4 => with_reducible assumption
  case F => k_asm
  case a2 => with_reducible assumption
  case a3 => with_reducible assumption
  case B => k_asm
  case X => assumption
  case N => k_asm
  case mS => k_mem
  case mP => k_mem
  case hS => with_reducible assumption
  case hP => with_reducible assumption
  case T => k_asm
  intro D' ys' n' new' h' tk' F' N' hd' ho' o1'
  k_steps
  rename Obj => oP'
  have hD : ∀ p ∈ (new' ++ ((I, it) :: (L + 1, oS) :: (L + 2, oP') :: (G, listOf gs.toArray n1) :: (R, listOf rs.toArray n2) :: (nm, oN) :: news)), p.1 ≠ D' := off1_ne o1'
  have hyl : ys'.length ≤ 1000 := by
    have := hd'.length
    simp only [gvD, tickG, List.length_map, List.length_range] at this
    omega
  refine ext_L (G := G) (D := D') (gs := gs) (ys := ys') (n1 := n1) (k := n') (rest := (D', listOf ys'.toArray n') :: (I, it) :: (L + 1, oS) :: (L + 2, oP') :: (R, listOf rs.toArray n2) :: (nm, oN) :: (new' ++ news)) F' (fun p hp => N' p ?_) (fun p hp => ?_) (.head _) hgs hyl fun n'' h'' F'' N'' => ?_
  · simp only [List.mem_cons, List.mem_append] at hp ⊢
    rcases hp with h | h | h | h | h | h | h | h | h <;> simp [h]
  · simp only [List.mem_cons, List.mem_append] at hp
    rcases hp with rfl | rfl | rfl | rfl | rfl | rfl | hp | hp
    · exact Ne.symm (hD (G, listOf gs.toArray n1) (List.mem_append.mpr (.inr (.tail _ (.tail _ (.tail _ (.head _)))))))
    · k_ne
    · k_ne
    · k_ne
    · k_ne
    · k_ne
    · exact Ne.symm (ho' p hp (G, listOf gs.toArray n1) (.tail _ (.tail _ (.tail _ (.head _)))))
    · exact hG p hp
  k_steps
  all_goals refine hQ _ _ new' ys' _ n'' (by assumption) (fr_congr' (by assumption) (mDue_tick _ _ _ _ _ _ _ _ _ _ _)) (fun p hp => ?_) (fun p hp => ⟨?_, ?_, ?_, ?_⟩) (DatAll.mono (fun p hp => List.mem_append.mpr (.inl hp)) hd')
  · rename News _ _ _ _ => N₃
    refine N₃ p ?_
    simp only [List.mem_cons, List.mem_append] at hp ⊢
    rcases hp with h | h | h | h | h | h | h | h <;> simp [h]
  · exact Ne.symm (ho' p hp (I, it) (.head _))
  · exact Ne.symm (ho' p hp (L + 2, oP') (.tail _ (.tail _ (.head _))))
  · exact Ne.symm (ho' p hp (G, listOf gs.toArray n1) (.tail _ (.tail _ (.tail _ (.head _)))))
  · exact Ne.symm (ho' p hp (R, listOf rs.toArray n2) (.tail _ (.tail _ (.tail _ (.tail _ (.head _))))))
theorem due_skip {src c : Str} {I : Addr} {it oN : Obj} {i : Int} {ti : Tok} {t1 tl tm : Tok} {oS oP : Obj} {nm G R : Addr} {last mark : Int} {rows words v0 : Option Value} {gs rs : List Value} {n1 n2 : Nat} (hlen : src.length ≤ 1000)
  (hi0 : 0 ≤ i) (hi1 : i < (src.length : Int)) (hc : Txt.item src i = c) (hc1 : (c == Str.ofString "'") = false) (hcb : PySem.Spec.lookup (.str c) namesD = none)
  (B : Below (lawA L0) base [lawEnv L0] g) (F : Fr g L s.heap (mDue nm G R last mark tl tm rows words)) (X : (K0 w.params).In g)
  (N : News g L s.heap ((I, it) :: (L + 1, oS) :: (L + 2, oP) :: (G, listOf gs.toArray n1) :: (R, listOf rs.toArray n2) :: (nm, oN) :: news)) (hP2 : ∀ p ∈ news, p.1 ≠ L + 2) (hIo : @Ne Nat I (L + 2)) (hLR : @LT.lt Nat _ (L + 2) R ∧ @LT.lt Nat _ (L + 2) G ∧ @LT.lt Nat _ (L + 2) nm) (hS : oS.data = .cell (some (.str src t1))) (hP : oP.data = .cell v0)
  (hN : NamesOk PySem.Challenge.rw_in0014_01.row.prog w nm oN) (T : Top p loose mean mg mb g)
  (hQ : ∀ h' tk' oP', oP'.data = .cell (some (.int i ti)) → Fr g L h' (mDue nm G R last mark tl tm rows words) → News g L h' ((I, it) :: (L + 1, oS) :: (L + 2, oP') :: (G, listOf gs.toArray n1) :: (R, listOf rs.toArray n2) :: (nm, oN) :: news) → Q .next { s with heap := h', toks := tk' })
  : wpAny (model PySem.Challenge.rw_in0014_01.row.prog w) ((lawA L0).deeper (dueE L)) (storeName (dueE L) (Str.ofString "place") (.int i ti)) (fun _ s₁ => wpAny (model PySem.Challenge.rw_in0014_01.row.prog w) ((lawA L0).deeper (dueE L)) (execs bl_due (dueE L)) Q E s₁) E s := by
  revert X; k_fill; intro X
  k_steps
  all_goals exact hQ _ _ _ (by assumption) (by assumption) (by assumption)
end
end
section
local macro_rules | `(tactic| walk_at $s:str) => `(tactic| k_extra $s)
theorem rs_DU2 : True := by w_top off; k_with_none; trivial
theorem rk_DU2_mac4_1 : True := by
  k_with "subscriptTail Name Name str int" => (k_here; (with_reducible show wpAny _ _ (subscriptTail _ _ (Value.str _ _) (Value.int _ _)) _ _ _); (k_dflt (refine' itm_str (by with_reducible assumption) (by with_reducible assumption) (by with_reducible assumption) (by with_reducible assumption) ?_ (by with_unfolding_all rfl) (by intro _; with_unfolding_all rfl))); k_whole; intro t'q k'q)
  trivial
section
variable {w : World} {A₀ : Around} {base g : Heap} {outer : List Env} {L0 L : Addr} {m mg mb : Str → Option Value} {p : Program} {loose : List Str} {mean : ExcName → Option Value} {news : List (Addr × Obj)} {s : Shared}
  {Q : Flow → Shared → Prop} {E : Value → Shared → Prop}
noncomputable abbrev fe_max : { x : PySem.Expr × PySem.Expr × Scope // ∃ tg f e pe k pc y py pl ps, b_due[1]? = some (.Assign tg (.Call f [.ListComp (.Name e pe) [⟨.Name y py, x.2.1, [x.1], 0⟩] x.2.2 pl] k pc) ps) } := ⟨(_, _, _), _, _, _, _, _, _, _, _, _, _, rfl⟩
noncomputable abbrev ct_max : PySem.Expr := fe_max.1.1
noncomputable abbrev it_max : PySem.Expr := fe_max.1.2.1
noncomputable abbrev sc_max : Scope := fe_max.1.2.2
noncomputable abbrev clMax (L : Addr) : List (Str × Addr) := [(Str.ofString "src", L + 1)]
theorem max_el {src c : Str} {k : Int} {t t1 : Tok} {I' C' D' : Addr} {oI oC oS : Obj} {ys : List Value} {m₂ : Str → Option Value} (hlen : src.length ≤ 1000) (hk0 : 0 ≤ k) (hk1 : k < (src.length : Int)) (hc : Txt.item src k = c)
  (B : Below (lawA L0) base [lawEnv L0] g) (F : Fr g L s.heap m) (X : (K0 w.params).In g) (N : News g L s.heap ((I', oI) :: (C', oC) :: (D', LCg.lst ys) :: (L + 1, oS) :: news)) (hC : LCg.NsObj oC m₂) (hx : m₂ (Str.ofString "place") = some (.int k t)) (hS : oS.data = .cell (some (.str src t1))) (T : Top p loose mean mg mb g) {Q : Bool → Shared → Prop}
  (hQ : ∀ h' tk', Fr g L h' m → News g L h' ((I', oI) :: (C', oC) :: (D', LCg.lst ys) :: (L + 1, oS) :: news) → Q (c == Str.ofString "'") { s with heap := h', toks := tk' })
  : wpAny (model PySem.Challenge.rw_in0014_01.row.prog w) ((lawA L0).deeper (dueE L)) (isTrue ct_max (compEnvC sc_max (clMax L) C' (dueE L)) (eval ct_max (compEnvC sc_max (clMax L) C' (dueE L)))) Q E s := by
  revert X; k_fill; intro X
  k_steps
  all_goals exact hQ _ _ (by assumption) (by assumption)
noncomputable def ticks (src : Str) (n : Nat) : List Int := ((List.range n).filter fun (j : Nat) => Txt.item src (j : Int) == Str.ofString "'").map fun (j : Nat) => (j : Int)
theorem ticks_succ (src : Str) (n : Nat) : ticks src (n + 1) = ticks src n ++ (if (Txt.item src (n : Int) == Str.ofString "'") = true then [(n : Int)] else []) := by
  unfold ticks; rw [List.range_succ, List.filter_append, List.map_append]
  by_cases h : (Txt.item src (n : Int) == Str.ofString "'") = true <;> simp [h]
theorem ints_append : ∀ {vs ws : List Value} {a b : List Int}, IntsAre vs a → IntsAre ws b → IntsAre (vs ++ ws) (a ++ b)
  | _, _, _, _, .nil, h => h
  | _, _, _, _, .cons n t r, h => .cons n t (ints_append r h)
theorem max_comp {src : Str} {t1 : Tok} {oS : Obj} {sp py pe : Pos} (hlen : src.length ≤ 1000) 
  (B : Below (lawA L0) base [lawEnv L0] g) (F : Fr g L s.heap m) (X : (K0 w.params).In g) (N : News g L s.heap news) (mS : (L + 1, oS) ∈ news) (hS : oS.data = .cell (some (.str src t1))) (T : Top p loose mean mg mb g) {Q : Value → Shared → Prop}
  (hQ : ∀ D (ys : List Value) n h' tk', Fr g L h' m → News g L h' ((D, listOf ys.toArray n) :: news) → IntsAre ys (ticks src src.length) → LCg.Off1 D news → Q (.ref D) { s with heap := h', toks := tk' })
  : wpAny (model PySem.Challenge.rw_in0014_01.row.prog w) ((lawA L0).deeper (dueE L)) (eval (.ListComp (.Name (Str.ofString "place") pe) [⟨.Name (Str.ofString "place") py, it_max, [ct_max], 0⟩] sc_max sp) (dueE L)) Q E s := by
  refine LCt.ListComp_T (cl := clMax L) F (by with_unfolding_all rfl) (by decide) (by with_unfolding_all rfl) (by decide) (by with_unfolding_all rfl) (wpAny_hold ?_) (fun _ => by with_unfolding_all rfl)
  revert X; k_fill; intro X
  have N1 : News g L s.heap ((L + 1, oS) :: news) := fun p hp => by
    rcases List.mem_cons.mp hp with rfl | hp
    · exact N _ mS
    · exact N _ hp
  k_steps
  rename IsRange _ _ _ _ _ _ _ _ => hr
  rename Fr _ _ _ _ => F'
  rename News _ _ _ _ => N'
  show LCt.CompSrcT _ _ _ _ _ _ _ _ _ _ _ _ _ _ _
  refine LCt.CompSrcT.range (news := news) (n := src.length) rfl F' (fun p hp => N' p (.tail _ hp)) hr (small_one (by omega) (by omega) (by omega) (by omega)) (by rw [rangeSize_nat]; omega) (by rw [sizeLine_eq]; omega) fun g' => ?_
  refine compT_go (n := src.length) (J := fun j ys nws => nws = news ∧ IntsAre ys (ticks src j)) ?_ ?_ src.length 0 [] news (by omega) ⟨rfl, .nil⟩
  · rintro j ys nws v I oI C oC D m₂ h tk E' hj ⟨rfl, hdat⟩ ⟨t, rfl⟩ hC hx F₁ N₁ off ne
    rw [Int.zero_add] at hx
    refine max_el (src := src) (news := nws) (I' := I) (C' := C) (D' := D) (oI := oI) (oC := oC) (ys := ys) hlen (by omega) (by omega) rfl B F₁ X (fun p hp => ?_) hC hx hS T fun h₂ tk₂ F₂ N₂ => ?_
    · simp only [List.mem_cons] at hp
      rcases hp with rfl | rfl | rfl | rfl | hp
      · exact N₁ _ (.head _)
      · exact N₁ _ (.tail _ (.head _))
      · exact N₁ _ (.tail _ (.tail _ (.head _)))
      · exact N₁ _ (.tail _ (.tail _ (.tail _ mS)))
      · exact N₁ _ (.tail _ (.tail _ (.tail _ hp)))
    · have sub : ∀ p ∈ (I, oI) :: (C, oC) :: (D, LCg.lst ys) :: nws, p ∈ (I, oI) :: (C, oC) :: (D, LCg.lst ys) :: (L + 1, oS) :: nws := fun p hp => by
        simp only [List.mem_cons] at hp ⊢
        rcases hp with h | h | h | h <;> simp [h]
      by_cases hb : (Txt.item src (j : Int) == Str.ofString "'") = true
      · rw [hb, if_pos rfl]
        refine LCgL.ld_own (oC := oC) (m₂ := m₂) N₂ (.tail _ (.head _)) hC hx ?_ (by with_unfolding_all rfl) (by with_unfolding_all rfl) (by decide)
        refine LCg.CompEnd.intro F₂ N₂ nws sub off trivial ⟨rfl, ?_⟩
        rw [ticks_succ, if_pos hb]
        exact ints_append hdat (.cons _ _ .nil)
      · rw [Bool.not_eq_true] at hb
        rw [hb, if_neg (by decide)]
        refine LCg.CompEnd.intro F₂ N₂ nws sub off trivial ⟨rfl, ?_⟩
        rw [ticks_succ, if_neg (by rw [hb]; decide), List.append_nil]
        exact hdat
  · rintro ys nws ⟨rfl, hdat⟩ D h tk F₁ N₁ o1
    exact hQ D ys _ h tk F₁ N₁ hdat o1
end
structure DSt where
  given : List (Int × Int × Str)
  report : List (Str × List Int)
  mark : Int
noncomputable def badAt (src r : Str) (i : Int) : Str := badW r (Txt.split (Txt.slice src none (some i)) (Str.ofString "\n")).length (((Txt.split (Txt.slice src none (some i)) (Str.ofString "\n")).getLastD Str.empty).length : Int)
noncomputable def dueStep (src : Str) (st : DSt) (i : Int) : DSt :=
  if (Txt.item src i == Str.ofString "'") = true then ⟨st.given ++ tickG src i st.mark (i - st.mark).toNat, st.report, i⟩
  else match PySem.Spec.lookup (.str (Txt.item src i)) namesD with
    | some (.str r) => ⟨st.given, st.report ++ [(badAt src r i, rangeInts (i - 1) (-1) (i - 1 - (st.mark - 1)).toNat)], i⟩
    | _ => st
noncomputable def dueRun (src : Str) (k : Nat) : DSt := (List.range k).foldl (fun st (j : Nat) => dueStep src st (j : Int)) ⟨[], [], 0⟩
theorem dueRun_succ (src : Str) (k : Nat) : dueRun src (k + 1) = dueStep src (dueRun src k) (k : Int) := by
  unfold dueRun; rw [List.range_succ, List.foldl_append]; rfl
theorem names_cases (c : Str) : PySem.Spec.lookup (.str c) namesD = none ∨ ∃ r, PySem.Spec.lookup (.str c) namesD = some (.str r) ∧ r.length ≤ 100 := by
  unfold namesD
  simp only [PySem.Spec.lookup]
  split
  · exact .inr ⟨_, rfl, by decide⟩
  · split
    · exact .inr ⟨_, rfl, by decide⟩
    · split
      · exact .inr ⟨_, rfl, by decide⟩
      · exact .inl rfl
theorem tickG_len (src : Str) (i mark : Int) (n : Nat) : (tickG src i mark n).length = n := by simp [tickG]
theorem dueRun_inv (src : Str) : ∀ k : Nat, 0 ≤ (dueRun src k).mark ∧ (dueRun src k).mark ≤ (k : Int) ∧ ((dueRun src k).mark < (k : Int) ∨ k = 0) ∧ ((dueRun src k).given.length : Int) ≤ (dueRun src k).mark ∧ (dueRun src k).report.length ≤ k
  | 0 => by simp [dueRun]
  | k + 1 => by
    obtain ⟨h1, h2, h3, h4, h5⟩ := dueRun_inv src k
    rw [dueRun_succ]
    unfold dueStep
    split
    · simp only [List.length_append, tickG_len]
      refine ⟨by omega, by omega, by omega, by omega, by omega⟩
    · rcases names_cases (Txt.item src (k : Int)) with e | ⟨r, e, _⟩
      · rw [e]; dsimp only; refine ⟨by omega, by omega, by omega, by omega, by omega⟩
      · rw [e]; dsimp only; simp only [List.length_append, List.length_singleton]; refine ⟨by omega, by omega, by omega, by omega, by omega⟩
theorem split_last (x y : Str) : ∃ front lastr, Txt.split x y = front ++ [lastr] ∧ front.length + 1 = (Txt.split x y).length ∧ lastr = (Txt.split x y).getLastD Str.empty ∧ front.length ≤ x.length + 1 ∧ lastr.length ≤ x.length := by
  have h1 := split_pos x y
  have h2 := split_le x y
  rcases List.eq_nil_or_concat (Txt.split x y) with e | ⟨a, b, e⟩
  · rw [e] at h1; simp at h1
  · rw [List.concat_eq_append] at e
    have hb : b ∈ Txt.split x y := by rw [e]; simp
    refine ⟨a, b, e, by rw [e]; simp, by rw [e]; simp [List.getLastD_eq_getLast?], ?_, part_short hb⟩
    rw [e] at h2; simp at h2; omega
section
variable {w : World} {A₀ : Around} {base g : Heap} {outer : List Env} {L0 L : Addr} {m mg mb : Str → Option Value} {p : Program} {loose : List Str} {mean : ExcName → Option Value} {news : List (Addr × Obj)} {s : Shared}
  {Q : Flow → Shared → Prop} {E : Value → Shared → Prop}
theorem str_eq_of {a b : Str} (h : (a == b) = true) : a = b := by simpa using h
theorem due_loop {src : Str} {t1 tl tm : Tok} {oS oP oN : Obj} {nm G R r : Addr} {last : Int} {sub : List (Addr × Obj)} {px : Pos} {t u v : Tok} (hlen : src.length ≤ 900) (hl0 : 0 ≤ last) (hl1 : last < (src.length : Int))
  (B : Below (lawA L0) base [lawEnv L0] g) (F : Fr g L s.heap (mDue nm G R last 0 tl tm none none)) (X : (K0 w.params).In g)
  (N : News g L s.heap ((L + 1, oS) :: (L + 2, oP) :: (G, listOf #[] 0) :: (R, listOf #[] 0) :: (nm, oN) :: sub)) (hsub : ∀ p ∈ sub, p.1 ≠ R ∧ p.1 ≠ L + 2 ∧ p.1 ≠ G) (hRG : @Ne Nat G R ∧ @Ne Nat nm R ∧ @Ne Nat nm G) (hLR : @LT.lt Nat _ (L + 2) R ∧ @LT.lt Nat _ (L + 2) G ∧ @LT.lt Nat _ (L + 2) nm) (hS : oS.data = .cell (some (.str src t1))) (hP : oP.data = .cell none)
  (hN : NamesOk PySem.Challenge.rw_in0014_01.row.prog w nm oN) (T : Top p loose mean mg mb g) (hr : IsRange s.heap r 0 (last + 1) 1 t u v)
  (hE : PassesOwn (model PySem.Challenge.rw_in0014_01.row.prog w) ((lawA L0).deeper (dueE L)) (dueE L) E)
  (hQ : ∀ h' tk' gs rs n1 n2 oP' tm' rows words sub', Fr g L h' (mDue nm G R last (dueRun src (last + 1).toNat).mark tl tm' rows words) → News g L h' ((L + 1, oS) :: (L + 2, oP') :: (G, listOf gs.toArray n1) :: (R, listOf rs.toArray n2) :: (nm, oN) :: sub') → (∀ p ∈ sub', p.1 ≠ R) → (∀ p ∈ sub, p ∈ sub') →
    DatAll sub' gs (gvD (dueRun src (last + 1).toNat).given) → DatAll sub' rs (repD (dueRun src (last + 1).toNat).report) → Q .next { s with heap := h', toks := tk' })
  : wpAny (model PySem.Challenge.rw_in0014_01.row.prog w) ((lawA L0).deeper (dueE L)) (pyIter (.ref r)) (fun it s₂ => codeAny (model PySem.Challenge.rw_in0014_01.row.prog w) ((lawA L0).deeper (dueE L)) (.forLoop (.Name (Str.ofString "place") px) it bl_due [] (dueE L)) (fun r s' => match r with | .ok f => Q f s' | .error e => cameBackBy (model PySem.Challenge.rw_in0014_01.row.prog w) ((lawA L0).deeper (dueE L)) (dueE L) E e s') s₂) E s := by
  refine forG (n := (last + 1).toNat) (m₀ := mDue nm G R last 0 tl tm none none) (J := fun k m' nws => ∃ gs rs n1 n2 oP' v0 tm' rows words sub', m' = mDue nm G R last (dueRun src k).mark tl tm' rows words ∧ nws = (L + 1, oS) :: (L + 2, oP') :: (G, listOf gs.toArray n1) :: (R, listOf rs.toArray n2) :: (nm, oN) :: sub' ∧ oP'.data = .cell v0 ∧
      DatAll sub' gs (gvD (dueRun src k).given) ∧ DatAll sub' rs (repD (dueRun src k).report) ∧ (∀ p ∈ sub', p.1 ≠ R ∧ p.1 ≠ L + 2 ∧ p.1 ≠ G) ∧ ∀ p ∈ sub, p ∈ sub')
    rfl F N hr (small_one (by omega) (by omega) (by omega) (by omega)) (by rw [rangeSize_nat]; simp) hE ⟨[], [], 0, 0, oP, none, tm, none, none, sub, rfl, rfl, hP, .nil, .nil, hsub, fun _ hp => hp⟩ ?_ ?_
  · rintro I j t' m₁ news₁ it h tk hj ⟨gs, rs, n1, n2, oP', v0, tm', rows, words, sub', rfl, rfl, hP', hgs, hrs, hs', hss⟩ hoff hcls F₁ N₁
    have e0 : (0 : Int) + (j : Int) * 1 = (j : Int) := by omega
    rw [e0]
    obtain ⟨i1, i2, i3, i4, i5⟩ := dueRun_inv src j
    have g1 : gs.length ≤ 1000 := by have := hgs.length; simp [gvD] at this; omega
    have g2 : rs.length ≤ 1000 := by have := hrs.length; simp [repD] at this; omega
    have o1 : @Ne Nat I (L + 2) := Ne.symm (hoff (L + 2, oP') (.tail _ (.head _)))
    have o2 : @Ne Nat I G := Ne.symm (hoff (G, listOf gs.toArray n1) (.tail _ (.tail _ (.head _))))
    have o3 : @Ne Nat I R := Ne.symm (hoff (R, listOf rs.toArray n2) (.tail _ (.tail _ (.tail _ (.head _)))))
    have o4 : nm ≠ I := hoff (nm, oN) (.tail _ (.tail _ (.tail _ (.tail _ (.head _)))))
    have o5 : L + 1 ≠ I := hoff (L + 1, oS) (.head _)
    have osub : ∀ p ∈ sub', p.1 ≠ I := fun p hp => hoff p (.tail _ (.tail _ (.tail _ (.tail _ (.tail _ hp)))))
    have st := dueRun_succ src j
    have fin : ∀ (h' : Heap) (tk' : Nat) (gs' rs' : List Value) (n1' n2' : Nat) (oP'' : Obj) (tm'' : Tok) (rw1 wd1 : Option Value) (new : List (Addr × Obj)), oP''.data = .cell (some (.int (j : Int) t')) → Fr g L h' (mDue nm G R last (dueRun src (j + 1)).mark tl tm'' rw1 wd1) →
        News g L h' ((I, it) :: (L + 1, oS) :: (L + 2, oP'') :: (G, listOf gs'.toArray n1') :: (R, listOf rs'.toArray n2') :: (nm, oN) :: (new ++ sub')) → (∀ p ∈ new, p.1 ≠ I ∧ p.1 ≠ L + 2 ∧ p.1 ≠ G ∧ p.1 ≠ R) →
        DatAll (new ++ sub') gs' (gvD (dueRun src (j + 1)).given) → DatAll (new ++ sub') rs' (repD (dueRun src (j + 1)).report) →
        ((Flow.next : Flow) = .next ∨ (Flow.next : Flow) = .cont) ∧ ∃ h'' tk'' m'' news'', ({ s with heap := h', toks := tk' } : Shared) = { s with heap := h'', toks := tk'' } ∧ Fr g L h'' m'' ∧ News g L h'' ((I, it) :: news'') ∧ (∀ p ∈ news'', p.1 ≠ I) ∧
          (∃ gs rs n1 n2 oP' v0 tm' rows words sub', m'' = mDue nm G R last (dueRun src (j + 1)).mark tl tm' rows words ∧ news'' = (L + 1, oS) :: (L + 2, oP') :: (G, listOf gs.toArray n1) :: (R, listOf rs.toArray n2) :: (nm, oN) :: sub' ∧ oP'.data = .cell v0 ∧
            DatAll sub' gs (gvD (dueRun src (j + 1)).given) ∧ DatAll sub' rs (repD (dueRun src (j + 1)).report) ∧ (∀ p ∈ sub', p.1 ≠ R ∧ p.1 ≠ L + 2 ∧ p.1 ≠ G) ∧ ∀ p ∈ sub, p ∈ sub') := by
      intro h' tk' gs' rs' n1' n2' oP'' tm'' rw1 wd1 new hP'' F' N' hnew hg hr'
      refine ⟨.inl rfl, h', tk', _, _, rfl, F', N', ?_, gs', rs', n1', n2', oP'', _, tm'', rw1, wd1, new ++ sub', rfl, rfl, hP'', hg, hr', ?_, fun p hp => List.mem_append.mpr (.inr (hss p hp))⟩
      · intro p hp
        simp only [List.mem_cons, List.mem_append] at hp
        rcases hp with rfl | rfl | rfl | rfl | rfl | hp | hp
        · exact o5
        · exact Ne.symm o1
        · exact Ne.symm o2
        · exact Ne.symm o3
        · exact o4
        · exact (hnew p hp).1
        · exact osub p hp
      · intro p hp
        rcases List.mem_append.mp hp with hp | hp
        · exact ⟨(hnew p hp).2.2.2, (hnew p hp).2.1, (hnew p hp).2.2.1⟩
        · exact hs' p hp
    have up : ∀ (new : List (Addr × Obj)), ∀ p ∈ sub', p ∈ new ++ sub' := fun new p hp => List.mem_append.mpr (.inr hp)
    by_cases hq : (Txt.item src (j : Int) == Str.ofString "'") = true
    · have e1 : dueRun src (j + 1) = ⟨(dueRun src j).given ++ tickG src (j : Int) (dueRun src j).mark ((j : Int) - (dueRun src j).mark).toNat, (dueRun src j).report, (j : Int)⟩ := by
        rw [st]; unfold dueStep; rw [if_pos hq]
      refine due_tick (src := src) (i := (j : Int)) (mark := (dueRun src j).mark) (v0 := v0) (by omega) g1 (by omega) (by omega) i1 i2 (str_eq_of hq) B F₁ X N₁ (fun p hp => (hs' p hp).1) (fun p hp => (hs' p hp).2.1) (fun p hp => (hs' p hp).2.2) ⟨o1, o3, o2⟩ hRG hLR hS hP' T fun h' tk' new ys oP'' n' hP'' F' N' hnew hd => ?_
      refine fin h' tk' (gs ++ ys) rs n' n2 oP'' _ _ _ new hP'' (by rw [e1]; exact F') N' hnew ?_ ?_
      · rw [e1]; simp only [gvD, List.map_append]
        exact DatAll.append (DatAll.mono (up new) hgs) hd
      · rw [e1]; exact DatAll.mono (up new) hrs
    · rw [Bool.not_eq_true] at hq
      rcases names_cases (Txt.item src (j : Int)) with e | ⟨r', e, hr'⟩
      · have e1 : dueRun src (j + 1) = dueRun src j := by
          rw [st]; unfold dueStep; rw [if_neg (by rw [hq]; decide), e]
        refine due_skip (src := src) (i := (j : Int)) (v0 := v0) (by omega) (by omega) (by omega) rfl hq e B F₁ X N₁ (fun p hp => (hs' p hp).2.1) o1 hLR hS hP' hN T fun h' tk' oP'' hP'' F' N' => ?_
        refine fin h' tk' gs rs n1 n2 oP'' tm' rows words [] hP'' (by rw [e1]; exact F') N' (fun p hp => nomatch hp) ?_ ?_
        · rw [e1]; exact hgs
        · rw [e1]; exact hrs
      · obtain ⟨front, lastr, hsp, hf1, hl, hf2, hl2⟩ := split_last (Txt.slice src none (some (j : Int))) (Str.ofString "\n")
        have hsl := Txt.slice_le src none (some (j : Int))
        have e1 : dueRun src (j + 1) = ⟨(dueRun src j).given, (dueRun src j).report ++ [(badAt src r' (j : Int), rangeInts ((j : Int) - 1) (-1) ((j : Int) - 1 - ((dueRun src j).mark - 1)).toNat)], (j : Int)⟩ := by
          rw [st]; unfold dueStep; rw [if_neg (by rw [hq]; decide), e]
        refine due_bad (src := src) (i := (j : Int)) (mark := (dueRun src j).mark) (v0 := v0) (by omega) g2 (by omega) (by omega) i1 i2 rfl hq e hr' rfl (by omega) hsp (by omega) (by omega) B F₁ X N₁ (fun p hp => (hs' p hp).1) (fun p hp => (hs' p hp).2.1) ⟨o1, o3⟩ ⟨hRG.1, hRG.2.1⟩ hLR hS hP' hN T fun h' tk' new ev oP'' rw1 wd1 hP'' F' N' hnew hd => ?_
        refine fin h' tk' gs (rs ++ [ev]) n1 (n2 + 1) oP'' _ rw1 wd1 new hP'' (by rw [e1]; exact F') N' hnew ?_ ?_
        · rw [e1]; exact DatAll.mono (up new) hgs
        · rw [e1, repD_append]
          refine DatAll.append (DatAll.mono (up new) hrs) (.cons ?_ .nil)
          unfold badAt
          rw [← hf1, ← hl]
          exact hd
  · rintro h tk m' news' F' N' ⟨gs, rs, n1, n2, oP', v0, tm', rows, words, sub', rfl, rfl, hP', hgs, hrs, hs', hss⟩
    exact hQ h tk gs rs n1 n2 oP' tm' rows words sub' F' N' (fun p hp => (hs' p hp).1) hss hgs hrs
local macro_rules | `(tactic| k_all) => `(tactic| with_reducible assumption)
theorem forH {prog : Program} {A : Around} {env : Env} {target iter : PySem.Expr} {body orelse : List Stmt} {pos : Pos} {Q : Flow → Shared → Prop}
    (h : wpAny (model prog w) A (eval iter env) (fun x s₁ => Hold (wpAny (model prog w) A (pyIter x) (fun it s₂ =>
      codeAny (model prog w) A (.forLoop target it body orelse env) (fun r s' => match r with | .ok f => Q f s' | .error e => cameBackBy (model prog w) A env E e s') s₂) E s₁)) E s)
    (hs : ∀ x, foldedSetIterable iter env x = pure x) :
    wpAny (model prog w) A (exec (.For target iter body orelse pos) env) Q E s := wpAny_For h hs
theorem rk_DU2_due_spec_1 : True := by
  k_with "exec For" => (k_here; (refine' forH ?_ ?cd; (case cd => intro _; with_unfolding_all rfl)))
  k_with "exec For" => (k_here; (refine' forH ?_ ?cc; (case cc => intro _; with_unfolding_all rfl)))
  k_with "exec For" => (k_here; (refine' forH ?_ ?cb; (case cb => intro _; with_unfolding_all rfl)))
  k_with "exec For" => (k_here; (refine' forH ?_ ?ca; (case ca => intro _; with_unfolding_all rfl)))
  trivial
theorem mDue_start (nm G R : Addr) (last : Int) (tl tm : Tok) (y : Str) :
    (if y = Str.ofString "mark" then some (Value.int 0 tm) else if y = Str.ofString "report" then some (Value.ref R) else if y = Str.ofString "given" then some (Value.ref G) else if y = Str.ofString "last" then some (Value.int last tl) else if y = Str.ofString "names" then some (Value.ref nm) else none) = mDue nm G R last 0 tl tm none none y := by
  have n1 : Str.ofString "words" ≠ Str.ofString "mark" := by decide
  have n2 : Str.ofString "words" ≠ Str.ofString "report" := by decide
  have n3 : Str.ofString "words" ≠ Str.ofString "given" := by decide
  have n4 : Str.ofString "words" ≠ Str.ofString "last" := by decide
  have n5 : Str.ofString "words" ≠ Str.ofString "names" := by decide
  have m1 : Str.ofString "rows" ≠ Str.ofString "mark" := by decide
  have m2 : Str.ofString "rows" ≠ Str.ofString "report" := by decide
  have m3 : Str.ofString "rows" ≠ Str.ofString "given" := by decide
  have m4 : Str.ofString "rows" ≠ Str.ofString "last" := by decide
  have m5 : Str.ofString "rows" ≠ Str.ofString "names" := by decide
  unfold mDue
  by_cases e : y = Str.ofString "words"
  · subst e; rw [if_neg n1, if_neg n2, if_neg n3, if_neg n4, if_neg n5, if_pos rfl]
  · rw [if_neg e]
    by_cases e2 : y = Str.ofString "rows"
    · subst e2; rw [if_neg m1, if_neg m2, if_neg m3, if_neg m4, if_neg m5, if_pos rfl]
    · rw [if_neg e2]
theorem due_spec {src : Str} {t1 : Tok} {oS oP : Obj} {last : Int} (hlen : src.length ≤ 900) (hl : last ∈ ticks src src.length) (hm : ∀ a ∈ ticks src src.length, a ≤ last)
  (B : Below (lawA L0) base [lawEnv L0] g) (F : Fr g L s.heap (fun _ => none)) (X : (K0 w.params).In g)
  (N : News g L s.heap ((L + 1, oS) :: (L + 2, oP) :: news)) (hnews : ∀ p ∈ news, p.1 < L) (hS : oS.data = .cell (some (.str src t1))) (hP : oP.data = .cell none) (T : Top p loose mean mg mb g)
  (hE : PassesOwn (model PySem.Challenge.rw_in0014_01.row.prog w) ((lawA L0).deeper (dueE L)) (dueE L) E)
  (hQ : ∀ D h' tk' m' news', Fr g L h' m' → News g L h' news' → (∀ p ∈ news, p ∈ news') → DatIn news' (.ref D) (.tuple [.list (gvD (dueRun src (last + 1).toNat).given), .list (repD ((dueRun src (last + 1).toNat).report ++ [(Str.ofString "Expected \"'\" (at end of document)", rangeInts src.length (-1) (src.length - (last - 1)).toNat)]))]) → Q (.ret (.ref D)) { s with heap := h', toks := tk' })
  : wpAny (model PySem.Challenge.rw_in0014_01.row.prog w) ((lawA L0).deeper (dueE L)) (execs b_due (dueE L)) Q E s := by
  have hlen' : src.length ≤ 1000 := by omega
  obtain ⟨hh, gg, dd, tt, oo⟩ := s
  dsimp only at F N hQ
  revert X; k_fill; intro X
  have hpos : 0 < (ticks src src.length).length := List.length_pos_of_mem hl
  iterate 21 (first | (k_unfold; (try dsimp only)) | walk1 | (dsimp only; walk1))
  refine' max_comp ?a1 ?B ?F ?X ?N ?mS ?hS ?T ?_
  case F => k_asm
  case a1 => exact hlen'
  case B => k_asm
  case X => assumption
  case N => k_asm
  case mS => k_mem
  case hS => with_reducible assumption
  case T => k_asm
  intro D' ys' n' h' tk' F' N' hi' o1'
  dsimp only [LCg.Off1] at o1'
  k_steps
  rename IsRange _ _ _ _ _ _ _ _ => hr
  rename Fr _ _ _ _ => F₁
  rename News _ _ _ _ => N₁
  rename _ ∈ ticks src src.length => ha
  rename ∀ a ∈ ticks src src.length, _ => hb
  have hML := (Int.le_antisymm (hm _ ha) (hb _ hl)).symm
  subst hML
  have hin : 0 ≤ last ∧ last < (src.length : Int) := by
    unfold ticks at hl
    obtain ⟨j, hj, e⟩ := List.mem_map.mp hl
    have := List.mem_range.mp (List.mem_filter.mp hj).1
    omega
  unfold Hold
  refine due_loop (src := src) (sub := (D', listOf ys'.toArray n') :: news) hlen hin.1 hin.2 B (fr_congr' F₁ (mDue_start _ _ _ _ _ _)) X (fun p hp => N₁ p ?_) ?_ ?_ ?_ hS hP ⟨by assumption, _, by assumption, by assumption⟩ T hr hE ?_
  · simp only [List.mem_cons] at hp ⊢
    rcases hp with h | h | h | h | h | h | h <;> simp [h]
  · intro p hp
    rcases List.mem_cons.mp hp with rfl | hp
    · refine ⟨?_, ?_, ?_⟩ <;> k_ne
    · have h0 : @LT.lt Nat _ p.1 L := hnews p hp
      refine ⟨?_, ?_, ?_⟩ <;> k_ne
  · refine ⟨?_, ?_, ?_⟩ <;> k_ne
  · refine ⟨?_, ?_, ?_⟩ <;> first | omega | (dsimp only; omega)
  · intro h₂ tk₂ gs rs n1 n2 oP' tm' rows words sub' F₂ N₂ hR hss hgs hrs
    obtain ⟨i1, i2, i3, i4, i5⟩ := dueRun_inv src (last + 1).toNat
    have g2 : rs.length ≤ 1000 := by have := hrs.length; simp [repD] at this; omega
    refine due_tail (src := src) (last := last) (mark := (dueRun src (last + 1).toNat).mark) (v0 := none) hlen' hin.1 hin.2 g2 B F₂ X N₂ (fun p hp => ?_) ?_ ?_ hS T (DatAll.mono (fun p hp => .tail _ hp) hgs) (DatAll.mono (fun p hp => .tail _ hp) hrs) fun D h' tk' m' news' F' N' hs2 hd => hQ D h' tk' m' news' F' N' (fun p hp => hs2 p (.tail _ (hss p (.tail _ hp)))) hd
    · rcases List.mem_cons.mp hp with rfl | hp
      · k_ne
      · exact hR p hp
    · k_ne
    · omega
end
end
section
variable {M : Model} {A : Around} {E : Value → Shared → Prop} {s : Shared} {base : Heap} {env : Env} {outer : List Env} {L e : Addr} {oe : Obj} {a0 cls fl tb0 : Value} {Q : Unit → Shared → Prop}
theorem entry_x {head : Value} {hadNext : Bool} (hfr : A.frames = some (env :: outer)) (hl : s.heap.FunFrames base (env :: outer)) (hf : env.frame = some L)
    (he : s.heap.get? e = some oe) (hkb : base.StaysIn s.heap) (hen : base.get? e = none) (hd : oe.data = excF a0 tb0 .none false)
    (h : ∀ h', base.StaysIn h' → h'.FunFrames base (env :: outer) → ExcT h' base e oe.cls a0 (rawInt L) → s.heap.UpToSlots h' → Q () { s with heap := h' }) :
    wpAny M A (do let a ← frameOf env; let pl ← entryPlaceOf L hadNext; let b ← EntryCells.newEntry head a .none (rawInt L) .none pl; setField (.ref e) 1 b) Q E s := by
  have hne : e ∉ (env :: outer).filterMap (·.frame) := fun hm => by
    obtain ⟨_, o, ho, hn⟩ := hl.mem hm
    rw [he] at ho; cases ho; exact hn _ hd
  refine wpAny_bind (wpAny_frameOf_fun hfr hl hf fun h₁ k => wpAny_bind (wpAny_entryPlaceOf fun pl hpl => ?_))
  unfold EntryCells.newEntry newFields
  refine wpAny_bind (wpAny_newObj_type ?_ (hpl.sizeOk5 _ _ _ _ _))
  have e1 : h₁.get? e = some oe := (k.2.1 e hne).trans he
  have hT : h₁.objs.size ≠ e := Nat.ne_of_gt (Heap.lt_size e1)
  have keep : ∀ (oT : Obj) (f : Obj → Obj) b o, b ≠ e → h₁.get? b = some o → ((h₁.push oT).update e f).get? b = some o := by
    intro oT f b o hb q
    rw [Heap.get?_update_other _ _ (Ne.symm hb)]
    exact Heap.get?_push_of_some _ q
  have nrec : ∀ b o, s.heap.get? b = some o → (∀ vs, o.data ≠ .fields vs) → b ≠ e := by
    intro b o q hn z
    rw [z, he] at q; cases q; exact hn _ hd
  refine wpAny_setField (Heap.get?_push_of_some _ e1) hd (by simp) (h _ ?_ ?_ ?_ ?_)
  · intro b o q
    refine keep _ _ b o (fun z => by rw [z, hen] at q; cases q) ?_
    exact (k.2.1 b fun hm => by rw [(hl.mem hm).1] at q; cases q).trans (hkb b o q)
  · refine hl.of_keeps fun b o q hn => ?_
    obtain ⟨sl, hs⟩ := k.2.2 b o q
    exact ⟨_, keep _ _ b _ (nrec b o q hn) hs, rfl⟩
  · have hd' := Obj.data_mapFields hd (·.setIfInBounds 1 (Value.ref h₁.objs.size))
    refine ⟨_, h₁.objs.size, _, _, Heap.get?_update_self _ (Heap.get?_push_of_some _ e1) (Obj.isFreed_of_fields hd'), Obj.cls_mapFields _ _, hd', ?_, hT, (Heap.get?_update_other _ _ (Ne.symm hT)).trans (Heap.get?_push_size h₁ rfl), rfl, ?_⟩
    · have st : base.StaysIn h₁ := fun b o q => (k.2.1 b fun hm => by rw [(hl.mem hm).1] at q; cases q).trans (hkb b o q)
      exact st.fresh
    · first | (simp; done) | (rcases hpl with rfl | ⟨_, _, _, _, _, _, _, rfl⟩ <;> simp)
  · intro b o q hn
    obtain ⟨sl, hs⟩ := k.2.2 b o q
    exact ⟨sl, keep _ _ b _ (nrec b o q hn) hs⟩
theorem noted_next (hfr : A.frames = some (env :: outer)) (hl : s.heap.FunFrames base (env :: outer)) (hf : env.frame = some L)
    (ht : ExcT s.heap base e cls a0 .none) (hkb : base.StaysIn s.heap) (hen : base.get? e = none)
    (h : ∀ h', base.StaysIn h' → h'.FunFrames base (env :: outer) → ExcT h' base e cls a0 (rawInt L) → s.heap.UpToSlots h' → Q () { s with heap := h' }) : wpAny M A (noteFrame (.ref e) env) Q E s := by
  obtain ⟨oe, T, oT, ts, he, hcls, hd, hnT, hTe, hT, hdT, h3⟩ := ht
  subst hcls
  unfold noteFrame
  simp only [hf]
  refine wpAny_bind (wpAny_field he hd (x := .ref T) rfl ?_)
  rw [if_pos (show (Value.ref T != Value.none) = true from by simp)]
  refine wpAny_bind (wpAny_field hT hdT h3 ?_)
  rw [if_neg (show ¬ ((Value.none == rawInt L) = true) from by simp [rawInt])]
  refine wpAny_bind (wpAny_setField hT hdT (Array.getElem?_eq_some_iff.mp h3).1 ?_)
  have other : ∀ b, b ≠ T → (s.heap.update T (Obj.mapFields (·.setIfInBounds 3 Value.none))).get? b = s.heap.get? b := fun b hb => Heap.get?_update_other _ _ (Ne.symm hb)
  have noRecord : ∀ b o, s.heap.get? b = some o → (∀ vs, o.data ≠ .fields vs) → b ≠ T := fun b o hb hnf q => by
    rw [q, hT] at hb; injection hb with hb; subst hb; exact hnf ts hdT
  exact entry_x hfr (hl.of_keeps fun b o hb hnf => ⟨o, (other b (noRecord b o hb hnf)).trans hb, rfl⟩) hf ((other e (Ne.symm hTe)).trans he)
    (fun b o hbo => (other b fun q => by rw [q, hnT] at hbo; cases hbo).trans (hkb b o hbo)) hen hd
    fun h' x1 x2 x3 x4 => h h' x1 x2 x3 fun b o hb hnf => x4 b o ((other b (noRecord b o hb hnf)).trans hb) hnf
end
/-- an exception under way, its words and its cause known -/
noncomputable def FlyX (base : Heap) (l : List Env) (e : Addr) (cls a0 : Value) (h : Heap) : Prop := base.StaysIn h ∧ base.get? e = none ∧ h.FunFrames base l ∧ ExcT h base e cls a0 .none
noncomputable def RaisedX (base : Heap) (l : List Env) (e : Addr) (cls : Value) (t : Addr) (vs : List Value) (news : List (Addr × Obj)) (h : Heap) : Prop :=
  (∃ B, base.StaysIn B ∧ (∀ q ∈ news, B.get? q.1 = some q.2 ∧ base.get? q.1 = none) ∧ FlyX B l e cls (.ref t) h ∧ B.get? t = none) ∧ h.TupAt t vs
section
variable {M : Model} {A : Around} {E : Value → Shared → Prop} {s' : Shared} {base g g₂ h : Heap} {outer : List Env} {L a e t : Addr} {m : Str → Option Value} {name : Str} {scope : Scope} {cd : Value} {Q : Unit → Shared → Prop} {news news' : List (Addr × Obj)}
theorem leave_nextX {cls : Value} {vs : List Value} (K : Below A base outer g) (F : Fr g L g₂ m) (R : RaisedX base (envOf name scope L a cd :: outer) e cls t vs news s'.heap) (hsm : g₂.UpToSlots s'.heap)
    (hQ : ∀ h', RaisedX base outer e cls t vs news h' → g.UpToSlots h' → Q () { s' with heap := h' }) :
    wpAny M (A.deeper (envOf name scope L a cd)) (leaving (envOf name scope L a cd) (.ref e)) Q E s' := by
  obtain ⟨⟨B, hB, hl, ⟨f1, f2, f3, f4⟩, hnew⟩, htup⟩ := R
  unfold leaving
  refine wpAny_bind (noted_next (Around.frames_deeper K.stack) f3 rfl f4 f1 f2 fun h₁ s1 k1 x1 u1 => ?_)
  refine flight_none (outer := envOf name scope L a cd :: outer) s1 k1 x1 fun h₂ s2 k2 x2 u2 => ?_
  obtain ⟨_, _, k3⟩ := k2
  exact hQ h₂ ⟨⟨B, hB, hl, ⟨s2, f2, k3, x2⟩, hnew⟩, htup.of_slots (u1.trans u2)⟩ ((Heap.UpToSlots.of_keeps F.keep).trans (hsm.trans (u1.trans u2)))
theorem leave_firstX {oe : Obj} {args : List Value} {nt : Nat}
    (K : Below A base outer g) (F : Fr g L s'.heap m) (N : News g L s'.heap news') (he : (e, oe) ∈ news') (hd : oe.data = excF (.ref t) .none .none false)
    (ht : (t, ({ cls := .type "tuple", data := .seq args.toArray nt } : Obj)) ∈ news') (hsub : ∀ q ∈ news, q ∈ news') (hne : ∀ q ∈ news, q.1 ≠ e ∧ q.1 ≠ t)
    (hQ : ∀ h', RaisedX base outer e oe.cls t args news h' → g.UpToSlots h' → Q () { s' with heap := h' }) (hk : scope.kind = .function := by rfl) :
    wpAny M (A.deeper (envOf name scope L a cd)) (leaving (envOf name scope L a cd) (.ref e)) Q E s' := by
  have K' := K.push (name := name) (a := a) (cd := cd) F hk
  have hin : ∀ env ∈ (envOf name scope L a cd :: outer), ∀ b, env.frame = some b → b ∈ (envOf name scope L a cd :: outer).filterMap (·.frame) ++ [e, t] := fun env he b hb => List.mem_append.mpr (.inl (List.mem_filterMap.mpr ⟨env, he, hb⟩))
  have ge : g.get? e = none := (N _ he).2.2
  have gt : g.get? t = none := (N _ ht).2.2
  have be : base.get? e = none := fresh_of_stays K.stays ge
  have bt : base.get? t = none := fresh_of_stays K.stays gt
  have nm : ∀ b o, base.get? b = some o → b ∉ (envOf name scope L a cd :: outer).filterMap (·.frame) ++ [e, t] := fun b o q hm => by
    rcases List.mem_append.mp hm with hm | hm
    · rw [(K'.frames.mem hm).1] at q; cases q
    · simp only [List.mem_cons, List.not_mem_nil, or_false] at hm
      rcases hm with rfl | rfl
      · rw [be] at q; cases q
      · rw [bt] at q; cases q
  have st : base.StaysIn (hideAll s'.heap ((envOf name scope L a cd :: outer).filterMap (·.frame) ++ [e, t])) := fun b o q => hideAll_get _ (K'.stays b o q) (nm b o q)
  have hl : ∀ q ∈ news, (hideAll s'.heap ((envOf name scope L a cd :: outer).filterMap (·.frame) ++ [e, t])).get? q.1 = some q.2 ∧ base.get? q.1 = none := fun q hq => by
    refine ⟨hideAll_get _ (N q (hsub q hq)).1 fun hm => ?_, fresh_of_stays K.stays (N q (hsub q hq)).2.2⟩
    rcases List.mem_append.mp hm with hm | hm
    · obtain ⟨env, he, hf⟩ := List.mem_filterMap.mp hm
      rcases List.mem_cons.mp he with rfl | he
      · exact (N q (hsub q hq)).2.1 (Option.some.inj hf).symm
      · obtain ⟨o, ho, _⟩ := (K.frames.mem (List.mem_filterMap.mpr ⟨env, he, hf⟩)).2
        rw [(N q (hsub q hq)).2.2] at ho; cases ho
    · simp only [List.mem_cons, List.not_mem_nil, or_false] at hm
      rcases hm with hm | hm
      · exact (hne q hq).1 hm
      · exact (hne q hq).2 hm
  unfold leaving
  refine wpAny_bind (noted_first K'.stack (funFrames_hide K'.frames hin) rfl (N _ he).1 (fun b o q => of_hideAll _ q) (hideAll_none _ (by simp)) hd fun h₁ s1 k1 x1 u1 => ?_)
  refine flight_none (outer := envOf name scope L a cd :: outer) s1 k1 x1 fun h₂ s2 k2 x2 u2 => ?_
  obtain ⟨_, _, k3⟩ := k2
  exact hQ h₂ ⟨⟨_, st, hl, ⟨s2, hideAll_none _ (by simp), k3, x2⟩, hideAll_none _ (by simp)⟩, Heap.TupAt.of_slots ⟨_, _, (N _ ht).1, rfl, rfl⟩ (u1.trans u2)⟩ ((Heap.UpToSlots.of_keeps F.keep).trans (u1.trans u2))
theorem leave_tdeX {ps : Array Value} {v : Value} {nw : List (Addr × Obj)}
    (K : Below A base outer g) (F : Fr g L s'.heap m) (N : News g L s'.heap ((65, tabObj ps) :: nw)) (he : (e, excObj t) ∈ nw)
    (ht : (t, tupO [v]) ∈ nw) (hs : ∀ p ∈ news, p ∈ nw) (hne : ∀ p ∈ news, p.1 ≠ e ∧ p.1 ≠ t) (hT : TabSt nw ps) (hf : ∀ p ∈ nw, p.1 ≠ 65)
    (hR : ∀ h' nw', RaisedX base outer e (.ref 46) t [v] ((65, tabObj ps) :: nw') h' → g.UpToSlots h' → (∀ p ∈ news, p ∈ nw') → TabSt nw' ps → (∀ p ∈ nw', p.1 ≠ 65) → Q () { s' with heap := h' }) (hk : scope.kind = .function := by rfl) :
    wpAny M (A.deeper (envOf name scope L a cd)) (leaving (envOf name scope L a cd) (.ref e)) Q E s' := by
  refine leave_firstX (news := (65, tabObj ps) :: cut e t nw) (nt := 0) K F N (.tail _ he) rfl (.tail _ ht) (fun q hq => ?_) (fun q hq => ?_) (fun h' R U => ?_) hk
  · rcases List.mem_cons.mp hq with rfl | hq
    · exact .head _
    · exact .tail _ (cut_mem hq).1
  · rcases List.mem_cons.mp hq with rfl | hq
    · exact ⟨(hf _ he).symm, (hf _ ht).symm⟩
    · exact (cut_mem hq).2
  · exact hR h' _ R U (fun p hp => mem_cut (hs p hp) (hne p hp).1 (hne p hp).2) (TabSt.cut hT (fun p hp => N p (.tail _ hp)) he rfl rfl ht) fun p hp => hf p (cut_mem hp).1
end
section
local macro_rules | `(tactic| walk_at "zz1") => `(tactic| skip)
local macro_rules | `(tactic| walk_at $s:str) => `(tactic| k_extra $s)
theorem rs_X2 : True := by w_top off; k_with_none; trivial
noncomputable abbrev RaiseX (base : Heap) (outer : List Env) (g : Heap) (news : List (Addr × Obj)) (v : Str) (E' : Value → Shared → Prop) (s : Shared) : Prop := ∀ e t tt h' tk ps' nw', RaisedX base outer e (.ref 46) t [.str v tt] ((65, tabObj ps') :: nw') h' → g.UpToSlots h' → (∀ p ∈ news, p ∈ nw') → TabSt nw' ps' → (∀ p ∈ nw', p.1 ≠ 65) → E' (.ref e) { s with heap := h', toks := tk }
section
variable {w : World} {A₀ : Around} {base g : Heap} {outer : List Env} {L0 L : Addr} {m mg mb : Str → Option Value} {p : Program} {loose : List Str} {mean : ExcName → Option Value} {news : List (Addr × Obj)} {s : Shared}
  {Q : Flow → Shared → Prop} {E : Value → Shared → Prop}
theorem skip_errX {L1 : Addr} {ps : Array Value} {S : Str → Bool} {t1 t2 t3 : Tok} {src words : Str} {pos : Int} {E' : Value → Shared → Prop} (H : Refuses S src pos words) (hx : Builtin.Str.occurrences src (Str.ofString "'") (fromIndex src.length pos) src.length 1 ≠ []) (hlen : src.length ≤ 1000) (hp0 : 0 ≤ pos)
  (C : CodeHd base 69 65) (hL : 65 < L) (hoff : ∀ p ∈ news, p.1 ≠ 65) (hT : TabSt news ps)
  (fs : FS PySem.Challenge.rw_in0014_01.row.prog w base 36 S)
  (B : Below (parseA L0 L1) base [parseEnv L1, lawEnv L0] g) (F : Fr g L s.heap (fun y => [(Str.ofString "src", Value.str src t1), (Str.ofString "pos", Value.int pos t2), (Str.ofString "expect", Value.str (Str.ofString "'") t3), (Str.ofString "error_on", Value.ref 36), (Str.ofString "error_on_eof", Value.bool true)].reverse.lookup y)) (X : (K0 w.params).In g)
  (N : News g L s.heap ((65, tabObj ps) :: news)) (T : Top p loose mean mg mb g)
  (hR : RaiseX base [parseEnv L1, lawEnv L0] g news words E' s)
  : wpAny (model PySem.Challenge.rw_in0014_01.row.prog w) ((parseA L0 L1).deeper (skipEnv L)) (execs b_skip (skipEnv L)) Q
      (fun e s' => wpAny (model PySem.Challenge.rw_in0014_01.row.prog w) ((parseA L0 L1).deeper (skipEnv L)) (leaving (skipEnv L) e) (fun _ s'' => E' e s'') (fun e' s'' => E' e' s'') s') s := by
  cases H with
  | bad h1 h2 h3 h4 h5 h6 h7 h8 h9 h10 h11 h12 h13 h14 h15 h16 =>
    refine skip_bad hlen hp0 h1 h2 h3 h4 h5 h6 h7 h8 h9 h10 h11 h12 h13 h14 h15 h16 C hL hoff hT (fs.keeps B.stays) (by passes_own) B F X N T ?_
    intro e t tt h' tk m' ps' nw' F' N' hs he ht hT' hf hne het
    exact leave_tdeX (s' := { s with heap := h', toks := tk }) B F' N' he ht hs hne hT' hf (fun h'' nw'' r u a b c => hR e t tt h'' tk ps' nw'' r u a b c)
  | none h1 h2 h3 h4 h5 h6 => exact absurd h1 hx
end
theorem rk_X2_parsex_1 : True := by
  k_with "execs cons" => (k_here; (with_reducible show wpAny _ (Around.deeper _ (envOf _ s_skip _ _ _)) _ _ _ _); k_dflt (refine' skip_errX ?Hd ?hxd ?a1d ?a2d ?Cd ?hLd ?offd ?TSd ?fsd ?Bd ?Fd ?Xd ?Nd ?Td ?_; (case Fd => k_asm); (case Hd => with_reducible assumption); (case hxd => with_reducible assumption); (case a1d => with_reducible assumption); (case a2d => omega); (case Cd => with_reducible assumption); (case hLd => exact lt_deeper (by assumption) (by assumption) (by with_reducible assumption)); (case offd => with_reducible assumption); (case TSd => with_reducible assumption); (case fsd => with_reducible assumption); (case Bd => k_asm); (case Xd => k_asm); (case Nd => k_asm); (case Td => k_asm)); intro e'q t'q tt'q h'q tk'q ps'q nw'q R'q U'q hs'q hT'q hf'q)
  k_with "execs cons" => (k_here; (with_reducible show wpAny _ (Around.deeper _ (envOf _ s_skip _ _ _)) _ _ _ _); k_dflt (refine' skip_errX ?Hc ?hxc ?a1c ?a2c ?Cc ?hLc ?offc ?TSc ?fsc ?Bc ?Fc ?Xc ?Nc ?Tc ?_; (case Fc => k_asm); (case Hc => with_reducible assumption); (case hxc => with_reducible assumption); (case a1c => with_reducible assumption); (case a2c => omega); (case Cc => with_reducible assumption); (case hLc => exact lt_deeper (by assumption) (by assumption) (by with_reducible assumption)); (case offc => with_reducible assumption); (case TSc => with_reducible assumption); (case fsc => with_reducible assumption); (case Bc => k_asm); (case Xc => k_asm); (case Nc => k_asm); (case Tc => k_asm)); intro e'q t'q tt'q h'q tk'q ps'q nw'q R'q U'q hs'q hT'q hf'q)
  k_with "execs cons" => (k_here; (with_reducible show wpAny _ (Around.deeper _ (envOf _ s_skip _ _ _)) _ _ _ _); k_dflt (refine' skip_errX ?Hb ?hxb ?a1b ?a2b ?Cb ?hLb ?offb ?TSb ?fsb ?Bb ?Fb ?Xb ?Nb ?Tb ?_; (case Fb => k_asm); (case Hb => with_reducible assumption); (case hxb => with_reducible assumption); (case a1b => with_reducible assumption); (case a2b => omega); (case Cb => with_reducible assumption); (case hLb => exact lt_deeper (by assumption) (by assumption) (by with_reducible assumption)); (case offb => with_reducible assumption); (case TSb => with_reducible assumption); (case fsb => with_reducible assumption); (case Bb => k_asm); (case Xb => k_asm); (case Nb => k_asm); (case Tb => k_asm)); intro e'q t'q tt'q h'q tk'q ps'q nw'q R'q U'q hs'q hT'q hf'q)
  k_with "execs cons" => (k_here; (with_reducible show wpAny _ (Around.deeper _ (envOf _ s_skip _ _ _)) _ _ _ _); k_dflt (refine' skip_errX ?Ha ?hxa ?a1a ?a2a ?Ca ?hLa ?offa ?TSa ?fsa ?Ba ?Fa ?Xa ?Na ?Ta ?_; (case Fa => k_asm); (case Ha => with_reducible assumption); (case hxa => with_reducible assumption); (case a1a => with_reducible assumption); (case a2a => omega); (case Ca => with_reducible assumption); (case hLa => exact lt_deeper (by assumption) (by assumption) (by with_reducible assumption)); (case offa => with_reducible assumption); (case TSa => with_reducible assumption); (case fsa => with_reducible assumption); (case Ba => k_asm); (case Xa => k_asm); (case Na => k_asm); (case Ta => k_asm)); intro e'q t'q tt'q h'q tk'q ps'q nw'q R'q U'q hs'q hT'q hf'q)
  trivial
section
variable {w : World} {A₀ : Around} {base g : Heap} {outer : List Env} {L0 L : Addr} {m mg mb : Str → Option Value} {p : Program} {loose : List Str} {mean : ExcName → Option Value} {news : List (Addr × Obj)} {s : Shared}
  {Q : Flow → Shared → Prop} {E : Value → Shared → Prop}
theorem parse_errX {S : Str → Bool} {ps : Array Value} {t1 t2 : Tok} {src words : Str} {pos : Int} {E' : Value → Shared → Prop} (H : Refuses S src (pos + 1) words) (hx : Builtin.Str.occurrences src (Str.ofString "'") (fromIndex src.length (pos + 1)) src.length 1 ≠ []) (hlen : src.length ≤ 1000) (hp0 : 0 ≤ pos) (hp1 : pos ≤ 1000)
  (C : CodeHd base 69 65) (hL : 65 < L) (hoff : ∀ p ∈ news, p.1 ≠ 65) (hT : TabSt news ps)
  (fs : FS PySem.Challenge.rw_in0014_01.row.prog w base 36 S)
  (B : Below (lawA L0) base [lawEnv L0] g) (F : Fr g L s.heap (fun y => [(Str.ofString "src", Value.str src t1), (Str.ofString "pos", Value.int pos t2)].reverse.lookup y)) (X : (K0 w.params).In g) (N : News g L s.heap ((65, tabObj ps) :: news)) (T : Top p loose mean mg mb g)
  (hR : RaiseX base [lawEnv L0] g news words E' s)
  : wpAny (model PySem.Challenge.rw_in0014_01.row.prog w) ((lawA L0).deeper (parseEnv L)) (execs b_parse (parseEnv L)) Q
      (fun e s' => wpAny (model PySem.Challenge.rw_in0014_01.row.prog w) ((lawA L0).deeper (parseEnv L)) (leaving (parseEnv L) e) (fun _ s'' => E' e s'') (fun e' s'' => E' e' s'') s') s := by
  revert X; k_fill; intro X
  k_steps
  rename RaisedX _ _ _ _ _ _ _ _ => R'
  rename Heap.UpToSlots _ _ => U'
  all_goals exact leave_nextX B (by assumption) R' U' fun h'' r u => hR _ _ _ h'' _ _ _ r u (by assumption) (by assumption) (by assumption)
end
end
section
variable {w : World} {E : Value → Shared → Prop} {s' : Shared} {g h : Heap} {L e t : Addr} {m : Str → Option Value}
  {vs : List Value} {n : Str} {b₀ : Stmt} {suite : List Stmt} {pos np : Pos} {rest : List ExceptHandler} {Q : Flow → Shared → Prop} {news : List (Addr × Obj)}
  {p : Program} {loose : List Str} {mean : ExcName → Option Value} {mg mb : Str → Option Value}
theorem caught_law {prog : Program} (K : Below callerA g [] g) (F : Fr g L h m) (hsm : h.UpToSlots s'.heap) (R : RaisedK g [lawEnv L] e (.ref 46) t vs news s'.heap)
    (X : (K0 w.params).In g) (T : Top p loose mean mg mb g)
    (k : ∀ h' oe ot ws nt tk, Fr g L h' (fun y => if y = n then some (.ref e) else m y) → News g L h' ((e, oe) :: (t, ot) :: news) → oe.cls = .ref 46 → oe.data = .fields ws → ws[0]? = some (.ref t) → ot.cls = .type "tuple" → ot.data = .seq vs.toArray nt →
      wpAny (model prog w) ((lawA L).mark (some (.ref e))) (execs (b₀ :: suite) (lawEnv L))
        (fun f s₄ => wpAny (model prog w) (lawA L) (do bindName (lawEnv L) n .none; unbindBehindTheSuite (lawEnv L) n pos) (fun _ s₅ => Q f s₅) E s₄)
        (AsSuiteRaised (model prog w) ((lawA L).mark (some (.ref e))) (lawEnv L) n pos (notedBy (model prog w) ((lawA L).mark (some (.ref e))) (lawEnv L) (cameBackBy (model prog w) (lawA L) (lawEnv L) E)))
        { s' with heap := h', toks := tk })
    (hlo : (lawEnv L).kindOf n = some .local) :
    wpAny (model prog w) (lawA L) (noteFrame (.ref e) (lawEnv L))
      (fun _ s₂ => wpAny (model prog w) (lawA L) (setFlight (.ref e) none) (fun _ s₃ =>
        wpAny (model prog w) (lawA L) (handleBy (.ref e) (lawEnv L) (.ExceptHandler (some (.Name (Str.ofString "TOMLDecodeError") np)) (some n) (b₀ :: suite) pos :: rest)) Q E s₃) E s₂) E s' := by
  obtain ⟨⟨B, hB, hl, hfl, hnew⟩, htup⟩ := R
  have hL : B.get? L = none := by
    obtain ⟨_, ⟨L', _, hf, hn', _⟩, _⟩ := hfl.2.2.1
    obtain rfl : L = L' := Option.some.inj hf
    exact hn'
  refine wpAny_looks_onW (Around.frames_deeper K.stack) rfl hfl fun h₄ hheld₄ hsm₄ => ?_
  refine wpAny_landsW hheld₄ fun h₅ hheld hsm₅' => ?_
  have hsm₅ := hsm₄.trans hsm₅'
  have hheld' := flyingW_base hB hheld
  have F₅ := F.of_stays hheld'.1 (hsm.trans hsm₅)
  obtain ⟨ob, hob, hobc⟩ := hheld'.there
  refine wpAny_handleBy_cons (codeAny_handlers_test (nameX_K F₅ X (topRead_of T) (tde_ns w.params) ?_)) (by intro q; cases q)
  obtain ⟨bm, N, nm, qn, bs, hdct, sn, sub, ab, col, dd, k0, k1, k2, k3, k5, mN, hC, hN, hni, TL⟩ := ((tde_own X T).keeps F₅.keep).obj
  refine wpAny_excMatches_sub_self hC hob hobc (TL.hasType (by rfl)) (codeAny_handlers_suite_as ?_)
  refine lands_againW hheld fun h₆ hfl₆ hsm₆ => ?_
  have hfl₆' := flyingW_base hB hfl₆
  have F₆ := F.of_stays hfl₆'.1 ((hsm.trans hsm₅).trans hsm₆)
  obtain ⟨oe, ws, hoe, hoec, hoed, hoe0⟩ := hfl₆'.first
  obtain ⟨ot, nt, hot, hotc, hotd⟩ := (htup.of_slots hsm₅).of_slots hsm₆
  have N₆ := News.more F₆ (News.more F₆ News.nil hot (fun es n q => by rw [hotd] at q; cases q) (fresh_of_stays hB hnew)) hoe (fun es n q => by rw [hoed] at q; cases q) hfl₆'.2.1
  have Nl : News g L h₆ news := fun q hq => ⟨hfl₆.1 _ _ (hl q hq).1, (fun z => by have := (hl q hq).1; rw [z, hL] at this; cases this), (hl q hq).2⟩
  refine storeX_L (s := { s' with heap := h₆ }) F₆ (news := _ ++ news) (fun q hq => (List.mem_append.mp hq).elim (N₆ q) (Nl q)) (fun h₇ F₇ N₇ => ?_) rfl hlo
  exact k h₇ oe ot ws nt _ F₇ N₇ hoec hoed hoe0 hotc hotd
end
section
variable {w : World} {E : Value → Shared → Prop} {s' : Shared} {g h : Heap} {L e t : Addr} {m : Str → Option Value}
  {vs : List Value} {n : Str} {b₀ : Stmt} {suite : List Stmt} {pos np : Pos} {rest : List ExceptHandler} {Q : Flow → Shared → Prop} {news : List (Addr × Obj)}
  {p : Program} {loose : List Str} {mean : ExcName → Option Value} {mg mb : Str → Option Value}
theorem caught_lawX {prog : Program} (K : Below callerA g [] g) (F : Fr g L h m) (hsm : h.UpToSlots s'.heap) (R : RaisedX g [lawEnv L] e (.ref 46) t vs news s'.heap)
    (X : (K0 w.params).In g) (T : Top p loose mean mg mb g)
    (k : ∀ h' oe ot ws nt tk, Fr g L h' (fun y => if y = n then some (.ref e) else m y) → News g L h' ((e, oe) :: (t, ot) :: news) → oe.cls = .ref 46 → oe.data = .fields ws → ws[0]? = some (.ref t) → ws[2]? = some .none → ot.cls = .type "tuple" → ot.data = .seq vs.toArray nt →
      wpAny (model prog w) ((lawA L).mark (some (.ref e))) (execs (b₀ :: suite) (lawEnv L))
        (fun f s₄ => wpAny (model prog w) (lawA L) (do bindName (lawEnv L) n .none; unbindBehindTheSuite (lawEnv L) n pos) (fun _ s₅ => Q f s₅) E s₄)
        (AsSuiteRaised (model prog w) ((lawA L).mark (some (.ref e))) (lawEnv L) n pos (notedBy (model prog w) ((lawA L).mark (some (.ref e))) (lawEnv L) (cameBackBy (model prog w) (lawA L) (lawEnv L) E)))
        { s' with heap := h', toks := tk })
    (hlo : (lawEnv L).kindOf n = some .local) :
    wpAny (model prog w) (lawA L) (noteFrame (.ref e) (lawEnv L))
      (fun _ s₂ => wpAny (model prog w) (lawA L) (setFlight (.ref e) none) (fun _ s₃ =>
        wpAny (model prog w) (lawA L) (handleBy (.ref e) (lawEnv L) (.ExceptHandler (some (.Name (Str.ofString "TOMLDecodeError") np)) (some n) (b₀ :: suite) pos :: rest)) Q E s₃) E s₂) E s' := by
  obtain ⟨⟨B, hB, hl, ⟨f1, f2, f3, f4⟩, hnew⟩, htup⟩ := R
  have hL : B.get? L = none := by
    obtain ⟨_, ⟨L', _, hf, hn', _⟩, _⟩ := f3
    obtain rfl : L = L' := Option.some.inj hf
    exact hn'
  have up : ∀ {h₁ : Heap}, B.StaysIn h₁ → g.StaysIn h₁ := fun k b o q => k b o (hB b o q)
  refine noted_next (Around.frames_deeper K.stack) f3 rfl f4 f1 f2 fun h₄ s4 k4 x4 u4 => ?_
  refine flight_none s4 k4 x4 fun h₅ s5 k5 x5 u5 => ?_
  have F₅ := F.of_stays (up s5) ((hsm.trans u4).trans u5)
  have x5' := x5
  obtain ⟨ob, _, _, _, hob, hobc, _⟩ := x5'
  refine wpAny_handleBy_cons (codeAny_handlers_test (nameX_K F₅ X (topRead_of T) (tde_ns w.params) ?_)) (by intro q; cases q)
  obtain ⟨bm, N, nm, qn, bs, hdct, sn, sub, ab, col, dd, k0, k1, k2, k3, k5', mN, hC, hN, hni, TL⟩ := ((tde_own X T).keeps F₅.keep).obj
  refine wpAny_excMatches_sub_self hC hob hobc (TL.hasType (by rfl)) (codeAny_handlers_suite_as ?_)
  refine flight_none s5 k5 x5 fun h₆ s6 k6 x6 u6 => ?_
  have F₆ := F.of_stays (up s6) (((hsm.trans u4).trans u5).trans u6)
  obtain ⟨oe, T', oT, ts, hoe, hoec, hoed, _⟩ := x6
  obtain ⟨ot, nt, hot, hotc, hotd⟩ := ((htup.of_slots u4).of_slots u5).of_slots u6
  have N₆ := News.more F₆ (News.more F₆ News.nil hot (fun es n q => by rw [hotd] at q; cases q) (fresh_of_stays hB hnew)) hoe (fun es n q => by rw [hoed] at q; cases q) (fresh_of_stays hB f2)
  have Nl : News g L h₆ news := fun q hq => ⟨s6 _ _ (hl q hq).1, (fun z => by have := (hl q hq).1; rw [z, hL] at this; cases this), (hl q hq).2⟩
  refine storeX_L (s := { s' with heap := h₆ }) F₆ (news := _ ++ news) (fun q hq => (List.mem_append.mp hq).elim (N₆ q) (Nl q)) (fun h₇ F₇ N₇ => ?_) rfl hlo
  exact k h₇ oe ot _ nt _ F₇ N₇ hoec hoed rfl rfl hotc hotd
end
section
open PySem.Calls
variable {prog : Program} {w : World} {A : Around} {E : Value → Shared → Prop} {s : Shared} {env : Env} {e0 : Addr} {o0 : Obj} {vs : Array Value}
theorem next_end_m {it l : Addr} {i : Nat} {items : Array Value} {Q : Option Value → Shared → Prop} (hh : A.handled = some (.ref e0)) (he0 : s.heap.get? e0 = some o0) (hd0 : o0.data = .fields vs) (h02 : vs[2]? = some .none) (hne0 : e0 ≠ it)
    (hit : s.heap.IsListIter it l i) (hl : s.heap.IsList l items) (hx : items[i]? = none)
    (hQ : ∀ h', Heap.ExtBut it s.heap h' → Q none { s with heap := h' }) : wpAny (model prog w) A (pyNext (.ref it)) Q E s := by
  obtain ⟨o, ho, hc, hd⟩ := id hit
  obtain ⟨ol, hol, _, nl, hdl⟩ := hl
  unfold pyNext
  refine wpAny_bind (wpAny_attempt (wpAny_callSpecial?_slot (name := Str.ofString "__next__") hit.typeIs slot_listiter_next
    (wpAny_call_entry slot_listiter_next hit.typeIs entry_listiter_next ?_ (args_listiter_next _))))
  show wpAny _ _ (field (.ref it) 0 >>= _) _ _ s
  refine wpAny_bind (wpAny_field ho hd (x := .ref l) rfl ?_)
  show wpAny _ _ (if (Value.ref l == Value.none) = true then _ else _) _ _ s
  rw [if_neg (show ¬ ((Value.ref l == Value.none) = true) from Bool.false_ne_true)]
  show wpAny _ _ (field (.ref it) 1 >>= _) _ _ s
  refine wpAny_bind (wpAny_field ho hd (x := .int i 0) rfl ?_)
  show wpAny _ _ (seqItems? (.ref l) >>= _) _ _ s
  refine wpAny_bind (wpAny_seqItems hol hdl ?_)
  simp only [Int.toNat_natCast, hx]
  refine wpAny_bind (wpAny_rule (wpAny_bind (wpAny_setField ho hd (by simp) ?_)))
  show wpAny _ _ (newExc (.type "StopIteration") [] >>= _) _ _ _
  refine wpAny_bind ?_
  simp only [newExc, newTuple]
  refine wpAny_bind (wpAny_newObj_type ?_ (by size_fits))
  refine wpAny_bind (m := firstArgMember _ _) (wpAny_of_eq (a := Value.none) (by first | rfl | (simp only [firstArgMember]; rfl)) ?_)
  refine wpAny_newObj_type ?_ (by size_fits)
  simp only [raiseNew]
  refine wpAny_bind (wpAny_handled ?_)
  rw [show A.in1.handled = some (.ref e0) from hh]
  dsimp only
  have k1 : ((s.heap.update it (Obj.mapFields fun x => x.setIfInBounds 0 Value.none))).get? e0 = some o0 := (Heap.get?_update_other _ _ (Ne.symm hne0)).trans he0
  have lt1 := Heap.lt_size k1
  rw [if_pos (by
    show (Value.ref e0 != Value.ref _) = true
    simp only [bne_iff_ne, ne_eq, Value.ref.injEq]
    rw [Heap.size_push]
    exact Nat.ne_of_lt (Nat.lt_succ_of_lt lt1))]
  have k2 := fun (oT : Obj) => Heap.get?_push_of_some (h := s.heap.update it (Obj.mapFields fun x => x.setIfInBounds 0 Value.none)) oT k1
  refine wpAny_bind (wpAny_holding (wpAny_runValue (un_code (Heap.get?_push_of_some _ (k2 _)) hd0 h02 ?_)))
  refine wpAny_bind (m := setField (.ref _) 2 (.ref e0)) ?_
  refine wpAny_setField (Heap.get?_push_size _ rfl) rfl (by simp; omega) (wpAny_throw ?_)
  refine wpAny_bind (wpAny_isInstance (T := "StopIteration") (b := true) ⟨_, Heap.get?_update_self _ (Heap.get?_push_size _ rfl) (Obj.isFreed_of_fields (Obj.data_mapFields rfl _)), Obj.cls_mapFields _ _⟩ isSubtype_stop ?_)
  refine wpAny_pure (hQ _ fun b o hb e => ?_)
  have e1 := (Heap.SameBut.update s.heap it (Obj.mapFields fun x => x.setIfInBounds 0 Value.none)).extBut b o hb e
  have e2 := fun (oT : Obj) => Heap.get?_push_of_some oT e1
  have e3 := fun (oT oU : Obj) => Heap.get?_push_of_some oU (e2 oT)
  have hlt := fun (oT : Obj) => Heap.lt_size (e2 oT)
  exact (Heap.get?_update_other _ _ (Nat.ne_of_gt (hlt _))).trans (e3 _ _)
theorem items_m {l : Addr} {items : Array Value} {Q : List Value → Shared → Prop} (hh : A.handled = some (.ref e0)) (he0 : s.heap.get? e0 = some o0) (hd0 : o0.data = .fields vs) (h02 : vs[2]? = some .none) (hl : s.heap.IsList l items)
    (hQ : ∀ h', Heap.ExtBut s.heap.objs.size s.heap h' → Q items.toList { s with heap := h' }) : wpAny (model prog w) A (unpackItems (.ref l) items.size none) Q E s := by
  have hlt : l ≠ s.heap.objs.size := by obtain ⟨o, ho, _⟩ := hl; exact Nat.ne_of_lt (Heap.lt_size ho)
  have hlt0 : e0 ≠ s.heap.objs.size := Nat.ne_of_lt (Heap.lt_size he0)
  unfold unpackItems
  refine wpAny_bind ?_
  · unfold notIterableAtAll
    refine wpAny_bind (wpAny_specialOf hl.typeIs slot_list_iter.lookup ?_)
    refine wpAny_pure ?_
    simp only [Bool.false_eq_true, if_false]
    refine wpAny_bind (wpAny_holding (wpAny_pyIter_list hl ?_))
    refine wpAny_bind (wpAny_holding (kun_draw hlt items.size 0 _ _ ⟨_, Heap.get?_push_size _ rfl, rfl, rfl⟩ (hl.push _) (by omega) fun h₁ hit₁ hs₁ => ?_))
    have hall : List.take items.size (List.drop 0 items.toList) = items.toList := by
      rw [List.drop_zero]; exact List.take_of_length_le (by simp)
    rw [hall]
    rw [if_neg (by simp)]
    have hl₁ : h₁.IsList l items := (hl.push _).extBut hs₁.extBut hlt
    have he₁ : h₁.get? e0 = some o0 := hs₁.extBut _ _ hlt0 (Heap.get?_push_of_some _ he0)
    refine wpAny_bind (wpAny_holding (next_end_m hh he₁ hd0 h02 hlt0 hit₁ hl₁ (by simp) fun h₂ he₂ => ?_))
    simp only [Option.isSome_none, Bool.false_eq_true, if_false]
    refine wpAny_pure (hQ h₂ fun b o hb e => he₂ b o hb (hs₁.extBut b o hb (Heap.get?_push_of_some _ e)))
theorem unp_m {elts : List PySem.Expr} {k : Nat} {pos : Pos} {h₀ : Heap} {L l : Addr} {m : Str → Option Value} {news : List (Addr × Obj)} {items : Array Value} {Q : Unit → Shared → Prop} (hh : A.handled = some (.ref e0)) (F : Fr h₀ L s.heap m) (N : News h₀ L s.heap news) (he0 : (e0, o0) ∈ news) (hd0 : o0.data = .fields vs) (h02 : vs[2]? = some .none)
    (hl : s.heap.IsList l items) (hn : (assignEach elts env).length = items.size)
    (hstar : (assignEach elts env).findIdx? (·.1) = none) (h : ∀ h', Fr h₀ L h' m → News h₀ L h' news → wpAny (model prog w) A (assignInOrder ((assignEach elts env).map (·.2)) items.toList) Q E { s with heap := h' }) :
    wpAny (model prog w) A (assign (.Tuple elts k pos) env (.ref l)) Q E s := by
  rw [assign_Tuple]
  refine wpAny_bind (wpAny_standAt ?_)
  unfold unpack
  rw [hn, hstar]
  exact wpAny_bind (wpAny_holding (items_m hh (N _ he0).1 hd0 h02 hl fun h' he => h h' (F.extBut he (Nat.le_refl _)) (N.extBut he (Nat.le_refl _))))
end
section
open Builtin Builtin.Str Builtin.BaseException Builtin.Exceptions
variable {prog : Program} {w : World} {A : Around} {E : Value → Shared → Prop} {s : Shared} {e t : Addr}
noncomputable abbrev tdeCls : Obj := excClassObj (Str.ofString "TOMLDecodeError") (Str.ofString "TOMLDecodeError") 46 45 [.type "ValueError"] vErr true [] [] false none none (some (.ref 37)) none (some (.str (Str.ofString "TOMLDecodeError") 338)) (some (.str (Str.ofString "TOMLDecodeError") 346)) (some (.bool true)) "ValueError.__new__"
noncomputable def StrTde (h : Heap) (e t : Addr) (x : Str) (u : Tok) : Prop := (∃ oe ws, h.get? e = some oe ∧ oe.cls = .ref 46 ∧ oe.data = .fields ws ∧ ws[0]? = some (.ref t)) ∧ h.TupAt t [.str x u] ∧ h.get? 46 = some tdeCls ∧ ∃ mN, h.Ns 45 mN ∧ mN "__str__" = none
theorem bs_kind : builtinKind "BaseException.__str__" = some .slot := by decide +kernel
theorem bs_split : splitId "BaseException.__str__" = some ("BaseException", "__str__") := by decide +kernel
theorem bs_has : vErr.contains (.type "BaseException") = true := by decide
theorem tde_args {M : Model} {x : Str} {u : Tok} {Q : Value × List Value → Shared → Prop} (H : StrTde s.heap e t x u) (hq : Q (.ref t, [.str x u]) s) : wpAny M A (bexcArgs (.ref e)) Q E s := by
  obtain ⟨⟨o, vs, ho, _, hd, h0⟩, ⟨ot, k, hto, _, htd⟩, _⟩ := H
  unfold bexcArgs
  refine wpAny_bind (wpAny_field ho hd h0 (wpAny_bind (wpAny_seqItems hto htd ?_)))
  show wpAny M A (pure (Value.ref t, [Value.str x u])) Q E s
  exact wpAny_pure hq
theorem tde_entry {x : Str} {u : Tok} {Q : Fin → Shared → Prop} (H : StrTde s.heap e t x u) (hq : Q (.done (.ret (.str x u))) s) :
    wpAny (model prog w) A (Builtin.«BaseException.__str__» ⟨[.ref e], []⟩) Q E s := by
  unfold Builtin.«BaseException.__str__»
  repeat (first | with_reducible refine tde_args H ?_ | wp_step)
  exact hq
theorem tde_strcall {x : Str} {u : Tok} {Q : Value → Shared → Prop} (H : StrTde s.heap e t x u) (hq : Q (.str x u) s) :
    wpAny (model prog w) A (call (.builtin "BaseException.__str__") [.ref e]) Q E s := by
  have H' := H
  obtain ⟨⟨o, vs, ho, hc, _⟩, _, hC, _⟩ := H'
  obtain ⟨hp, gg, dd, tk, os⟩ := s
  dsimp only at ho hC
  refine wpAny_call (codeAny_call_builtin PySem.F.excStr_ValueError.str.plain PySem.F.entry_bexc_str ?_)
  refine wpAny_check_slot_inst (id := "BaseException.__str__") (owner := "BaseException") (n := "__str__") (bm := vErr) (C := 46) (x := e) (o := o) (rest := []) bs_kind bs_split (PySem.F.args_bexc_str _) bs_has ho hc hC ?_
  exact tde_entry (A := A.in1) H hq
theorem tde_special {x : Str} {u : Tok} {Q : Option Value → Shared → Prop} (H : StrTde s.heap e t x u) (hq : Q (some (.str x u)) s) :
    wpAny (model prog w) A (callSpecial? (.ref e) "__str__") Q E s := by
  have H' := H
  obtain ⟨⟨o, vs, ho, hc, _⟩, _, hC, mN, hN, hn⟩ := H'
  obtain ⟨hp, gg, dd, tk, os⟩ := s
  simp only [callSpecial?]
  refine wpAny_bind (wpAny_specialOf_inst ho hc hC hN hn PySem.F.excBase_ValueError.mroIs PySem.F.excStr_ValueError.str.lookup ?_)
  simp only [PySem.F.excStr_ValueError.str.bind]
  exact wpAny_holding (wpAny_bind (wpAny_pure (wpAny_bind (wpAny_mono (tde_strcall H hq) (fun v s' h' => wpAny_pure h') fun _ _ h' => h'))))
theorem tde_strOf (hu : A.units < cLine) {x : Str} {u : Tok} {Q : Value → Shared → Prop} (H : StrTde s.heap e t x u) (hq : Q (.str x u) s) :
    wpAny (model prog w) A (Builtin.Str.strOf (.ref e)) Q E s := by
  unfold Builtin.Str.strOf
  repeat (first | with_reducible refine wpAny_cRoomFor hu ?_ | with_reducible refine tde_special H ?_ | wp_step)
  exact hq
theorem str_own {g : Heap} {L : Addr} {m : Str → Option Value} {news : List (Addr × Obj)} {x : Str} {u : Tok} {Q : Value → Shared → Prop} (hu : A.units + 2 < cLine) (F : Fr g L s.heap m) (N : News g L s.heap news) (X : (K0 w.params).In g) (G : Got news e t (.ref 46) [.str x u])
    (h : Q (.str x u) s) : wpAny (model prog w) A (call (.type "str") [.ref e]) Q E s := by
  obtain ⟨oe, ot, ws, nt, h1, h2, h3, h4, h5, h6, h7⟩ := G
  have hN : g.Ns 45 (g.nsMap 45) := .of_isNs (isNs_of_in X (by kernel_rfl : nsOkIn (K0 w.params) 45 = true))
  have H : StrTde s.heap e t x u := ⟨⟨oe, ws, (N _ h1).1, h3, h4, h5⟩, ⟨ot, nt, (N _ h2).1, h6, h7⟩, F.keep _ _ (X _ _ (by unfold K0; rfl)), _, hN.keeps F.keep, nsMap_none_of_in X (by kernel_rfl) (by kernel_rfl)⟩
  exact callType_new PySem.F.called_str (by decide) (PySem.F.typeCall_str_1 _) (PySem.F.newCall_str_1 _) (fun obj => PySem.F.args_object_init_2 obj _) PySem.F.entry_str_new
    (meets_str_new (S := fun A' R s' => A'.units + 1 < cLine ∧ StrTde s'.heap e t x u ∧ R (.ok (.ret (.str x u))) s')
      fun _ _ A' _ _ hq => tde_strOf (A := A'.in1) hq.1 hq.2.1 hq.2.2)
    ⟨(show A.units + 1 + 1 < cLine from hu), H, typeIs_str _ _ _, h⟩
end
section
local macro_rules | `(tactic| walk_at $s:str) => `(tactic| k_extra $s)
theorem rs_X4 : True := by w_top off; k_with_none; trivial
theorem rk_X4_mac1_8 : True := by
  k_with "call builtin:str.split" => (k_here; (refine' split_two (by k_asm) (by k_asm) (by with_reducible assumption) (by with_reducible assumption) (by decide +kernel) ?_; k_whole); intro D'q h'q k'q ta'q tb'q F'q N'q)
  k_with "subscriptTail Name Slice str ref" => (k_here; (with_reducible show wpAny _ _ (subscriptTail _ (Expr.Slice none (some _) none _) _ _) _ _ _); (k_dflt (refine' slc_ns (s := ⟨_, _, _, _, _⟩) (by k_asm) (by k_asm) (by with_reducible assumption) (by with_reducible assumption) ?_ (by with_unfolding_all rfl) (by intro _; with_unfolding_all rfl))); k_whole; intro h'q t'q k'q F'q N'q)
  k_with "subscriptTail Name Slice str ref" => (k_here; (with_reducible show wpAny _ _ (subscriptTail _ (Expr.Slice (some _) none none _) _ _) _ _ _); (k_dflt (refine' slc_sn (s := ⟨_, _, _, _, _⟩) (by k_asm) (by k_asm) (by with_reducible assumption) (by k_dflt rfl) (by with_reducible assumption) ?_ (by with_unfolding_all rfl) (by intro _; with_unfolding_all rfl))); k_whole; intro h'q t'q k'q F'q N'q)
  k_with "subscriptTail Name Slice str ref" => (k_here; (with_reducible show wpAny _ _ (subscriptTail _ (Expr.Slice (some _) (some _) none _) _ _) _ _ _); (k_dflt (refine' slc_ss (s := ⟨_, _, _, _, _⟩) (by k_asm) (by k_asm) (by with_reducible assumption) (by with_reducible assumption) ?_ (by with_unfolding_all rfl) (by intro _; with_unfolding_all rfl))); k_whole; intro h'q t'q k'q F'q N'q)
  k_with "call type:int" => (k_here; (with_reducible show wpAny _ _ (call (Value.type _) [Value.str _ _]) _ _ _); (with_reducible refine call_text (by assumption) (by assumption) ?_))
  k_with "subscriptTail" => (k_here; (with_reducible show wpAny _ _ (subscriptTail _ _ (Value.ref _) (Value.int (-1) _)) _ _ _); (k_dflt (refine' item_neg1 (by k_asm) (by k_mem) ?_ (by with_unfolding_all rfl))); k_whole)
  trivial
section
variable {w : World} {A₀ : Around} {base g : Heap} {outer : List Env} {L0 L : Addr} {m mg mb : Str → Option Value} {p : Program} {loose : List Str} {mean : ExcName → Option Value} {news : List (Addr × Obj)} {s : Shared}
  {Q : Flow → Shared → Prop} {E : Value → Shared → Prop}
theorem where_end_m {e0 : Addr} {t1 t2 : Tok} {src words w1 w2 told : Str} (hlen : words.length ≤ 1000) (hlen2 : w2.length ≤ 1000) (hls : src.length ≤ 1000)
  (hsp : Txt.split words (Str.ofString " (at ") = [w1, w2]) (ht : Txt.slice w2 none (some (-1)) = told) (hc : (told == Str.ofString "end of document") = true)
  (B : Below ((lawA L0).mark (some (.ref e0))) base outer g) (F : Fr g L s.heap (fun y => [(Str.ofString "src", Value.str src t1), (Str.ofString "words", Value.str words t2)].reverse.lookup y)) (X : (K0 w.params).In g) (N : News g L s.heap news) (T : Top p loose mean mg mb g)
  (hQ : ∀ D h' tk m' news' ta tb, Fr g L h' m' → News g L h' ((D, listOf #[.int (src.length + 2) ta, .int 0 tb] 0) :: (news' ++ news)) → AllLt D news → Q (.ret (.ref D)) { s with heap := h', toks := tk })
  : wpAny (model PySem.Challenge.rw_in0014_01.row.prog w) (((lawA L0).mark (some (.ref e0))).deeper (whrEnv L)) (execs b_whr (whrEnv L)) Q E s := by
  revert X; k_fill; intro X
  k_steps
  all_goals exact hQ _ _ _ _ [_] _ _ (by assumption) (by assumption) (‹_ < _ ∧ AllLt _ news›).2
theorem rk_X4_whrm_1 : True := by
  k_with "assign Tuple" => (k_here; (refine' unp_m ?u1d ?u2d ?u3d ?u4d ?u5d ?u6d ?u7d ?u8d ?u9d ?_; (case u1d => exact rfl); (case u5d => with_reducible assumption); (case u6d => with_reducible assumption); (case u2d => k_asm); (case u3d => k_asm); (case u4d => repeat (first | assumption | refine List.Mem.tail _ ?_)); (case u7d => exact News.isList (by k_asm) (by k_mem)); (case u8d => exact rfl); (case u9d => exact rfl)); intro h'q F'q N'q)
  k_with "assign Tuple" => (k_here; (refine' unp_m ?u1c ?u2c ?u3c ?u4c ?u5c ?u6c ?u7c ?u8c ?u9c ?_; (case u1c => exact rfl); (case u5c => with_reducible assumption); (case u6c => with_reducible assumption); (case u2c => k_asm); (case u3c => k_asm); (case u4c => repeat (first | assumption | refine List.Mem.tail _ ?_)); (case u7c => exact News.isList (by k_asm) (by k_mem)); (case u8c => exact rfl); (case u9c => exact rfl)); intro h'q F'q N'q)
  k_with "assign Tuple" => (k_here; (refine' unp_m ?u1b ?u2b ?u3b ?u4b ?u5b ?u6b ?u7b ?u8b ?u9b ?_; (case u1b => exact rfl); (case u5b => with_reducible assumption); (case u6b => with_reducible assumption); (case u2b => k_asm); (case u3b => k_asm); (case u4b => repeat (first | assumption | refine List.Mem.tail _ ?_)); (case u7b => exact News.isList (by k_asm) (by k_mem)); (case u8b => exact rfl); (case u9b => exact rfl)); intro h'q F'q N'q)
  k_with "assign Tuple" => (k_here; (refine' unp_m ?u1a ?u2a ?u3a ?u4a ?u5a ?u6a ?u7a ?u8a ?u9a ?_; (case u1a => exact rfl); (case u5a => with_reducible assumption); (case u6a => with_reducible assumption); (case u2a => k_asm); (case u3a => k_asm); (case u4a => repeat (first | assumption | refine List.Mem.tail _ ?_)); (case u7a => exact News.isList (by k_asm) (by k_mem)); (case u8a => exact rfl); (case u9a => exact rfl)); intro h'q F'q N'q)
  trivial
theorem where_at_m {e0 : Addr} {o0 : Obj} {vs0 : Array Value} (he0 : (e0, o0) ∈ news) (hd0 : o0.data = .fields vs0) (h02 : vs0[2]? = some .none) {t1 t2 : Tok} {src words w1 w2 told rest l1 l2 : Str} {n1 n2 : Int} (hlen : words.length ≤ 1000) (hlen2 : w2.length ≤ 1000) (hlt : told.length ≤ 1000) (hlr : rest.length ≤ 1000)
  (hsp : Txt.split words (Str.ofString " (at ") = [w1, w2]) (ht : Txt.slice w2 none (some (-1)) = told) (hc : (told == Str.ofString "end of document") = false)
  (hr : Txt.slice told (some 5) none = rest)
  (hsp2 : Txt.split rest (Str.ofString ", column ") = [l1, l2])
  (hn1 : PySem.intText? l1 = some n1) (hn2 : PySem.intText? l2 = some n2) (hl1 : l1.length ≤ 640) (hl2 : l2.length ≤ 640)
  (B : Below ((lawA L0).mark (some (.ref e0))) base outer g) (F : Fr g L s.heap (fun y => [(Str.ofString "src", Value.str src t1), (Str.ofString "words", Value.str words t2)].reverse.lookup y)) (X : (K0 w.params).In g) (N : News g L s.heap news) (T : Top p loose mean mg mb g)
  (hQ : ∀ D h' tk m' news' ta tb, Fr g L h' m' → News g L h' ((D, listOf #[.int n1 ta, .int n2 tb] 0) :: (news' ++ news)) → AllLt D news → Q (.ret (.ref D)) { s with heap := h', toks := tk })
  : wpAny (model PySem.Challenge.rw_in0014_01.row.prog w) (((lawA L0).mark (some (.ref e0))).deeper (whrEnv L)) (execs b_whr (whrEnv L)) Q E s := by
  revert X; k_fill; intro X
  k_steps
  all_goals exact hQ _ _ _ _ [_, _] _ _ (by assumption) (by assumption) (‹_ < _ ∧ _ < _ ∧ AllLt _ news›).2.2
end
end
section
theorem rs_X5 : True := by w_top off; k_with_none; trivial
section
variable {w : World} {A₀ : Around} {base g : Heap} {outer : List Env} {L0 L : Addr} {m mg mb : Str → Option Value} {p : Program} {loose : List Str} {mean : ExcName → Option Value} {news : List (Addr × Obj)} {s : Shared}
  {Q : Flow → Shared → Prop} {E : Value → Shared → Prop}
noncomputable abbrev st_law : { x : PySem.Stmt × PySem.Stmt × PySem.Stmt × PySem.Stmt × PySem.Stmt × PySem.Stmt × PySem.Stmt // b_law = [x.1, x.2.1, x.2.2.1, x.2.2.2.1, x.2.2.2.2.1, x.2.2.2.2.2.1, x.2.2.2.2.2.2] } := ⟨(_, _, _, _, _, _, _), rfl⟩
noncomputable abbrev sgnT : Str := Str.ofString "'\na'\x7f\t\x1f\u2028"
noncomputable abbrev sgn (k : Int) : Str := Txt.item sgnT (k.fmod 8)
theorem sgn_len (k : Int) : (sgn k).length = 1 := by
  have h : ∀ j : Fin 8, (Txt.item sgnT (j.val : Int)).length = 1 := by decide +kernel
  have h0 : 0 ≤ k.fmod 8 := Int.fmod_nonneg_of_pos k (by omega)
  have h1 : k.fmod 8 < 8 := Int.fmod_lt_of_pos k (by omega)
  have := h ⟨(k.fmod 8).toNat, by omega⟩
  rw [show (((⟨(k.fmod 8).toNat, by omega⟩ : Fin 8).val : Nat) : Int) = k.fmod 8 by simp; omega] at this
  exact this
noncomputable def midOf (ns : List Int) : Str := Txt.join (Str.ofString "") ((ns.take 12).map sgn)
noncomputable def srcOf (ns : List Int) : Str := Str.ofString "a\n" ++ midOf ns ++ Str.ofString "\x7fa'\n"
theorem midOf_len (ns : List Int) : (midOf ns).length = (ns.take 12).length := by
  unfold midOf
  rw [PySem.W.KT.join_ones _ (fun a ha => by obtain ⟨b, hb, eb⟩ := List.mem_map.1 ha; rw [← eb]; exact sgn_len b), List.length_map]
noncomputable abbrev fe_src : { x : PySem.Expr × PySem.Expr × Scope // ∃ tg e1 o1 o2 e2 p1 p2 f y py pl k pc ps, b_law[0]? = some (.Assign tg (.BinOp (.BinOp e1 o1 (.Call f [.ListComp x.1 [⟨.Name y py, x.2.1, [], 0⟩] x.2.2 pl] k pc) p1) o2 e2 p2) ps) } := ⟨(_, _, _), _, _, _, _, _, _, _, _, _, _, _, _, _, _, rfl⟩
noncomputable abbrev el_src : PySem.Expr := fe_src.1.1
noncomputable abbrev it_src : PySem.Expr := fe_src.1.2.1
noncomputable abbrev sc_src : Scope := fe_src.1.2.2
theorem src_el {k : Int} {t : Tok} {C' : Addr} {oC : Obj} {m₂ : Str → Option Value} 
  (N : News g L s.heap ((C', oC) :: news)) (hC : LCg.NsObj oC m₂) (hx : m₂ (Str.ofString "x") = some (Value.int k t)) {Q : Value → Shared → Prop} (F : Fr g L s.heap m) (X : (K0 w.params).In g) (T : Top p loose mean mg mb g)
  (hQ : ∀ tk' t', Q (.str (sgn k) t') { s with toks := tk' })
  : wpAny (model PySem.Challenge.rw_in0014_01.row.prog w) (lawA L) (eval el_src (compEnvC sc_src [] C' (lawEnv L))) Q E s := by
  revert X; k_fill; intro X
  k_steps
  all_goals exact hQ _ _
theorem law_src {S : Addr} {vs : List Value} {ns : List Int} {oW : Obj} (hi : IntsAre vs ns) (hns : ns.length ≤ 63)
  (B : Below callerA base [] g) (hl : g.IsList S vs.toArray) (F : Fr g L s.heap (fun y => if y = Str.ofString "script" then some (.ref S) else none)) (X : (K0 w.params).In g)
  (N : News g L s.heap ((L + 1, oW) :: news)) (T : Top p loose mean mg mb g)
  (hQ : ∀ h' tk' t', Fr g L h' (fun y => if y = Str.ofString "src" then some (.str (srcOf ns) t') else if y = Str.ofString "script" then some (.ref S) else none) → News g L h' ((L + 1, oW) :: news) → Q .next { s with heap := h', toks := tk' })
  : wpAny (model PySem.Challenge.rw_in0014_01.row.prog w) (lawA L) (exec st_law.1.1 (lawEnv L)) Q E s := by
  revert X; k_fill; intro X
  iterate 9 (first | (k_unfold; (try dsimp only)) | walk1 | (dsimp only; walk1))
  rename Fr _ _ _ _ => F'
  refine LCg.ListComp_U (cl := []) F' (by with_unfolding_all rfl) (by decide) (by with_unfolding_all rfl) (by decide) (by with_unfolding_all rfl) (wpAny_hold ?_) (fun _ => by with_unfolding_all rfl)
  k_steps
  rename Fr _ _ _ _ => F'
  rename News _ _ _ _ => N'
  rename IntsAre _ (List.take 12 ns) => hI
  have hl12 : (ns.take 12).length ≤ 12 := by simp; omega
  show LCg.CompSrc _ _ _ _ _ _ _ _ _ _ _ _ _ _
  refine LCg.CompSrc.ledger rfl F' N' (.head _) (by rw [sizeLine_eq, List.size_toArray, hI.length]; omega) fun g' => ?_
  refine kct_list sgn hI ?_ ?_
  · intro k t I oI C oC D m₂ ys h tk E' hk hC hx F₁ N₁ off ne mk
    exact src_el (N := fun p hp => N₁ p (.tail _ hp)) hC hx F₁ X T fun tk' t' => ⟨h, tk', _, rfl, F₁, N₁, off, .inr ⟨_, .head _, rfl, _, rfl⟩, rfl, t', rfl⟩
  · unfold KPfDone
    intro ys hc he D h tk F₁ N₁ o1
    k_steps
    all_goals exact hQ _ _ _ (by assumption) (fun p hp => by
      rename News _ _ _ _ => N₂
      exact N₂ p (.tail _ (.tail _ hp)))
end
end
end
section
local macro_rules | `(tactic| walk_at $s:str) => `(tactic| k_extra $s)
theorem rs_X6 : True := by w_top off; k_with_none; trivial
section
variable {w : World} {A₀ : Around} {base g : Heap} {outer : List Env} {L0 L : Addr} {m mg mb : Str → Option Value} {p : Program} {loose : List Str} {mean : ExcName → Option Value} {news : List (Addr × Obj)} {s : Shared}
  {Q : Flow → Shared → Prop} {E : Value → Shared → Prop}
noncomputable abbrev fl_law : { x : List PySem.Stmt // ∃ t i o q, st_law.1.2.2.2.1 = .For t i x o q } := ⟨_, _, _, _, _, rfl⟩
noncomputable abbrev bl_law : List PySem.Stmt := fl_law.1
noncomputable abbrev mLaw (S G R : Addr) (src : Str) (ts : Tok) (st er : Option Value) : Str → Option Value := fun y => if y = Str.ofString "err" then er else if y = Str.ofString "start" then st else if y = Str.ofString "refused" then some (.ref R) else if y = Str.ofString "given" then some (.ref G) else if y = Str.ofString "src" then some (.str src ts) else if y = Str.ofString "script" then some (.ref S) else none
theorem mLaw_start (S G R : Addr) (src : Str) (ts : Tok) (st er v : Option Value) (y : Str) : (if y = Str.ofString "start" then v else mLaw S G R src ts st er y) = mLaw S G R src ts v er y := by
  have h1 : Str.ofString "start" ≠ Str.ofString "err" := by decide
  unfold mLaw
  by_cases e : y = Str.ofString "start"
  · subst e; rw [if_pos rfl, if_neg h1, if_pos rfl]
  · rw [if_neg e, if_neg e, if_neg e]
local macro_rules | `(tactic| k_all) => `(tactic| with_reducible assumption)
theorem rk_X6_law_t0_1 : True := by
  k_with "exec Try" => (k_here; refine wpAny_Try_except ?_)
  trivial
theorem str_got {prog : Program} {A : Around} {e t : Addr} {oe ot : Obj} {ws : Array Value} {nt : Nat} {x : Str} {u : Tok} {Q : Value → Shared → Prop} (hu : A.units + 2 < cLine) (oc : oe.cls = .ref 46) (od : oe.data = .fields ws) (o0 : ws[0]? = some (.ref t)) (tc : ot.cls = .type "tuple") (td : ot.data = .seq [Value.str x u].toArray nt) (F : Fr g L s.heap m) (N : News g L s.heap news) (X : (K0 w.params).In g) (h1 : (e, oe) ∈ news) (h2 : (t, ot) ∈ news)
    (h : Q (.str x u) s) : wpAny (model prog w) A (call (.type "str") [.ref e]) Q E s := str_own hu F N X ⟨oe, ot, ws, nt, h1, h2, oc, od, o0, tc, td⟩ h
theorem name_goes {M : Model} {A : Around} {n : Str} {pos : Pos} {Q : Unit → Shared → Prop} (F : Fr g L s.heap m) (N : News g L s.heap news)
    (h : ∀ h' v, Fr g L h' (fun x => if x = n then v else m x) → News g L h' news → Q () { s with heap := h', toks := s.toks + 1 }) (hl : (lawEnv L).kindOf n = some .local) :
    wpAny M A (do bindName (lawEnv L) n .none; unbindBehindTheSuite (lawEnv L) n pos) Q E s :=
  wpAny_nameGoes_keeps hl F.ns (by rfl) fun h' v hn hs => h h' v (F.set hn hs) (N.set hs)
theorem mLaw_err (S G R : Addr) (src : Str) (ts : Tok) (st er v v1 v2 : Option Value) (y : Str) : (if y = Str.ofString "err" then v1 else if y = Str.ofString "err" then v2 else if y = Str.ofString "start" then v else mLaw S G R src ts st er y) = mLaw S G R src ts v v1 y := by
  have h1 : Str.ofString "start" ≠ Str.ofString "err" := by decide
  unfold mLaw
  by_cases e0 : y = Str.ofString "err"
  · rw [if_pos e0, if_pos e0]
  · rw [if_neg e0, if_neg e0, if_neg e0, if_neg e0]
    by_cases e : y = Str.ofString "start"
    · rw [if_pos e, if_pos e]
    · rw [if_neg e, if_neg e, if_neg e]
theorem rk_X6_law_t0_2 : True := by
  k_with "bind" => (k_here; (refine' name_goes ?j1d ?j2d ?_ ?j3d; (case j1d => k_asm); (case j2d => k_asm); (case j3d => rfl)); intro h'q v'q F'q N'q)
  k_with "bind" => (k_here; (refine' name_goes ?j1c ?j2c ?_ ?j3c; (case j1c => k_asm); (case j2c => k_asm); (case j3c => rfl)); intro h'q v'q F'q N'q)
  k_with "bind" => (k_here; (refine' name_goes ?j1b ?j2b ?_ ?j3b; (case j1b => k_asm); (case j2b => k_asm); (case j3b => rfl)); intro h'q v'q F'q N'q)
  k_with "bind" => (k_here; (refine' name_goes ?j1a ?j2a ?_ ?j3a; (case j1a => k_asm); (case j2a => k_asm); (case j3a => rfl)); intro h'q v'q F'q N'q)
  trivial
theorem bad_news {h₀ h : Heap} {a b c I G R e t : Addr × Obj} {x y z : Addr} {nw : List (Addr × Obj)} (N : News h₀ L h (a :: b :: c :: I :: G :: R :: e :: t :: offL z nw)) : News h₀ L h (c :: I :: G :: R :: a :: b :: offL x (offL y (offL z nw))) := fun p hp => N p (by
  simp only [List.mem_cons] at hp ⊢
  rcases hp with h | h | h | h | h | h | h
  · simp [h]
  · simp [h]
  · simp [h]
  · simp [h]
  · simp [h]
  · simp [h]
  · simp [offL_sub _ (offL_sub _ h)])
theorem bad_tab {h₀ h : Heap} {I G R : Addr} {it oG oR : Obj} {nw new : List (Addr × Obj)} {ps : Array Value} (N : News h₀ L h nw) (mI : (I, it) ∈ nw) (mG : (G, oG) ∈ nw) (mR : (R, oR) ∈ nw) (hit : ∃ x y z, it = ({ cls := .type "range_iterator", data := .fields #[rawInt x, rawInt y, rawInt z] } : Obj))
    (hG : oG.cls = .type "list" ∧ ∀ vs, oG.data ≠ .fields vs) (hR : oR.cls = .type "list" ∧ ∀ vs, oR.data ≠ .fields vs) (H : TabSt nw ps) : TabSt (new ++ offL I (offL G (offL R nw))) ps := by
  rcases H with h | ⟨c', oc, vs, t, e1, e2, e3, e4⟩
  · exact .inl h
  · refine .inr ⟨c', oc, vs, t, e1, List.mem_append.mpr (.inr (offL_mem (offL_mem (offL_mem e2 ?_) ?_) ?_)), e3, e4⟩
    · intro q; simp only at q; subst q; rw [news_eq N e2 mR] at e3; exact hR.2 _ e3
    · intro q; simp only at q; subst q; rw [news_eq N e2 mG] at e3; exact hG.2 _ e3
    · intro q; simp only at q; subst q
      obtain ⟨x, y, z, rfl⟩ := hit
      rw [news_eq N e2 mI] at e3
      cases e3
      simp [rawInt] at e4
theorem rk_X6_law_ok_1 : True := by
  k_with "execs cons" => (k_here; (with_reducible show wpAny _ (Around.deeper _ (envOf _ s_parse _ _ _)) _ _ _ _); k_dflt (refine' parse_ok ?w1d ?w2d ?w3d ?w4d ?w5d ?w6d ?w7d ?w8d ?w9d ?x1d ?x2d ?x3d ?x4d ?x5d ?_; (case x2d => k_asm); (case w1d => with_reducible assumption); (case w2d => with_reducible assumption); (case w3d => omega); (case w4d => with_reducible assumption); (case w5d => with_reducible assumption); (case w6d => with_reducible assumption); (case w7d => with_reducible assumption); (case w8d => with_reducible assumption); (case w9d => with_reducible assumption); (case x1d => k_asm); (case x3d => k_asm); (case x4d => k_asm); (case x5d => k_asm); k_whole); intro D'q h'q tk'q m'q ta'q tb'q F'q N'q hlt'q; (have hlt2' := allLt_of hlt'q); (dsimp only [AllLt] at hlt2'))
  k_with "execs cons" => (k_here; (with_reducible show wpAny _ (Around.deeper _ (envOf _ s_parse _ _ _)) _ _ _ _); k_dflt (refine' parse_ok ?w1c ?w2c ?w3c ?w4c ?w5c ?w6c ?w7c ?w8c ?w9c ?x1c ?x2c ?x3c ?x4c ?x5c ?_; (case x2c => k_asm); (case w1c => with_reducible assumption); (case w2c => with_reducible assumption); (case w3c => omega); (case w4c => with_reducible assumption); (case w5c => with_reducible assumption); (case w6c => with_reducible assumption); (case w7c => with_reducible assumption); (case w8c => with_reducible assumption); (case w9c => with_reducible assumption); (case x1c => k_asm); (case x3c => k_asm); (case x4c => k_asm); (case x5c => k_asm); k_whole); intro D'q h'q tk'q m'q ta'q tb'q F'q N'q hlt'q; (have hlt2' := allLt_of hlt'q); (dsimp only [AllLt] at hlt2'))
  k_with "execs cons" => (k_here; (with_reducible show wpAny _ (Around.deeper _ (envOf _ s_parse _ _ _)) _ _ _ _); k_dflt (refine' parse_ok ?w1b ?w2b ?w3b ?w4b ?w5b ?w6b ?w7b ?w8b ?w9b ?x1b ?x2b ?x3b ?x4b ?x5b ?_; (case x2b => k_asm); (case w1b => with_reducible assumption); (case w2b => with_reducible assumption); (case w3b => omega); (case w4b => with_reducible assumption); (case w5b => with_reducible assumption); (case w6b => with_reducible assumption); (case w7b => with_reducible assumption); (case w8b => with_reducible assumption); (case w9b => with_reducible assumption); (case x1b => k_asm); (case x3b => k_asm); (case x4b => k_asm); (case x5b => k_asm); k_whole); intro D'q h'q tk'q m'q ta'q tb'q F'q N'q hlt'q; (have hlt2' := allLt_of hlt'q); (dsimp only [AllLt] at hlt2'))
  k_with "execs cons" => (k_here; (with_reducible show wpAny _ (Around.deeper _ (envOf _ s_parse _ _ _)) _ _ _ _); k_dflt (refine' parse_ok ?w1a ?w2a ?w3a ?w4a ?w5a ?w6a ?w7a ?w8a ?w9a ?x1a ?x2a ?x3a ?x4a ?x5a ?_; (case x2a => k_asm); (case w1a => with_reducible assumption); (case w2a => with_reducible assumption); (case w3a => omega); (case w4a => with_reducible assumption); (case w5a => with_reducible assumption); (case w6a => with_reducible assumption); (case w7a => with_reducible assumption); (case w8a => with_reducible assumption); (case w9a => with_reducible assumption); (case x1a => k_asm); (case x3a => k_asm); (case x4a => k_asm); (case x5a => k_asm); k_whole); intro D'q h'q tk'q m'q ta'q tb'q F'q N'q hlt'q; (have hlt2' := allLt_of hlt'q); (dsimp only [AllLt] at hlt2'))
  trivial
theorem news_turn2 {h₀ h : Heap} {a b I S P G : Addr × Obj} (N : News h₀ L h (a :: b :: I :: S :: P :: G :: news)) : News h₀ L h (I :: S :: P :: G :: ([a, b] ++ news)) := fun p hp => N p (by
  simp only [List.mem_cons, List.cons_append, List.nil_append] at hp ⊢
  rcases hp with h | h | h | h | h | h | h <;> simp [h])
theorem law_ok {SS : Str → Bool} {src sl : Str} {I S G R : Addr} {it : Obj} {i : Int} {k : Nat} {rest : List Nat} {ti ts : Tok} {st er : Option Value} {gs rs : List Value} {n1 n2 : Nat} {ps : Array Value} (hlen : src.length ≤ 1000) (hgs : gs.length ≤ 1000) (hi0 : 0 ≤ i) (hi1 : i ≤ (src.length : Int))
  (hidx : Builtin.Str.occurrences src (Str.ofString "'") (fromIndex src.length (i + 1)) src.length 1 = k :: rest) (hkl : (k : Int) ≤ 1000)
  (hsl : Txt.slice src (some (i + 1)) (some (k : Int)) = sl) (hsll : sl.length ≤ 1000) (hd : (sl.cps.toList.any fun c => SS ⟨#[c]⟩) = false)
  (fs : FS PySem.Challenge.rw_in0014_01.row.prog w g 36 SS)
  (B : Below callerA g [] g) (F : Fr g L s.heap (mLaw S G R src ts st er)) (X : (K0 w.params).In g)
  (N : News g L s.heap ((I, it) :: (65, tabObj ps) :: (G, listOf gs.toArray n1) :: (R, listOf rs.toArray n2) :: news)) (hG : ∀ p ∈ news, p.1 ≠ G) (hIo : @Ne Nat I G ∧ @Ne Nat R G) (h65 : @LT.lt Nat _ 65 G ∧ @LT.lt Nat _ 65 R ∧ @Ne Nat I 65) (T : Top p loose mean mg mb g)
  (hQ : ∀ h' tk' new v n', Fr g L h' (mLaw S G R src ts (some (.int i ti)) er) → News g L h' ((I, it) :: (65, tabObj ps) :: (G, listOf (gs ++ [v]).toArray n') :: (R, listOf rs.toArray n2) :: (new ++ news)) →
    (∀ p ∈ new, p.1 ≠ I ∧ p.1 ≠ 65 ∧ p.1 ≠ G ∧ p.1 ≠ R) → DatIn (new ++ news) v (.tuple [.int i, .tuple [.int ((k : Int) + 1), .str sl]]) → Q .next { s with heap := h', toks := tk' })
  : wpAny (model PySem.Challenge.rw_in0014_01.row.prog w) (lawA L) (storeName (lawEnv L) (Str.ofString "start") (.int i ti)) (fun _ s₁ => wpAny (model PySem.Challenge.rw_in0014_01.row.prog w) (lawA L) (execs bl_law (lawEnv L)) Q E s₁) E s := by
  revert X; k_fill; intro X
  k_steps
  rename News _ _ _ _ => N'
  rw [List.push_toArray] at N'
  refine hQ _ _ [_, _] (.ref _) _ (fr_congr' (by assumption) (mLaw_start _ _ _ _ _ _ _ _)) (news_turn2 N') ?_ ?_
  · intro p hp
    simp only [List.mem_cons, List.not_mem_nil, or_false] at hp
    rcases hp with rfl | rfl <;> refine ⟨?_, ?_, ?_, ?_⟩ <;> k_ne
  · exact .tuple (vs := [_, _]) (n := 0) (.head _) (.cons (.int _ _) (.cons (.tuple (vs := [_, _]) (n := 0) (.tail _ (.head _)) (.cons (.int _ _) (.cons (.str _ _) .nil))) .nil))
theorem rk_X6_law_bad_1 : True := by
  k_with "execs cons" => (k_here; (with_reducible show wpAny _ (Around.deeper _ (envOf _ s_parse _ _ _)) _ _ _ _); k_dflt (refine' parse_errX ?z1d ?z2d ?z3d ?z4d ?z5d ?z6d ?z7d ?z8d ?z9d ?y1d ?y2d ?y3d ?y4d ?y5d ?y6d ?_; (case y3d => k_asm); (case z1d => with_reducible assumption); (case z2d => with_reducible assumption); (case z3d => with_reducible assumption); (case z4d => with_reducible assumption); (case z5d => omega); (case z6d => with_reducible assumption); (case z7d => exact lt_deeper (by assumption) (by assumption) (by with_reducible assumption)); (case y5d => k_asm); (case z8d => with_reducible assumption); (case z9d => with_reducible assumption); (case y1d => with_reducible assumption); (case y2d => k_asm); (case y4d => k_asm); (case y6d => k_asm)); intro e'q t'q tt'q h'q tk'q ps'q nw'q R'q U'q hs'q hT'q hf'q)
  k_with "execs cons" => (k_here; (with_reducible show wpAny _ (Around.deeper _ (envOf _ s_parse _ _ _)) _ _ _ _); k_dflt (refine' parse_errX ?z1c ?z2c ?z3c ?z4c ?z5c ?z6c ?z7c ?z8c ?z9c ?y1c ?y2c ?y3c ?y4c ?y5c ?y6c ?_; (case y3c => k_asm); (case z1c => with_reducible assumption); (case z2c => with_reducible assumption); (case z3c => with_reducible assumption); (case z4c => with_reducible assumption); (case z5c => omega); (case z6c => with_reducible assumption); (case z7c => exact lt_deeper (by assumption) (by assumption) (by with_reducible assumption)); (case y5c => k_asm); (case z8c => with_reducible assumption); (case z9c => with_reducible assumption); (case y1c => with_reducible assumption); (case y2c => k_asm); (case y4c => k_asm); (case y6c => k_asm)); intro e'q t'q tt'q h'q tk'q ps'q nw'q R'q U'q hs'q hT'q hf'q)
  k_with "execs cons" => (k_here; (with_reducible show wpAny _ (Around.deeper _ (envOf _ s_parse _ _ _)) _ _ _ _); k_dflt (refine' parse_errX ?z1b ?z2b ?z3b ?z4b ?z5b ?z6b ?z7b ?z8b ?z9b ?y1b ?y2b ?y3b ?y4b ?y5b ?y6b ?_; (case y3b => k_asm); (case z1b => with_reducible assumption); (case z2b => with_reducible assumption); (case z3b => with_reducible assumption); (case z4b => with_reducible assumption); (case z5b => omega); (case z6b => with_reducible assumption); (case z7b => exact lt_deeper (by assumption) (by assumption) (by with_reducible assumption)); (case y5b => k_asm); (case z8b => with_reducible assumption); (case z9b => with_reducible assumption); (case y1b => with_reducible assumption); (case y2b => k_asm); (case y4b => k_asm); (case y6b => k_asm)); intro e'q t'q tt'q h'q tk'q ps'q nw'q R'q U'q hs'q hT'q hf'q)
  k_with "execs cons" => (k_here; (with_reducible show wpAny _ (Around.deeper _ (envOf _ s_parse _ _ _)) _ _ _ _); k_dflt (refine' parse_errX ?z1a ?z2a ?z3a ?z4a ?z5a ?z6a ?z7a ?z8a ?z9a ?y1a ?y2a ?y3a ?y4a ?y5a ?y6a ?_; (case y3a => k_asm); (case z1a => with_reducible assumption); (case z2a => with_reducible assumption); (case z3a => with_reducible assumption); (case z4a => with_reducible assumption); (case z5a => omega); (case z6a => with_reducible assumption); (case z7a => exact lt_deeper (by assumption) (by assumption) (by with_reducible assumption)); (case y5a => k_asm); (case z8a => with_reducible assumption); (case z9a => with_reducible assumption); (case y1a => with_reducible assumption); (case y2a => k_asm); (case y4a => k_asm); (case y6a => k_asm)); intro e'q t'q tt'q h'q tk'q ps'q nw'q R'q U'q hs'q hT'q hf'q)
  trivial
theorem drop_mid {h₀ h : Heap} {d : Addr × Obj} {a r : List (Addr × Obj)} (N : News h₀ L h (d :: (a ++ r))) : News h₀ L h (d :: r) := fun p hp => N p (by
  rcases List.mem_cons.mp hp with h | h
  · rw [h]; exact .head _
  · exact .tail _ (List.mem_append.mpr (.inr h)))
theorem rk_X6_law_bad_3 : True := by
  k_with "execs cons" => (k_here; (with_reducible show wpAny _ (Around.deeper (Around.mark _ _) (envOf _ s_whr _ _ _)) _ _ _ _); k_dflt (refine' where_at_m ?b1d ?b2d ?b3d ?b4d ?b5d ?b6d ?b7d ?b8d ?b9d ?c1d ?c2d ?c3d ?c4d ?c5d ?c6d ?c7d ?d1d ?d2d ?d3d ?d4d ?d5d ?_; (case d2d => k_asm); (case b2d => with_reducible assumption); (case b3d => with_reducible assumption); (case b8d => with_reducible assumption); (case b4d => with_reducible assumption); (case b9d => with_reducible assumption); (case b5d => with_reducible assumption); (case c1d => with_reducible assumption); (case b6d => with_reducible assumption); (case c2d => with_reducible assumption); (case c3d => with_reducible assumption); (case b7d => with_reducible assumption); (case c4d => with_reducible assumption); (case c5d => with_reducible assumption); (case c6d => with_reducible assumption); (case c7d => with_reducible assumption); (case d1d => k_asm); (case d3d => k_asm); (case d4d => k_asm); (case d5d => k_asm); (case b1d => k_mem); k_whole); intro D'q h'q tk'q m'q nw'q ta'q tb'q F'q N0'q hl'q; (have N' := drop_mid N0'q); (clear N0'q); (dsimp only [AllLt] at hl'q))
  k_with "execs cons" => (k_here; (with_reducible show wpAny _ (Around.deeper (Around.mark _ _) (envOf _ s_whr _ _ _)) _ _ _ _); k_dflt (refine' where_at_m ?b1c ?b2c ?b3c ?b4c ?b5c ?b6c ?b7c ?b8c ?b9c ?c1c ?c2c ?c3c ?c4c ?c5c ?c6c ?c7c ?d1c ?d2c ?d3c ?d4c ?d5c ?_; (case d2c => k_asm); (case b2c => with_reducible assumption); (case b3c => with_reducible assumption); (case b8c => with_reducible assumption); (case b4c => with_reducible assumption); (case b9c => with_reducible assumption); (case b5c => with_reducible assumption); (case c1c => with_reducible assumption); (case b6c => with_reducible assumption); (case c2c => with_reducible assumption); (case c3c => with_reducible assumption); (case b7c => with_reducible assumption); (case c4c => with_reducible assumption); (case c5c => with_reducible assumption); (case c6c => with_reducible assumption); (case c7c => with_reducible assumption); (case d1c => k_asm); (case d3c => k_asm); (case d4c => k_asm); (case d5c => k_asm); (case b1c => k_mem); k_whole); intro D'q h'q tk'q m'q nw'q ta'q tb'q F'q N0'q hl'q; (have N' := drop_mid N0'q); (clear N0'q); (dsimp only [AllLt] at hl'q))
  k_with "execs cons" => (k_here; (with_reducible show wpAny _ (Around.deeper (Around.mark _ _) (envOf _ s_whr _ _ _)) _ _ _ _); k_dflt (refine' where_at_m ?b1b ?b2b ?b3b ?b4b ?b5b ?b6b ?b7b ?b8b ?b9b ?c1b ?c2b ?c3b ?c4b ?c5b ?c6b ?c7b ?d1b ?d2b ?d3b ?d4b ?d5b ?_; (case d2b => k_asm); (case b2b => with_reducible assumption); (case b3b => with_reducible assumption); (case b8b => with_reducible assumption); (case b4b => with_reducible assumption); (case b9b => with_reducible assumption); (case b5b => with_reducible assumption); (case c1b => with_reducible assumption); (case b6b => with_reducible assumption); (case c2b => with_reducible assumption); (case c3b => with_reducible assumption); (case b7b => with_reducible assumption); (case c4b => with_reducible assumption); (case c5b => with_reducible assumption); (case c6b => with_reducible assumption); (case c7b => with_reducible assumption); (case d1b => k_asm); (case d3b => k_asm); (case d4b => k_asm); (case d5b => k_asm); (case b1b => k_mem); k_whole); intro D'q h'q tk'q m'q nw'q ta'q tb'q F'q N0'q hl'q; (have N' := drop_mid N0'q); (clear N0'q); (dsimp only [AllLt] at hl'q))
  k_with "execs cons" => (k_here; (with_reducible show wpAny _ (Around.deeper (Around.mark _ _) (envOf _ s_whr _ _ _)) _ _ _ _); k_dflt (refine' where_at_m ?b1a ?b2a ?b3a ?b4a ?b5a ?b6a ?b7a ?b8a ?b9a ?c1a ?c2a ?c3a ?c4a ?c5a ?c6a ?c7a ?d1a ?d2a ?d3a ?d4a ?d5a ?_; (case d2a => k_asm); (case b2a => with_reducible assumption); (case b3a => with_reducible assumption); (case b8a => with_reducible assumption); (case b4a => with_reducible assumption); (case b9a => with_reducible assumption); (case b5a => with_reducible assumption); (case c1a => with_reducible assumption); (case b6a => with_reducible assumption); (case c2a => with_reducible assumption); (case c3a => with_reducible assumption); (case b7a => with_reducible assumption); (case c4a => with_reducible assumption); (case c5a => with_reducible assumption); (case c6a => with_reducible assumption); (case c7a => with_reducible assumption); (case d1a => k_asm); (case d3a => k_asm); (case d4a => k_asm); (case d5a => k_asm); (case b1a => k_mem); k_whole); intro D'q h'q tk'q m'q nw'q ta'q tb'q F'q N0'q hl'q; (have N' := drop_mid N0'q); (clear N0'q); (dsimp only [AllLt] at hl'q))
  k_with "call type:str" => (k_here; (with_reducible show wpAny _ _ (call _ [Value.ref _]) _ _ _); (refine' str_own ?f1d ?f2d ?f3d ?f4d ?f5d ?_; (case f1d => decide); (case f2d => k_asm); (case f3d => k_asm); (case f4d => assumption); (case f5d => exact ⟨_, _, _, _, by k_mem, by k_mem, by assumption, by assumption, by assumption, by assumption, by assumption⟩); k_whole))
  k_with "call type:str" => (k_here; (with_reducible show wpAny _ _ (call _ [Value.ref _]) _ _ _); (refine' str_own ?f1c ?f2c ?f3c ?f4c ?f5c ?_; (case f1c => decide); (case f2c => k_asm); (case f3c => k_asm); (case f4c => assumption); (case f5c => exact ⟨_, _, _, _, by k_mem, by k_mem, by assumption, by assumption, by assumption, by assumption, by assumption⟩); k_whole))
  k_with "call type:str" => (k_here; (with_reducible show wpAny _ _ (call _ [Value.ref _]) _ _ _); (refine' str_own ?f1b ?f2b ?f3b ?f4b ?f5b ?_; (case f1b => decide); (case f2b => k_asm); (case f3b => k_asm); (case f4b => assumption); (case f5b => exact ⟨_, _, _, _, by k_mem, by k_mem, by assumption, by assumption, by assumption, by assumption, by assumption⟩); k_whole))
  k_with "call type:str" => (k_here; (with_reducible show wpAny _ _ (call _ [Value.ref _]) _ _ _); (refine' str_own ?f1a ?f2a ?f3a ?f4a ?f5a ?_; (case f1a => decide); (case f2a => k_asm); (case f3a => k_asm); (case f4a => assumption); (case f5a => exact ⟨_, _, _, _, by k_mem, by k_mem, by assumption, by assumption, by assumption, by assumption, by assumption⟩); k_whole))
  trivial
theorem bad_led {h₀ h : Heap} {a b c I G R : Addr × Obj} {nw : List (Addr × Obj)} (N : News h₀ L h (a :: b :: c :: nw)) (hI : I ∈ nw) (hG : G ∈ nw) (hR : R ∈ nw) : News h₀ L h (c :: I :: G :: R :: a :: b :: offL R.1 nw) := fun p hp => by
  simp only [List.mem_cons] at hp
  rcases hp with rfl | rfl | rfl | rfl | rfl | rfl | hp
  · exact N _ (.tail _ (.tail _ (.head _)))
  · exact N _ (.tail _ (.tail _ (.tail _ hI)))
  · exact N _ (.tail _ (.tail _ (.tail _ hG)))
  · exact N _ (.tail _ (.tail _ (.tail _ hR)))
  · exact N _ (.head _)
  · exact N _ (.tail _ (.head _))
  · exact N _ (.tail _ (.tail _ (.tail _ (offL_sub p hp))))
theorem cls_ne {h₀ h : Heap} {a b : Addr} {oa ob : Obj} (N : News h₀ L h news) (ha : (a, oa) ∈ news) (hb : (b, ob) ∈ news) (hc : oa.cls ≠ ob.cls) : @Ne Nat a b := fun e => hc (by
  have h1 := (N _ ha).1
  have h2 := (N _ hb).1
  simp only at h1 h2
  rw [e, h2] at h1
  rw [Option.some.inj h1])
theorem law_bad {SS : Str → Bool} {src words : Str} {I S G R : Addr} {it : Obj} {i : Int} {ti ts : Tok} {st er : Option Value} {gs rs : List Value} {n1 n2 : Nat} {ps : Array Value} (hlen : src.length ≤ 1000) (hgs : gs.length ≤ 1000) (hi0 : 0 ≤ i) (hi1 : i ≤ (src.length : Int))
  (H : Refuses SS src (i + 1) words) (hx : Builtin.Str.occurrences src (Str.ofString "'") (fromIndex src.length (i + 1)) src.length 1 ≠ [])
  {w1 w2 told rest' l1 l2 : Str} {na nb : Int} (hlw : words.length ≤ 1000) (hlen2 : w2.length ≤ 1000) (hlt : told.length ≤ 1000) (hlr : rest'.length ≤ 1000)
  (hsp : Txt.split words (Str.ofString " (at ") = [w1, w2]) (htd : Txt.slice w2 none (some (-1)) = told) (hcd : (told == Str.ofString "end of document") = false)
  (hr : Txt.slice told (some 5) none = rest') (hsp2 : Txt.split rest' (Str.ofString ", column ") = [l1, l2])
  (hn1 : PySem.intText? l1 = some na) (hn2 : PySem.intText? l2 = some nb) (hl1 : l1.length ≤ 640) (hl2 : l2.length ≤ 640)
  (C : CodeHd g 69 65) (hL : 65 < L) (hoff : ∀ p ∈ news, p.1 ≠ I ∧ p.1 ≠ 65 ∧ p.1 ≠ G ∧ p.1 ≠ R) (hT : TabSt news ps) (hit : ∃ x y z, it = ({ cls := .type "range_iterator", data := .fields #[rawInt x, rawInt y, rawInt z] } : Obj))
  (fs : FS PySem.Challenge.rw_in0014_01.row.prog w g 36 SS)
  (B : Below callerA g [] g) (F : Fr g L s.heap (mLaw S G R src ts st er)) (X : (K0 w.params).In g)
  (N : News g L s.heap ((65, tabObj ps) :: (I, it) :: (G, listOf gs.toArray n1) :: (R, listOf rs.toArray n2) :: news)) (T : Top p loose mean mg mb g) (hRn : @Ne Nat I R ∧ @Ne Nat G R ∧ @Ne Nat I 65 ∧ @Ne Nat G 65 ∧ @Ne Nat R 65) (hrs : rs.length ≤ 1000)
  (hQ : ∀ h' tk' ps' sub' T2 D ta tb tc td n' er', Fr g L h' (mLaw S G R src ts (some (.int i ti)) er') → News g L h' ((65, tabObj ps') :: (I, it) :: (G, listOf gs.toArray n1) :: (R, listOf (rs ++ [Value.ref T2]).toArray n') :: sub') → (∀ p ∈ sub', p.1 ≠ I ∧ p.1 ≠ 65 ∧ p.1 ≠ G ∧ p.1 ≠ R) → (∀ p ∈ news, p ∈ sub') → TabSt sub' ps' →
    (T2, ({ cls := .type "tuple", data := .seq #[.ref D, .str words tc, .int i td] } : Obj)) ∈ sub' → (D, listOf #[.int na ta, .int nb tb] 0) ∈ sub' → Q .next { s with heap := h', toks := tk' })
  : wpAny (model PySem.Challenge.rw_in0014_01.row.prog w) (lawA L) (storeName (lawEnv L) (Str.ofString "start") (.int i ti)) (fun _ s₁ => wpAny (model PySem.Challenge.rw_in0014_01.row.prog w) (lawA L) (execs bl_law (lawEnv L)) Q E s₁) E s := by
  have hoff1 : ∀ p ∈ (I, it) :: (G, listOf gs.toArray n1) :: (R, listOf rs.toArray n2) :: news, p.1 ≠ 65 := fun p hp => by
    simp only [List.mem_cons] at hp
    rcases hp with rfl | rfl | rfl | hp
    · exact hRn.2.2.1
    · exact hRn.2.2.2.1
    · exact hRn.2.2.2.2
    · exact (hoff p hp).2.1
  have hT1 : TabSt ((I, it) :: (G, listOf gs.toArray n1) :: (R, listOf rs.toArray n2) :: news) ps := TabSt.mono hT fun p hp => .tail _ (.tail _ (.tail _ hp))
  revert X; k_fill; intro X
  k_steps
  rename Heap.UpToSlots _ _ => U'
  rename RaisedX _ _ _ _ _ _ _ _ => R'
  rename ∀ p ∈ (I, it) :: (G, listOf gs.toArray n1) :: (R, listOf rs.toArray n2) :: news, p ∈ _ => hs'
  rename List (Addr × Obj) => nw'
  rename TabSt nw' _ => hT'
  rename ∀ p ∈ nw', p.1 ≠ 65 => hf'
  refine caught_lawX B (by assumption) U' R' X T (fun h₂ oe ot ws nt tk₂ F₂ N₂ oc od o0 o2 tc td => ?_) (by rfl)
  have mI := hs' _ (.head _)
  have mG := hs' _ (.tail _ (.head _))
  have mR := hs' _ (.tail _ (.tail _ (.head _)))
  have N₃ := bad_led N₂ mI mG mR
  have eR := cls_ne N₂ (.head _) (.tail _ (.tail _ (.tail _ mR))) (by rw [oc]; nofun)
  have tR := cls_ne N₂ (.tail _ (.head _)) (.tail _ (.tail _ (.tail _ mR))) (by rw [tc]; intro q; exact absurd (Value.type.inj q) (by decide))
  have R65 : @Ne Nat R 65 := hf' _ mR
  have offR : ∀ p ∈ offL R nw', p.1 ≠ R := offL_ne
  have Nw : News g L h₂ nw' := fun p hp => N₂ p (.tail _ (.tail _ (.tail _ hp)))
  have hTB := fun new => bad_tab (new := new) Nw mI mG mR hit ⟨rfl, nofun⟩ ⟨rfl, nofun⟩ hT'
  clear N₂ Nw
  k_steps
  refine' str_got ?f1 ?f2 ?f3 ?f4 ?f5 ?f6 ?f7 ?f8 ?f9 ?g1 ?g2 ?_
  case f2 => with_reducible assumption
  case f3 => with_reducible assumption
  case f4 => with_reducible assumption
  case f5 => with_reducible assumption
  case f6 => with_reducible assumption
  case f7 => k_asm
  case f8 => k_asm
  case f9 => assumption
  case g1 => k_mem
  case g2 => k_mem
  case f1 => k_units
  k_steps
  refine' str_got ?ff1 ?ff2 ?ff3 ?ff4 ?ff5 ?ff6 ?ff7 ?ff8 ?ff9 ?gg1 ?gg2 ?_
  case ff2 => with_reducible assumption
  case ff3 => with_reducible assumption
  case ff4 => with_reducible assumption
  case ff5 => with_reducible assumption
  case ff6 => with_reducible assumption
  case ff7 => k_asm
  case ff8 => k_asm
  case ff9 => assumption
  case gg1 => k_mem
  case gg2 => k_mem
  case ff1 => k_units
  k_steps
  rename News _ _ _ _ => N₅
  rw [List.push_toArray] at N₅
  refine hQ _ _ _ ([(_, _), (_, _)] ++ offL I (offL G (offL R nw'))) _ _ _ _ _ _ _ _ (fr_congr' (by assumption) (mLaw_err _ _ _ _ _ _ _ _ _ _)) (bad_news N₅) ?_ ?_ (hTB _) (.head _) (.tail _ (.head _))
  · intro p hp
    simp only [List.mem_cons, List.cons_append, List.nil_append] at hp
    rcases hp with rfl | rfl | hp
    · refine ⟨?_, ?_, ?_, ?_⟩ <;> k_ne
    · refine ⟨?_, ?_, ?_, ?_⟩ <;> k_ne
    · exact ⟨offL_ne p hp, hf' p (offL_sub _ (offL_sub _ (offL_sub _ hp))), offL_ne p (offL_sub _ hp), offL_ne p (offL_sub _ (offL_sub _ hp))⟩
  · intro p hp
    have h := hoff p hp
    exact .tail _ (.tail _ (offL_mem (offL_mem (offL_mem (hs' _ (.tail _ (.tail _ (.tail _ hp)))) h.2.2.2) h.2.2.1) h.1))
theorem rk_X6_law_eod_3 : True := by
  k_with "execs cons" => (k_here; (with_reducible show wpAny _ (Around.deeper _ (envOf _ s_parse _ _ _)) _ _ _ _); k_dflt (refine' parse_err ?z1d ?z3d ?z4d ?z5d ?z6d ?z7d ?z8d ?z9d ?y1d ?y7d ?y8d ?y2d ?y3d ?y4d ?y5d ?y6d ?_; (case y3d => k_asm); (case z1d => with_reducible assumption); (case z3d => with_reducible assumption); (case z4d => with_reducible assumption); (case z5d => omega); (case z6d => with_reducible assumption); (case z7d => exact lt_deeper (by assumption) (by assumption) (by with_reducible assumption)); (case y5d => k_asm); (case z8d => with_reducible assumption); (case z9d => with_reducible assumption); (case y1d => with_reducible assumption); (case y7d => assumption); (case y8d => assumption); (case y2d => k_asm); (case y4d => k_asm); (case y6d => k_asm)); intro e'q t'q tt'q h'q tk'q ps'q nw'q R'q U'q hs'q hT'q hf'q)
  k_with "execs cons" => (k_here; (with_reducible show wpAny _ (Around.deeper _ (envOf _ s_parse _ _ _)) _ _ _ _); k_dflt (refine' parse_err ?z1c ?z3c ?z4c ?z5c ?z6c ?z7c ?z8c ?z9c ?y1c ?y7c ?y8c ?y2c ?y3c ?y4c ?y5c ?y6c ?_; (case y3c => k_asm); (case z1c => with_reducible assumption); (case z3c => with_reducible assumption); (case z4c => with_reducible assumption); (case z5c => omega); (case z6c => with_reducible assumption); (case z7c => exact lt_deeper (by assumption) (by assumption) (by with_reducible assumption)); (case y5c => k_asm); (case z8c => with_reducible assumption); (case z9c => with_reducible assumption); (case y1c => with_reducible assumption); (case y7c => assumption); (case y8c => assumption); (case y2c => k_asm); (case y4c => k_asm); (case y6c => k_asm)); intro e'q t'q tt'q h'q tk'q ps'q nw'q R'q U'q hs'q hT'q hf'q)
  k_with "execs cons" => (k_here; (with_reducible show wpAny _ (Around.deeper _ (envOf _ s_parse _ _ _)) _ _ _ _); k_dflt (refine' parse_err ?z1b ?z3b ?z4b ?z5b ?z6b ?z7b ?z8b ?z9b ?y1b ?y7b ?y8b ?y2b ?y3b ?y4b ?y5b ?y6b ?_; (case y3b => k_asm); (case z1b => with_reducible assumption); (case z3b => with_reducible assumption); (case z4b => with_reducible assumption); (case z5b => omega); (case z6b => with_reducible assumption); (case z7b => exact lt_deeper (by assumption) (by assumption) (by with_reducible assumption)); (case y5b => k_asm); (case z8b => with_reducible assumption); (case z9b => with_reducible assumption); (case y1b => with_reducible assumption); (case y7b => assumption); (case y8b => assumption); (case y2b => k_asm); (case y4b => k_asm); (case y6b => k_asm)); intro e'q t'q tt'q h'q tk'q ps'q nw'q R'q U'q hs'q hT'q hf'q)
  k_with "execs cons" => (k_here; (with_reducible show wpAny _ (Around.deeper _ (envOf _ s_parse _ _ _)) _ _ _ _); k_dflt (refine' parse_err ?z1a ?z3a ?z4a ?z5a ?z6a ?z7a ?z8a ?z9a ?y1a ?y7a ?y8a ?y2a ?y3a ?y4a ?y5a ?y6a ?_; (case y3a => k_asm); (case z1a => with_reducible assumption); (case z3a => with_reducible assumption); (case z4a => with_reducible assumption); (case z5a => omega); (case z6a => with_reducible assumption); (case z7a => exact lt_deeper (by assumption) (by assumption) (by with_reducible assumption)); (case y5a => k_asm); (case z8a => with_reducible assumption); (case z9a => with_reducible assumption); (case y1a => with_reducible assumption); (case y7a => assumption); (case y8a => assumption); (case y2a => k_asm); (case y4a => k_asm); (case y6a => k_asm)); intro e'q t'q tt'q h'q tk'q ps'q nw'q R'q U'q hs'q hT'q hf'q)
  k_with "execs cons" => (k_here; (with_reducible show wpAny _ (Around.deeper (Around.mark _ _) (envOf _ s_whr _ _ _)) _ _ _ _); k_dflt (refine' where_end_m ?b4d ?b5d ?b6d ?b8d ?b9d ?c1d ?d1d ?d2d ?d3d ?d4d ?d5d ?_; (case d2d => k_asm); (case b4d => with_reducible assumption); (case b8d => with_reducible assumption); (case b5d => with_reducible assumption); (case b6d => with_reducible assumption); (case b9d => with_reducible assumption); (case c1d => with_reducible assumption); (case d1d => k_asm); (case d3d => k_asm); (case d4d => k_asm); (case d5d => k_asm); k_whole); intro D'q h'q tk'q m'q nw'q ta'q tb'q F'q N0'q hl'q; (have N' := drop_mid N0'q); (clear N0'q); (dsimp only [AllLt] at hl'q))
  k_with "execs cons" => (k_here; (with_reducible show wpAny _ (Around.deeper (Around.mark _ _) (envOf _ s_whr _ _ _)) _ _ _ _); k_dflt (refine' where_end_m ?b4c ?b5c ?b6c ?b8c ?b9c ?c1c ?d1c ?d2c ?d3c ?d4c ?d5c ?_; (case d2c => k_asm); (case b4c => with_reducible assumption); (case b8c => with_reducible assumption); (case b5c => with_reducible assumption); (case b6c => with_reducible assumption); (case b9c => with_reducible assumption); (case c1c => with_reducible assumption); (case d1c => k_asm); (case d3c => k_asm); (case d4c => k_asm); (case d5c => k_asm); k_whole); intro D'q h'q tk'q m'q nw'q ta'q tb'q F'q N0'q hl'q; (have N' := drop_mid N0'q); (clear N0'q); (dsimp only [AllLt] at hl'q))
  k_with "execs cons" => (k_here; (with_reducible show wpAny _ (Around.deeper (Around.mark _ _) (envOf _ s_whr _ _ _)) _ _ _ _); k_dflt (refine' where_end_m ?b4b ?b5b ?b6b ?b8b ?b9b ?c1b ?d1b ?d2b ?d3b ?d4b ?d5b ?_; (case d2b => k_asm); (case b4b => with_reducible assumption); (case b8b => with_reducible assumption); (case b5b => with_reducible assumption); (case b6b => with_reducible assumption); (case b9b => with_reducible assumption); (case c1b => with_reducible assumption); (case d1b => k_asm); (case d3b => k_asm); (case d4b => k_asm); (case d5b => k_asm); k_whole); intro D'q h'q tk'q m'q nw'q ta'q tb'q F'q N0'q hl'q; (have N' := drop_mid N0'q); (clear N0'q); (dsimp only [AllLt] at hl'q))
  k_with "execs cons" => (k_here; (with_reducible show wpAny _ (Around.deeper (Around.mark _ _) (envOf _ s_whr _ _ _)) _ _ _ _); k_dflt (refine' where_end_m ?b4a ?b5a ?b6a ?b8a ?b9a ?c1a ?d1a ?d2a ?d3a ?d4a ?d5a ?_; (case d2a => k_asm); (case b4a => with_reducible assumption); (case b8a => with_reducible assumption); (case b5a => with_reducible assumption); (case b6a => with_reducible assumption); (case b9a => with_reducible assumption); (case c1a => with_reducible assumption); (case d1a => k_asm); (case d3a => k_asm); (case d4a => k_asm); (case d5a => k_asm); k_whole); intro D'q h'q tk'q m'q nw'q ta'q tb'q F'q N0'q hl'q; (have N' := drop_mid N0'q); (clear N0'q); (dsimp only [AllLt] at hl'q))
  k_with "call type:str" => (k_here; (with_reducible show wpAny _ _ (call _ [Value.ref _]) _ _ _); (refine' str_own ?f1d ?f2d ?f3d ?f4d ?f5d ?_; (case f1d => decide); (case f2d => k_asm); (case f3d => k_asm); (case f4d => assumption); (case f5d => exact ⟨_, _, _, _, by k_mem, by k_mem, by assumption, by assumption, by assumption, by assumption, by assumption⟩); k_whole))
  k_with "call type:str" => (k_here; (with_reducible show wpAny _ _ (call _ [Value.ref _]) _ _ _); (refine' str_own ?f1c ?f2c ?f3c ?f4c ?f5c ?_; (case f1c => decide); (case f2c => k_asm); (case f3c => k_asm); (case f4c => assumption); (case f5c => exact ⟨_, _, _, _, by k_mem, by k_mem, by assumption, by assumption, by assumption, by assumption, by assumption⟩); k_whole))
  k_with "call type:str" => (k_here; (with_reducible show wpAny _ _ (call _ [Value.ref _]) _ _ _); (refine' str_own ?f1b ?f2b ?f3b ?f4b ?f5b ?_; (case f1b => decide); (case f2b => k_asm); (case f3b => k_asm); (case f4b => assumption); (case f5b => exact ⟨_, _, _, _, by k_mem, by k_mem, by assumption, by assumption, by assumption, by assumption, by assumption⟩); k_whole))
  k_with "call type:str" => (k_here; (with_reducible show wpAny _ _ (call _ [Value.ref _]) _ _ _); (refine' str_own ?f1a ?f2a ?f3a ?f4a ?f5a ?_; (case f1a => decide); (case f2a => k_asm); (case f3a => k_asm); (case f4a => assumption); (case f5a => exact ⟨_, _, _, _, by k_mem, by k_mem, by assumption, by assumption, by assumption, by assumption, by assumption⟩); k_whole))
  trivial
theorem law_eod {SS : Str → Bool} {src words : Str} {I S G R : Addr} {it : Obj} {i : Int} {ti ts : Tok} {st er : Option Value} {gs rs : List Value} {n1 n2 : Nat} {ps : Array Value} (hlen : src.length ≤ 1000) (hgs : gs.length ≤ 1000) (hi0 : 0 ≤ i) (hi1 : i ≤ (src.length : Int))
  (H : Refuses SS src (i + 1) words)
  {w1 w2 told : Str} (hlw : words.length ≤ 1000) (hlen2 : w2.length ≤ 1000)
  (hsp : Txt.split words (Str.ofString " (at ") = [w1, w2]) (htd : Txt.slice w2 none (some (-1)) = told) (hcd : (told == Str.ofString "end of document") = true)
  (C : CodeHd g 69 65) (hL : 65 < L) (hoff : ∀ p ∈ news, p.1 ≠ I ∧ p.1 ≠ 65 ∧ p.1 ≠ G ∧ p.1 ≠ R) (hT : TabSt news ps) (hit : ∃ x y z, it = ({ cls := .type "range_iterator", data := .fields #[rawInt x, rawInt y, rawInt z] } : Obj))
  (fs : FS PySem.Challenge.rw_in0014_01.row.prog w g 36 SS)
  (B : Below callerA g [] g) (F : Fr g L s.heap (mLaw S G R src ts st er)) (X : (K0 w.params).In g)
  (N : News g L s.heap ((65, tabObj ps) :: (I, it) :: (G, listOf gs.toArray n1) :: (R, listOf rs.toArray n2) :: news)) (T : Top p loose mean mg mb g) (hRn : @Ne Nat I R ∧ @Ne Nat G R ∧ @Ne Nat I 65 ∧ @Ne Nat G 65 ∧ @Ne Nat R 65) (hrs : rs.length ≤ 1000)
  (hQ : ∀ h' tk' ps' sub' T2 D ta tb tc td n' er', Fr g L h' (mLaw S G R src ts (some (.int i ti)) er') → News g L h' ((65, tabObj ps') :: (I, it) :: (G, listOf gs.toArray n1) :: (R, listOf (rs ++ [Value.ref T2]).toArray n') :: sub') → (∀ p ∈ sub', p.1 ≠ I ∧ p.1 ≠ 65 ∧ p.1 ≠ G ∧ p.1 ≠ R) → (∀ p ∈ news, p ∈ sub') → TabSt sub' ps' →
    (T2, ({ cls := .type "tuple", data := .seq #[.ref D, .str words tc, .int i td] } : Obj)) ∈ sub' → (D, listOf #[.int ((src.length : Int) + 2) ta, .int 0 tb] 0) ∈ sub' → Q .next { s with heap := h', toks := tk' })
  : wpAny (model PySem.Challenge.rw_in0014_01.row.prog w) (lawA L) (storeName (lawEnv L) (Str.ofString "start") (.int i ti)) (fun _ s₁ => wpAny (model PySem.Challenge.rw_in0014_01.row.prog w) (lawA L) (execs bl_law (lawEnv L)) Q E s₁) E s := by
  have hoff1 : ∀ p ∈ (I, it) :: (G, listOf gs.toArray n1) :: (R, listOf rs.toArray n2) :: news, p.1 ≠ 65 := fun p hp => by
    simp only [List.mem_cons] at hp
    rcases hp with rfl | rfl | rfl | hp
    · exact hRn.2.2.1
    · exact hRn.2.2.2.1
    · exact hRn.2.2.2.2
    · exact (hoff p hp).2.1
  have hT1 : TabSt ((I, it) :: (G, listOf gs.toArray n1) :: (R, listOf rs.toArray n2) :: news) ps := TabSt.mono hT fun p hp => .tail _ (.tail _ (.tail _ hp))
  revert X; k_fill; intro X
  k_steps
  rename Heap.UpToSlots _ _ => U'
  rename RaisedK _ _ _ _ _ _ _ _ => R'
  rename ∀ p ∈ (I, it) :: (G, listOf gs.toArray n1) :: (R, listOf rs.toArray n2) :: news, p ∈ _ => hs'
  rename List (Addr × Obj) => nw'
  rename TabSt nw' _ => hT'
  rename ∀ p ∈ nw', p.1 ≠ 65 => hf'
  refine caught_law B (by assumption) U' R' X T (fun h₂ oe ot ws nt tk₂ F₂ N₂ oc od o0 tc td => ?_) (by rfl)
  have mI := hs' _ (.head _)
  have mG := hs' _ (.tail _ (.head _))
  have mR := hs' _ (.tail _ (.tail _ (.head _)))
  have N₃ := bad_led N₂ mI mG mR
  have eR := cls_ne N₂ (.head _) (.tail _ (.tail _ (.tail _ mR))) (by rw [oc]; nofun)
  have tR := cls_ne N₂ (.tail _ (.head _)) (.tail _ (.tail _ (.tail _ mR))) (by rw [tc]; intro q; exact absurd (Value.type.inj q) (by decide))
  have R65 : @Ne Nat R 65 := hf' _ mR
  have offR : ∀ p ∈ offL R nw', p.1 ≠ R := offL_ne
  have Nw : News g L h₂ nw' := fun p hp => N₂ p (.tail _ (.tail _ (.tail _ hp)))
  have hTB := fun new => bad_tab (new := new) Nw mI mG mR hit ⟨rfl, nofun⟩ ⟨rfl, nofun⟩ hT'
  clear N₂ Nw
  k_steps
  refine' str_got ?f1 ?f2 ?f3 ?f4 ?f5 ?f6 ?f7 ?f8 ?f9 ?g1 ?g2 ?_
  case f2 => with_reducible assumption
  case f3 => with_reducible assumption
  case f4 => with_reducible assumption
  case f5 => with_reducible assumption
  case f6 => with_reducible assumption
  case f7 => k_asm
  case f8 => k_asm
  case f9 => assumption
  case g1 => k_mem
  case g2 => k_mem
  case f1 => k_units
  k_steps
  refine' str_got ?ff1 ?ff2 ?ff3 ?ff4 ?ff5 ?ff6 ?ff7 ?ff8 ?ff9 ?gg1 ?gg2 ?_
  case ff2 => with_reducible assumption
  case ff3 => with_reducible assumption
  case ff4 => with_reducible assumption
  case ff5 => with_reducible assumption
  case ff6 => with_reducible assumption
  case ff7 => k_asm
  case ff8 => k_asm
  case ff9 => assumption
  case gg1 => k_mem
  case gg2 => k_mem
  case ff1 => k_units
  k_steps
  rename News _ _ _ _ => N₅
  rw [List.push_toArray] at N₅
  refine hQ _ _ _ ([(_, _), (_, _)] ++ offL I (offL G (offL R nw'))) _ _ _ _ _ _ _ _ (fr_congr' (by assumption) (mLaw_err _ _ _ _ _ _ _ _ _ _)) (bad_news N₅) ?_ ?_ (hTB _) (.head _) (.tail _ (.head _))
  · intro p hp
    simp only [List.mem_cons, List.cons_append, List.nil_append] at hp
    rcases hp with rfl | rfl | hp
    · refine ⟨?_, ?_, ?_, ?_⟩ <;> k_ne
    · refine ⟨?_, ?_, ?_, ?_⟩ <;> k_ne
    · exact ⟨offL_ne p hp, hf' p (offL_sub _ (offL_sub _ (offL_sub _ hp))), offL_ne p (offL_sub _ hp), offL_ne p (offL_sub _ (offL_sub _ hp))⟩
  · intro p hp
    have h := hoff p hp
    exact .tail _ (.tail _ (offL_mem (offL_mem (offL_mem (hs' _ (.tail _ (.tail _ (.tail _ hp)))) h.2.2.2) h.2.2.1) h.1))
end
end
section
local macro_rules | `(tactic| omega) => `(tactic| first | lia | omega +splitDisjunctions)
noncomputable abbrev Res := Sum (Int × Str) (Int × Int × Str)
/-- what comes of one place, with all that the walk asks for -/
inductive PRes (SS : Str → Bool) (src : Str) (i : Int) : Res → Prop
  | ok {k : Nat} {rest : List Nat} {sl : Str} : Builtin.Str.occurrences src (Str.ofString "'") (fromIndex src.length (i + 1)) src.length 1 = k :: rest → (k : Int) ≤ 1000 → Txt.slice src (some (i + 1)) (some (k : Int)) = sl → sl.length ≤ 1000 → (sl.cps.toList.any fun c => SS ⟨#[c]⟩) = false → PRes SS src i (.inl ((k : Int) + 1, sl))
  | bad {words w1 w2 told rest' l1 l2 : Str} {na nb : Int} : Refuses SS src (i + 1) words → Builtin.Str.occurrences src (Str.ofString "'") (fromIndex src.length (i + 1)) src.length 1 ≠ [] → words.length ≤ 1000 → w2.length ≤ 1000 → told.length ≤ 1000 → rest'.length ≤ 1000 →
      Txt.split words (Str.ofString " (at ") = [w1, w2] → Txt.slice w2 none (some (-1)) = told → (told == Str.ofString "end of document") = false → Txt.slice told (some 5) none = rest' → Txt.split rest' (Str.ofString ", column ") = [l1, l2] →
      PySem.intText? l1 = some na → PySem.intText? l2 = some nb → l1.length ≤ 640 → l2.length ≤ 640 → PRes SS src i (.inr (na, nb, words))
  | eod {words w1 w2 told : Str} : Refuses SS src (i + 1) words → words.length ≤ 1000 → w2.length ≤ 1000 → Txt.split words (Str.ofString " (at ") = [w1, w2] → Txt.slice w2 none (some (-1)) = told → (told == Str.ofString "end of document") = true → PRes SS src i (.inr ((src.length : Int) + 2, 0, words))
noncomputable def givenOf (res : Int → Res) (n k : Nat) : List (Int × Int × Str) := (List.range k).filterMap fun (j : Nat) => match res ((n : Int) - (j : Int)) with | .inl p => some ((n : Int) - (j : Int), p.1, p.2) | .inr _ => none
noncomputable def refsOf (res : Int → Res) (n k : Nat) : List (Int × Int × Str × Int) := (List.range k).filterMap fun (j : Nat) => match res ((n : Int) - (j : Int)) with | .inl _ => none | .inr p => some (p.1, p.2.1, p.2.2, (n : Int) - (j : Int))
theorem givenOf_succ (res : Int → Res) (n k : Nat) : givenOf res n (k + 1) = givenOf res n k ++ (match res ((n : Int) - (k : Int)) with | .inl p => [((n : Int) - (k : Int), p.1, p.2)] | .inr _ => []) := by
  unfold givenOf; rw [List.range_succ, List.filterMap_append]
  cases h : res ((n : Int) - (k : Int)) <;> simp [h]
theorem refsOf_succ (res : Int → Res) (n k : Nat) : refsOf res n (k + 1) = refsOf res n k ++ (match res ((n : Int) - (k : Int)) with | .inl _ => [] | .inr p => [(p.1, p.2.1, p.2.2, (n : Int) - (k : Int))]) := by
  unfold refsOf; rw [List.range_succ, List.filterMap_append]
  cases h : res ((n : Int) - (k : Int)) <;> simp [h]
theorem givenOf_len (res : Int → Res) (n k : Nat) : (givenOf res n k).length ≤ k := by unfold givenOf; exact Nat.le_trans (List.length_filterMap_le _ _) (by simp)
theorem refsOf_len (res : Int → Res) (n k : Nat) : (refsOf res n k).length ≤ k := by unfold refsOf; exact Nat.le_trans (List.length_filterMap_le _ _) (by simp)
noncomputable def RowOk (sub : List (Addr × Obj)) (It : Addr) (r : Int × Int × Str × Int) : Prop := ∃ D ta tb tc td, (It, ({ cls := .type "tuple", data := .seq #[.ref D, .str r.2.2.1 tc, .int r.2.2.2 td] } : Obj)) ∈ sub ∧ (D, listOf #[.int r.1 ta, .int r.2.1 tb] 0) ∈ sub
inductive RowsAre (sub : List (Addr × Obj)) : List Addr → List (Int × Int × Str × Int) → Prop
  | nil : RowsAre sub [] []
  | snoc {as : List Addr} {rs : List (Int × Int × Str × Int)} {a : Addr} {r : Int × Int × Str × Int} : RowsAre sub as rs → RowOk sub a r → RowsAre sub (as ++ [a]) (rs ++ [r])
theorem RowsAre.length {sub : List (Addr × Obj)} {as : List Addr} {rs : List (Int × Int × Str × Int)} (h : RowsAre sub as rs) : as.length = rs.length := by
  induction h with
  | nil => rfl
  | snoc _ _ ih => simp [ih]
theorem RowsAre.mono {sub sub' : List (Addr × Obj)} (hs : ∀ p ∈ sub, p ∈ sub') {as : List Addr} {rs : List (Int × Int × Str × Int)} (h : RowsAre sub as rs) : RowsAre sub' as rs := by
  induction h with
  | nil => exact .nil
  | snoc _ o ih =>
    obtain ⟨D, ta, tb, tc, td, h1, h2⟩ := o
    exact .snoc ih ⟨D, ta, tb, tc, td, hs _ h1, hs _ h2⟩
section
variable {w : World} {A₀ : Around} {base g : Heap} {outer : List Env} {L0 L : Addr} {m mg mb : Str → Option Value} {p : Program} {loose : List Str} {mean : ExcName → Option Value} {news : List (Addr × Obj)} {s : Shared}
  {Q : Flow → Shared → Prop} {E : Value → Shared → Prop}
theorem law_loop {SS : Str → Bool} {src : Str} {S G R r : Addr} {ts t u v : Tok} {res : Int → Res} {px : Pos} {sub : List (Addr × Obj)} {ps : Array Value} (hlen : src.length ≤ 900) (hres : ∀ i : Int, 0 ≤ i → i ≤ (src.length : Int) → PRes SS src i (res i))
  (C : CodeHd g 69 65) (hL : 65 < L) (hsub : ∀ p ∈ sub, p.1 ≠ 65 ∧ p.1 ≠ G ∧ p.1 ≠ R) (hT : TabSt sub ps)
  (fs : FS PySem.Challenge.rw_in0014_01.row.prog w g 36 SS)
  (B : Below callerA g [] g) (F : Fr g L s.heap (mLaw S G R src ts none none)) (X : (K0 w.params).In g)
  (N : News g L s.heap ((65, tabObj ps) :: (G, listOf #[] 0) :: (R, listOf #[] 0) :: sub)) (T : Top p loose mean mg mb g) (hRG : @Ne Nat R G) (h65 : @LT.lt Nat _ 65 G ∧ @LT.lt Nat _ 65 R)
  (hr : IsRange s.heap r (src.length : Int) (-1) (-1) t u v)
  (hE : PassesOwn (model PySem.Challenge.rw_in0014_01.row.prog w) (lawA L) (lawEnv L) E)
  (hQ : ∀ h' tk' ps' sub' gs as n1 n2 st er, Fr g L h' (mLaw S G R src ts st er) → News g L h' ((65, tabObj ps') :: (G, listOf gs.toArray n1) :: (R, listOf (as.map Value.ref).toArray n2) :: sub') → (∀ p ∈ sub', p.1 ≠ 65 ∧ p.1 ≠ G ∧ p.1 ≠ R) → (∀ p ∈ sub, p ∈ sub') →
    DatAll sub' gs (gvD (givenOf res src.length (src.length + 1))) → RowsAre sub' as (refsOf res src.length (src.length + 1)) → Q .next { s with heap := h', toks := tk' })
  : wpAny (model PySem.Challenge.rw_in0014_01.row.prog w) (lawA L) (pyIter (.ref r)) (fun it s₂ => codeAny (model PySem.Challenge.rw_in0014_01.row.prog w) (lawA L) (.forLoop (.Name (Str.ofString "start") px) it bl_law [] (lawEnv L)) (fun r s' => match r with | .ok f => Q f s' | .error e => cameBackBy (model PySem.Challenge.rw_in0014_01.row.prog w) (lawA L) (lawEnv L) E e s') s₂) E s := by
  refine forG (n := src.length + 1) (m₀ := mLaw S G R src ts none none) (J := fun k m' nws => ∃ ps' sub' gs as n1 n2 st er, m' = mLaw S G R src ts st er ∧ nws = (65, tabObj ps') :: (G, listOf gs.toArray n1) :: (R, listOf (as.map Value.ref).toArray n2) :: sub' ∧ TabSt sub' ps' ∧ (∀ p ∈ sub', p.1 ≠ 65 ∧ p.1 ≠ G ∧ p.1 ≠ R) ∧ (∀ p ∈ sub, p ∈ sub') ∧
      DatAll sub' gs (gvD (givenOf res src.length k)) ∧ RowsAre sub' as (refsOf res src.length k))
    rfl F N hr (small_down (by omega) (by omega) (by omega) (by omega)) (by rw [rangeSize_downNat]; omega) hE ⟨ps, sub, [], [], 0, 0, none, none, rfl, rfl, hT, hsub, fun p hp => hp, .nil, .nil⟩ ?_ ?_
  · rintro I j t' m₁ news₁ it h tk hj ⟨ps', sub', gs, as, n1, n2, st, er, rfl, rfl, hT', hs', hss, hgs, has⟩ hoff hit F₁ N₁
    have e0 : (src.length : Int) + (j : Int) * (-1) = (src.length : Int) - (j : Int) := by omega
    rw [e0]
    have g1 : gs.length ≤ 1000 := by have := hgs.length; simp [gvD] at this; have := givenOf_len res src.length j; omega
    have g2 : (as.map Value.ref).length ≤ 1000 := by have := has.length; have := refsOf_len res src.length j; rw [List.length_map]; omega
    have i65 : 65 ≠ I := hoff (65, tabObj ps') (.head _)
    have iG : G ≠ I := hoff (G, listOf gs.toArray n1) (.tail _ (.head _))
    have iR : R ≠ I := hoff (R, listOf (as.map Value.ref).toArray n2) (.tail _ (.tail _ (.head _)))
    have isub : ∀ p ∈ sub', p.1 ≠ I := fun p hp => hoff p (.tail _ (.tail _ (.tail _ hp)))
    have gs1 := givenOf_succ res src.length j
    have rs1 := refsOf_succ res src.length j
    have fin : ∀ (h' : Heap) (tk' : Nat) (gs' : List Value) (as' : List Addr) (n1' n2' : Nat) (st' er' : Option Value) (ps'' : Array Value) (sub'' : List (Addr × Obj)), Fr g L h' (mLaw S G R src ts st' er') →
        News g L h' ((I, it) :: (65, tabObj ps'') :: (G, listOf gs'.toArray n1') :: (R, listOf (as'.map Value.ref).toArray n2') :: sub'') → TabSt sub'' ps'' → (∀ p ∈ sub'', p.1 ≠ I ∧ p.1 ≠ 65 ∧ p.1 ≠ G ∧ p.1 ≠ R) → (∀ p ∈ sub', p ∈ sub'') →
        DatAll sub'' gs' (gvD (givenOf res src.length (j + 1))) → RowsAre sub'' as' (refsOf res src.length (j + 1)) →
        ((Flow.next : Flow) = .next ∨ (Flow.next : Flow) = .cont) ∧ ∃ h'' tk'' m'' news'', ({ s with heap := h', toks := tk' } : Shared) = { s with heap := h'', toks := tk'' } ∧ Fr g L h'' m'' ∧ News g L h'' ((I, it) :: news'') ∧ (∀ p ∈ news'', p.1 ≠ I) ∧
          (∃ ps' sub' gs as n1 n2 st er, m'' = mLaw S G R src ts st er ∧ news'' = (65, tabObj ps') :: (G, listOf gs.toArray n1) :: (R, listOf (as.map Value.ref).toArray n2) :: sub' ∧ TabSt sub' ps' ∧ (∀ p ∈ sub', p.1 ≠ 65 ∧ p.1 ≠ G ∧ p.1 ≠ R) ∧ (∀ p ∈ sub, p ∈ sub') ∧
            DatAll sub' gs (gvD (givenOf res src.length (j + 1))) ∧ RowsAre sub' as (refsOf res src.length (j + 1))) := by
      intro h' tk' gs' as' n1' n2' st' er' ps'' sub'' F' N' hTT hof hsu hg hrr
      refine ⟨.inl rfl, h', tk', _, _, rfl, F', N', ?_, ps'', sub'', gs', as', n1', n2', st', er', rfl, rfl, hTT, fun p hp => ⟨(hof p hp).2.1, (hof p hp).2.2.1, (hof p hp).2.2.2⟩, fun p hp => hsu p (hss p hp), hg, hrr⟩
      intro p hp
      simp only [List.mem_cons] at hp
      rcases hp with rfl | rfl | rfl | hp
      · exact i65
      · exact iG
      · exact iR
      · exact (hof p hp).1
    have hP := hres ((src.length : Int) - (j : Int)) (by omega) (by omega)
    have N65 : News g L h ((65, tabObj ps') :: (I, it) :: (G, listOf gs.toArray n1) :: (R, listOf (as.map Value.ref).toArray n2) :: sub') := news_swap N₁
    have I65 : @LT.lt Nat _ 65 I ∨ @LT.lt Nat _ I 65 := Nat.lt_or_gt_of_ne i65
    generalize hrv : res ((src.length : Int) - (j : Int)) = rv at hP
    rw [hrv] at gs1 rs1
    cases hP with
    | ok a1 a2 a3 a4 a5 =>
      dsimp only at gs1 rs1
      refine law_ok (SS := SS) (src := src) (st := st) (er := er) (by omega) g1 (by omega) (by omega) a1 a2 a3 a4 a5 fs B F₁ X N₁ (fun p hp => (hs' p hp).2.1) ⟨Ne.symm iG, hRG⟩ ⟨h65.1, h65.2, Ne.symm i65⟩ T fun h' tk' new v n' F' N' hnew hd => ?_
      refine fin h' tk' (gs ++ [v]) as n' n2 _ _ ps' (new ++ sub') F' N' (TabSt.mono hT' fun p hp => List.mem_append.mpr (.inr hp)) (fun p hp => ?_) (fun p hp => List.mem_append.mpr (.inr hp)) ?_ ?_
      · rcases List.mem_append.mp hp with hp | hp
        · exact hnew p hp
        · exact ⟨isub p hp, hs' p hp⟩
      · rw [gs1]; simp only [gvD, List.map_append]
        exact DatAll.append (DatAll.mono (fun p hp => List.mem_append.mpr (.inr hp)) hgs) (.cons hd .nil)
      · rw [rs1, List.append_nil]; exact has.mono fun p hp => List.mem_append.mpr (.inr hp)
    | bad a1 a2 a3 a4 a5 a6 a7 a8 a9 a10 a11 a12 a13 a14 a15 =>
      dsimp only at gs1 rs1
      refine law_bad (SS := SS) (src := src) (st := st) (er := er) (by omega) g1 (by omega) (by omega) a1 a2 a3 a4 a5 a6 a7 a8 a9 a10 a11 a12 a13 a14 a15 C hL (fun p hp => ⟨isub p hp, hs' p hp⟩) hT' hit fs B F₁ X N65 T ⟨Ne.symm iR, Ne.symm hRG, Ne.symm i65, Nat.ne_of_gt h65.1, Nat.ne_of_gt h65.2⟩ g2 fun h' tk' ps'' sub'' T2 D ta tb tc td n' er' F' N' hof hsu hTT hm1 hm2 => ?_
      refine fin h' tk' gs (as ++ [T2]) n1 n' _ er' ps'' sub'' F' (by rw [List.map_append]; exact news_swap N') hTT hof hsu ?_ ?_
      · rw [gs1, List.append_nil]; exact DatAll.mono hsu hgs
      · rw [rs1]; exact .snoc (has.mono hsu) ⟨D, ta, tb, tc, td, hm1, hm2⟩
    | eod a1 a2 a3 a4 a5 a6 =>
      dsimp only at gs1 rs1
      refine law_eod (SS := SS) (src := src) (st := st) (er := er) (by omega) g1 (by omega) (by omega) a1 a2 a3 a4 a5 a6 C hL (fun p hp => ⟨isub p hp, hs' p hp⟩) hT' hit fs B F₁ X N65 T ⟨Ne.symm iR, Ne.symm hRG, Ne.symm i65, Nat.ne_of_gt h65.1, Nat.ne_of_gt h65.2⟩ g2 fun h' tk' ps'' sub'' T2 D ta tb tc td n' er' F' N' hof hsu hTT hm1 hm2 => ?_
      refine fin h' tk' gs (as ++ [T2]) n1 n' _ er' ps'' sub'' F' (by rw [List.map_append]; exact news_swap N') hTT hof hsu ?_ ?_
      · rw [gs1, List.append_nil]; exact DatAll.mono hsu hgs
      · rw [rs1]; exact .snoc (has.mono hsu) ⟨D, ta, tb, tc, td, hm1, hm2⟩
  · rintro h tk m' news' F' N' ⟨ps', sub', gs, as, n1, n2, st, er, rfl, rfl, hT', hs', hss, hgs, has⟩
    exact hQ h tk ps' sub' gs as n1 n2 st er F' N' hs' hss hgs has
end
section
local macro_rules | `(tactic| walk_at "zz1") => `(tactic| skip)
local macro_rules | `(tactic| walk_at $s:str) => `(tactic| k_extra $s)
theorem rs_X8 : True := by w_top off; k_with_none; trivial
section
variable {w : World} {A₀ : Around} {base g : Heap} {outer : List Env} {L0 L : Addr} {m mg mb : Str → Option Value} {p : Program} {loose : List Str} {mean : ExcName → Option Value} {news : List (Addr × Obj)} {s : Shared}
  {Q : Flow → Shared → Prop} {E : Value → Shared → Prop}
local macro_rules | `(tactic| k_all) => `(tactic| with_reducible assumption)
theorem ctk_k8 {a b t107 o1 t65 oG oR : Addr × Obj} {L0 lam : Addr} {Q : Value → Shared → Prop}
  (Y : (KY w.params : Frag).In g) (F : Fr g L0 s.heap m) (N : News g L0 s.heap (a :: b :: t107 :: o1 :: t65 :: oG :: oR :: (72, tabObj #[]) :: news)) (hn : ∀ q ∈ news, q.1 ≠ 72) (hne : @Ne Nat a.1 72 ∧ @Ne Nat b.1 72 ∧ @Ne Nat t107.1 72 ∧ @Ne Nat o1.1 72 ∧ @Ne Nat t65.1 72 ∧ @Ne Nat oG.1 72 ∧ @Ne Nat oR.1 72)
  (hQ : ∀ (k : KA) h' tk own c1, Fr g L0 h' m → News g L0 h' (a :: b :: t107 :: o1 :: t65 :: oG :: oR :: (72, tabObj #[rawInt 39, rawInt 4, .ref c1]) :: (own ++ news)) → k.In w.params lam own → Q (.ref k.K) { s with heap := h', toks := tk })
  : wpAny (model prg w) (lawA L0) (call (.ref 77) [.ref lam]) Q E s := by
  refine ctk_k (news := a :: b :: t107 :: o1 :: t65 :: oG :: oR :: news) Y F (fun p hp => N p ?_) (fun q hq => ?_) fun k h' tk own c1 F' N' I => hQ k h' tk own c1 F' (fun p hp => N' p ?_) I
  · simp only [List.mem_cons] at hp ⊢
    rcases hp with h | h | h | h | h | h | h | h | h <;> simp [h]
  · simp only [List.mem_cons] at hq
    rcases hq with rfl | rfl | rfl | rfl | rfl | rfl | rfl | hq
    · exact hne.1
    · exact hne.2.1
    · exact hne.2.2.1
    · exact hne.2.2.2.1
    · exact hne.2.2.2.2.1
    · exact hne.2.2.2.2.2.1
    · exact hne.2.2.2.2.2.2
    · exact hn q hq
  · simp only [List.mem_cons, List.mem_append] at hp ⊢
    rcases hp with h | h | h | h | h | h | h | h | h | h <;> simp [h]
theorem rk_X8_law_key_1 : True := by
  k_with "call ref" => (k_here; (with_reducible show wpAny _ _ (call (Value.ref 77) [Value.ref _]) _ _ _); (refine' ctk_k8 ?p1d ?p2d ?p3d ?p4d ?p5d ?_; (case p2d => k_asm); (case p1d => with_reducible assumption); (case p3d => k_asm); (case p4d => with_reducible assumption); (case p5d => (refine ⟨?_, ?_, ?_, ?_, ?_, ?_, ?_⟩ <;> k_ne))); intro a'q h'q tk'q own'q c1'q F'q N'q I'q)
  k_with "call ref" => (k_here; (with_reducible show wpAny _ _ (call (Value.ref 77) [Value.ref _]) _ _ _); (refine' ctk_k8 ?p1c ?p2c ?p3c ?p4c ?p5c ?_; (case p2c => k_asm); (case p1c => with_reducible assumption); (case p3c => k_asm); (case p4c => with_reducible assumption); (case p5c => (refine ⟨?_, ?_, ?_, ?_, ?_, ?_, ?_⟩ <;> k_ne))); intro a'q h'q tk'q own'q c1'q F'q N'q I'q)
  k_with "call ref" => (k_here; (with_reducible show wpAny _ _ (call (Value.ref 77) [Value.ref _]) _ _ _); (refine' ctk_k8 ?p1b ?p2b ?p3b ?p4b ?p5b ?_; (case p2b => k_asm); (case p1b => with_reducible assumption); (case p3b => k_asm); (case p4b => with_reducible assumption); (case p5b => (refine ⟨?_, ?_, ?_, ?_, ?_, ?_, ?_⟩ <;> k_ne))); intro a'q h'q tk'q own'q c1'q F'q N'q I'q)
  k_with "call ref" => (k_here; (with_reducible show wpAny _ _ (call (Value.ref 77) [Value.ref _]) _ _ _); (refine' ctk_k8 ?p1a ?p2a ?p3a ?p4a ?p5a ?_; (case p2a => k_asm); (case p1a => with_reducible assumption); (case p3a => k_asm); (case p4a => with_reducible assumption); (case p5a => (refine ⟨?_, ?_, ?_, ?_, ?_, ?_, ?_⟩ <;> k_ne))); intro a'q h'q tk'q own'q c1'q F'q N'q I'q)
  trivial
theorem law_key {rest : List PySem.Stmt} {src : Str} {S G R : Addr} {ts : Tok} {st er : Option Value} {gs rs : List Value} {n1 n2 : Nat} {ps : Array Value} {oW : Obj} (hlen : src.length ≤ 900)
  (C : CodeHd g 109 107) (hL : @LT.lt Nat _ 110 L) (hG : @LT.lt Nat _ (L + 1) G ∧ @LT.lt Nat _ (L + 1) R) (hW : oW.data = .cell none)
  (hoff1 : ∀ p ∈ news, p.1 ≠ 107) (hoff2 : ∀ p ∈ news, p.1 ≠ L + 1) (hoff3 : ∀ p ∈ news, p.1 ≠ 72)
  (B : Below callerA g [] g) (F : Fr g L s.heap (mLaw S G R src ts st er)) (X : (K0 w.params).In g) (Y : (KY w.params : Frag).In g)
  (N : News g L s.heap ((107, tabObj #[]) :: (L + 1, oW) :: (65, tabObj ps) :: (G, listOf gs.toArray n1) :: (R, listOf rs.toArray n2) :: (72, tabObj #[]) :: news)) (T : Top p loose mean mg mb g)
  (hQ : ∀ (a : KA) h' tk' NN, Fr g L h' (fun y => if y = Str.ofString "key" then some (.ref a.K) else mLaw S G R src ts st er y) → News g L h' NN → LamIn a w.params NN ((src.length : Int) + 3) → (G, listOf gs.toArray n1) ∈ NN → (R, listOf rs.toArray n2) ∈ NN → (∀ p ∈ news, p ∈ NN) →
    (∃ p65 p107 p72, (65, tabObj p65) ∈ NN ∧ (107, tabObj p107) ∈ NN ∧ (72, tabObj p72) ∈ NN) → wpAny (model PySem.Challenge.rw_in0014_01.row.prog w) (lawA L) (execs rest (lawEnv L)) Q E { s with heap := h', toks := tk' })
  : wpAny (model PySem.Challenge.rw_in0014_01.row.prog w) (lawA L) (execs (st_law.1.2.2.2.2.1 :: st_law.1.2.2.2.2.2.1 :: rest) (lawEnv L)) Q E s := by
  revert X; k_fill; intro X
  k_steps
  rename News _ _ _ _ => N'
  rename KA.In _ _ _ _ => I'
  have fin : ∀ {A : List (Addr × Obj)} {x : Addr × Obj} {a b c d e f g h : Addr × Obj} {own : List (Addr × Obj)}, x ∈ own → x ∈ a :: b :: c :: d :: e :: f :: g :: h :: (own ++ A) := fun hx => by
    simp only [List.mem_cons, List.mem_append]; simp [hx]
  refine hQ _ _ _ _ (by assumption) N' ⟨⟨_, _, _, _, _, _, _, _, _, _, ⟨fin I'.cls, fin I'.nsm, fin I'.mem, fin I'.cell, fin I'.ini, fin I'.iniC, fin I'.lt, fin I'.ltC⟩, .head _, .tail _ (.head _), by assumption, by assumption, _, by assumption, by k_mem⟩⟩ (by k_mem) (by k_mem) (fun p hp => ?_) ⟨_, _, _, by k_mem, by k_mem, by k_mem⟩
  simp only [List.mem_cons, List.mem_append]; simp [hp]
local macro_rules | `(tactic| k_all) => `(tactic| with_reducible assumption)
theorem rev_L {prog : Program} {A : Around} {h₀ : Heap} {a : Addr} {xs : List Value} {n : Nat} {Q : Value → Shared → Prop} {value slice : PySem.Expr} {u : Tok} {ops : List Value} (F : Fr h₀ L s.heap m) (N : News h₀ L s.heap news) (hm : (a, listOf xs.toArray n) ∈ news) (hx : xs.length ≤ 1000)
    (h : ∀ D h', Fr h₀ L h' m → News h₀ L h' ((D, listOf xs.reverse.toArray 0) :: news) → (∀ p ∈ news, p.1 < D) → Q (.ref D) { s with heap := h' })
    (hs : subscripted slice false (.ref a) (.ref s.heap.objs.size) = operate ops (getItem (.ref a) (.ref s.heap.objs.size))) (ht : ∀ r, letTemporaryGo value (.ref a) r = pure ()) :
    wpAny (model prog w) A (subscriptTail value slice (.ref a) (.ref s.heap.objs.size)) Q E { s with heap := s.heap.push { cls := .type "slice", data := .fields #[.none, .none, .int (-1) u] } } :=
  krv_lit F N (isList_of N hm) (.int _ _) rfl h hs ht (by rw [sizeLine_eq]; simp; omega)
theorem rk_X8_law_ret_1 : True := by
  k_with "subscriptTail Name Slice ref ref" => (k_here; (with_reducible show wpAny _ _ (subscriptTail _ (PySem.Expr.Slice none none (some _) _) (Value.ref _) (Value.ref _)) _ _ _); (k_dflt (refine' rev_L (s := ⟨_, _, _, _, _⟩) ?q1d ?q2d ?q3d ?q4d ?_ ?q5d ?q6d)); ((case q3d => with_reducible assumption); (case q1d => k_asm); (case q2d => k_asm); (case q4d => with_reducible assumption); (case q5d => with_unfolding_all rfl); (case q6d => intro _; with_unfolding_all rfl); k_whole); intro D'q h'q F'q N'q hl1'q)
  k_with "subscriptTail Name Slice ref ref" => (k_here; (with_reducible show wpAny _ _ (subscriptTail _ (PySem.Expr.Slice none none (some _) _) (Value.ref _) (Value.ref _)) _ _ _); (k_dflt (refine' rev_L (s := ⟨_, _, _, _, _⟩) ?q1c ?q2c ?q3c ?q4c ?_ ?q5c ?q6c)); ((case q3c => with_reducible assumption); (case q1c => k_asm); (case q2c => k_asm); (case q4c => with_reducible assumption); (case q5c => with_unfolding_all rfl); (case q6c => intro _; with_unfolding_all rfl); k_whole); intro D'q h'q F'q N'q hl1'q)
  k_with "subscriptTail Name Slice ref ref" => (k_here; (with_reducible show wpAny _ _ (subscriptTail _ (PySem.Expr.Slice none none (some _) _) (Value.ref _) (Value.ref _)) _ _ _); (k_dflt (refine' rev_L (s := ⟨_, _, _, _, _⟩) ?q1b ?q2b ?q3b ?q4b ?_ ?q5b ?q6b)); ((case q3b => with_reducible assumption); (case q1b => k_asm); (case q2b => k_asm); (case q4b => with_reducible assumption); (case q5b => with_unfolding_all rfl); (case q6b => intro _; with_unfolding_all rfl); k_whole); intro D'q h'q F'q N'q hl1'q)
  k_with "subscriptTail Name Slice ref ref" => (k_here; (with_reducible show wpAny _ _ (subscriptTail _ (PySem.Expr.Slice none none (some _) _) (Value.ref _) (Value.ref _)) _ _ _); (k_dflt (refine' rev_L (s := ⟨_, _, _, _, _⟩) ?q1a ?q2a ?q3a ?q4a ?_ ?q5a ?q6a)); ((case q3a => with_reducible assumption); (case q1a => k_asm); (case q2a => k_asm); (case q4a => with_reducible assumption); (case q5a => with_unfolding_all rfl); (case q6a => intro _; with_unfolding_all rfl); k_whole); intro D'q h'q F'q N'q hl1'q)
  trivial
theorem ks_law {a : KA} {wide : Int} {ix : List It} {l L0 : Addr} {n2 : Nat} {x : Addr × Obj} {NN : List (Addr × Obj)} {Q : Value → Shared → Prop} (B : Below callerA g [] g) (X : (K0 w.params).In g) (Y : (KY w.params : Frag).In g) (T : Top p loose mean mg mb g)
    (F : Fr g L0 s.heap m) (N : News g L0 s.heap (x :: NN)) (hl : (l, listOf (ix.map fun t => Value.ref t.1).toArray n2) ∈ NN)
    (I : LamIn a w.params NN wide) (O : ItOk NN wide ix) (h64 : ix.length < 64)
    (h : ∀ D h' tk c, Fr g L0 h' m → News g L0 h' ((D, listOf ((srtL (ordOf wide) ix).map fun t => Value.ref t.1).toArray c) :: x :: NN) → Q (.ref D) { s with heap := h', toks := tk }) :
    wpAny (model prg w) (lawA L0) (call (.builtin "sorted") [.ref l] [(Str.ofString "key", .ref a.K)]) Q E s :=
  ks_sorted B X Y T F N (isList_of N (.tail _ hl)) (I.more fun q hq => .tail _ hq) (O.more fun q hq => .tail _ hq) h64 fun D h' tk c F' N' _ => h D h' tk c F' N'
theorem rk_X8_law_ret_2 : True := by
  k_with "call builtin:sorted" => (k_here; (show wpAny _ _ (call (Value.builtin "sorted") [Value.ref _] [(Str.ofString "key", Value.ref _)]) _ _ _); (refine' ks_law ?r1d ?r2d ?r3d ?r4d ?r5d ?r6d ?r7d ?r8d ?r9d ?s1d ?_; (case r5d => k_asm); (case r1d => k_asm); (case r2d => assumption); (case r3d => assumption); (case r4d => k_asm); (case r6d => k_asm); (case r7d => with_reducible assumption); (case r8d => with_reducible assumption); (case r9d => with_reducible assumption); (case s1d => with_reducible assumption)); intro D'q h'q tk'q c'q F'q N'q)
  k_with "call builtin:sorted" => (k_here; (show wpAny _ _ (call (Value.builtin "sorted") [Value.ref _] [(Str.ofString "key", Value.ref _)]) _ _ _); (refine' ks_law ?r1c ?r2c ?r3c ?r4c ?r5c ?r6c ?r7c ?r8c ?r9c ?s1c ?_; (case r5c => k_asm); (case r1c => k_asm); (case r2c => assumption); (case r3c => assumption); (case r4c => k_asm); (case r6c => k_asm); (case r7c => with_reducible assumption); (case r8c => with_reducible assumption); (case r9c => with_reducible assumption); (case s1c => with_reducible assumption)); intro D'q h'q tk'q c'q F'q N'q)
  k_with "call builtin:sorted" => (k_here; (show wpAny _ _ (call (Value.builtin "sorted") [Value.ref _] [(Str.ofString "key", Value.ref _)]) _ _ _); (refine' ks_law ?r1b ?r2b ?r3b ?r4b ?r5b ?r6b ?r7b ?r8b ?r9b ?s1b ?_; (case r5b => k_asm); (case r1b => k_asm); (case r2b => assumption); (case r3b => assumption); (case r4b => k_asm); (case r6b => k_asm); (case r7b => with_reducible assumption); (case r8b => with_reducible assumption); (case r9b => with_reducible assumption); (case s1b => with_reducible assumption)); intro D'q h'q tk'q c'q F'q N'q)
  k_with "call builtin:sorted" => (k_here; (show wpAny _ _ (call (Value.builtin "sorted") [Value.ref _] [(Str.ofString "key", Value.ref _)]) _ _ _); (refine' ks_law ?r1a ?r2a ?r3a ?r4a ?r5a ?r6a ?r7a ?r8a ?r9a ?s1a ?_; (case r5a => k_asm); (case r1a => k_asm); (case r2a => assumption); (case r3a => assumption); (case r4a => k_asm); (case r6a => k_asm); (case r7a => with_reducible assumption); (case r8a => with_reducible assumption); (case r9a => with_reducible assumption); (case s1a => with_reducible assumption)); intro D'q h'q tk'q c'q F'q N'q)
  trivial
theorem ItRow.more {N1 N2 : List (Addr × Obj)} (h : ∀ q ∈ N1, q ∈ N2) {v : Value} {t : Str × Int} (r : ItRow N1 v t) : ItRow N2 v t := by
  obtain ⟨It, W, t1, tk, n1, a, b, ta, tb, n2, e, h1, h2⟩ := r
  exact ⟨It, W, t1, tk, n1, a, b, ta, tb, n2, e, h _ h1, h _ h2⟩
noncomputable def RowsAll (N : List (Addr × Obj)) (vs : List Value) (rs : List (Str × Int)) : Prop := ∀ (i : Nat) (v : Value) (t : Str × Int), vs[i]? = some v → rs[i]? = some t → ItRow N v t
theorem RowsAll.more {N1 N2 : List (Addr × Obj)} {vs : List Value} {rs : List (Str × Int)} (H : RowsAll N1 vs rs) (h : ∀ q ∈ N1, q ∈ N2) : RowsAll N2 vs rs := fun i v t a b => (H i v t a b).more h
theorem mem3 {a b c : Addr × Obj} {NN : List (Addr × Obj)} : ∀ q ∈ NN, q ∈ a :: b :: c :: NN := fun _ h => .tail _ (.tail _ (.tail _ h))
theorem rk_X8_law_ret_3 : True := by
  k_with "execs cons" => (k_here; (with_reducible show wpAny _ (Around.deeper _ (envOf _ s_red _ _ _)) _ _ _ _); k_dflt (refine' red_spec ?t1d ?t2d ?t3d ?t4d ?t5d ?t6d ?t7d ?t8d ?t9d ?v1d ?v2d ?_; (case t5d => k_asm); (case t7d => k_asm); (case t8d => k_mem); (case t9d => k_mem); (case t2d => with_reducible assumption); (case t1d => with_reducible assumption); (case t3d => exact RowsAll.more (by with_reducible assumption) mem3); (case t4d => k_asm); (case t6d => k_asm); (case v1d => k_asm); (case v2d => passes_own)); intro D'q h'q m'q tk'q nw'q F'q N'q hs'q hd'q)
  k_with "execs cons" => (k_here; (with_reducible show wpAny _ (Around.deeper _ (envOf _ s_red _ _ _)) _ _ _ _); k_dflt (refine' red_spec ?t1c ?t2c ?t3c ?t4c ?t5c ?t6c ?t7c ?t8c ?t9c ?v1c ?v2c ?_; (case t5c => k_asm); (case t7c => k_asm); (case t8c => k_mem); (case t9c => k_mem); (case t2c => with_reducible assumption); (case t1c => with_reducible assumption); (case t3c => exact RowsAll.more (by with_reducible assumption) mem3); (case t4c => k_asm); (case t6c => k_asm); (case v1c => k_asm); (case v2c => passes_own)); intro D'q h'q m'q tk'q nw'q F'q N'q hs'q hd'q)
  k_with "execs cons" => (k_here; (with_reducible show wpAny _ (Around.deeper _ (envOf _ s_red _ _ _)) _ _ _ _); k_dflt (refine' red_spec ?t1b ?t2b ?t3b ?t4b ?t5b ?t6b ?t7b ?t8b ?t9b ?v1b ?v2b ?_; (case t5b => k_asm); (case t7b => k_asm); (case t8b => k_mem); (case t9b => k_mem); (case t2b => with_reducible assumption); (case t1b => with_reducible assumption); (case t3b => exact RowsAll.more (by with_reducible assumption) mem3); (case t4b => k_asm); (case t6b => k_asm); (case v1b => k_asm); (case v2b => passes_own)); intro D'q h'q m'q tk'q nw'q F'q N'q hs'q hd'q)
  k_with "execs cons" => (k_here; (with_reducible show wpAny _ (Around.deeper _ (envOf _ s_red _ _ _)) _ _ _ _); k_dflt (refine' red_spec ?t1a ?t2a ?t3a ?t4a ?t5a ?t6a ?t7a ?t8a ?t9a ?v1a ?v2a ?_; (case t5a => k_asm); (case t7a => k_asm); (case t8a => k_mem); (case t9a => k_mem); (case t2a => with_reducible assumption); (case t1a => with_reducible assumption); (case t3a => exact RowsAll.more (by with_reducible assumption) mem3); (case t4a => k_asm); (case t6a => k_asm); (case v1a => k_asm); (case v2a => passes_own)); intro D'q h'q m'q tk'q nw'q F'q N'q hs'q hd'q)
  trivial
theorem eq_datT {prog : Program} {A : Around} {h₀ : Heap} {a b : Addr} {d : Dat} {n1 n2 : List (Addr × Obj)} {Q : Value → Shared → Prop} (N : News h₀ L s.heap news) (d1 : DatIn n1 (.ref a) d) (s1 : ∀ p ∈ n1, p ∈ news) (d2 : DatIn n2 (.ref b) d) (s2 : ∀ p ∈ n2, p ∈ news)
    (ok : kqdOk 9 d = true) (hu : A.units + 64 < cLine) (h : Q (.bool true) s) : wpAny (model prog w) A (compareOp .Eq (.ref a) (.ref b)) Q E s := by
  obtain ⟨as, ra⟩ := kqd_in N 9 (DatIn.mono s1 d1) ok
  obtain ⟨bs, rb⟩ := kqd_in N 9 (DatIn.mono s2 d2) ok
  have l := kqd_lay 9 d ok
  have sh : SeqAt.shaped (kqdP d) = true := by unfold SeqAt.shaped; rw [l.1, Bool.true_and]; exact decide_eq_true (Nat.le_trans l.2 (by decide))
  refine eq_dataH ra rb sh sh hu ?_
  rw [(kqd_eqv 9 d d 9 ok ok).mpr rfl]; exact h
theorem datAll_rev {news : List (Addr × Obj)} : ∀ {vs : List Value} {ds : List Dat}, DatAll news vs ds → DatAll news vs.reverse ds.reverse
  | _, _, .nil => .nil
  | _, _, .cons h r => by rw [List.reverse_cons, List.reverse_cons]; exact DatAll.append (datAll_rev r) (.cons h .nil)
theorem law_ret {a : KA} {src : Str} {S G R : Addr} {ts : Tok} {st er : Option Value} {gs : List Value} {ix : List It} {n1 n2 : Nat} {NN : List (Addr × Obj)} (hlen : src.length ≤ 900) (hgs : gs.length ≤ 1000)
  (hG : (G, listOf gs.toArray n1) ∈ NN) (hR : (R, listOf (ix.map fun t => Value.ref t.1).toArray n2) ∈ NN) (I : LamIn a w.params NN ((src.length : Int) + 3)) (O : ItOk NN ((src.length : Int) + 3) ix) (h64 : ix.length < 64) {rs : List (Str × Int)}
  (hrl : ((srtL (ordOf ((src.length : Int) + 3)) ix).map fun t => Value.ref t.1).length = rs.length) (hok : ∀ i ≤ rs.length, repOk (gathAll (rs.take i))) (hrs : RowsAll NN ((srtL (ordOf ((src.length : Int) + 3)) ix).map fun t => Value.ref t.1) rs)
  {gv : List (Int × Int × Str)} (hgd : DatAll NN gs (gvD gv)) {last : Int} (hgv : gv.reverse = (dueRun src (last + 1).toNat).given)
  (hrep : gathAll rs = (dueRun src (last + 1).toNat).report ++ [(Str.ofString "Expected \"'\" (at end of document)", rangeInts src.length (-1) (src.length - (last - 1)).toNat)])
  (hok9 : kqdOk 9 (.tuple [.list (gvD gv.reverse), .list (repD (gathAll rs))]) = true) (hQ : ∀ h' tk', (∀ b o, g.get? b = some o → h'.get? b = some o) → (∀ p ∈ NN, h'.get? p.1 = some p.2) → Q (.ret (.bool true)) { s with heap := h', toks := tk' }) (hlast : last ∈ ticks src src.length) (hmax : ∀ a ∈ ticks src src.length, a ≤ last)
  (B : Below callerA g [] g) (F : Fr g L s.heap (fun y => if y = Str.ofString "key" then some (.ref a.K) else mLaw S G R src ts st er y)) (X : (K0 w.params).In g) (Y : (KY w.params : Frag).In g)
  (N : News g L s.heap NN) (T : Top p loose mean mg mb g)
  : wpAny (model PySem.Challenge.rw_in0014_01.row.prog w) (lawA L) (exec st_law.1.2.2.2.2.2.2 (lawEnv L)) Q E s := by
  revert X; k_fill; intro X
  iterate 51 (first | (k_unfold; (try dsimp only)) | walk1 | (dsimp only; walk1))
  rename LT.lt _ _ ∧ _ => l1
  k_here
  show wpAny _ (Around.deeper _ (dueE _)) (execs b_due (dueE _)) _ _ _
  with_reducible refine' due_spec (src := src) (t1 := ts) ?aa ?ab ?ac ?ad ?ae ?af ?ag ?ah ?ai ?aj ?ak ?al ?_
  case ae => exact fr_congr' (by k_asm) (fun _ => rfl)
  case ag => exact news_swap (by k_asm)
  case aa => with_reducible assumption
  case ab => with_reducible assumption
  case ac => with_reducible assumption
  case ad => k_asm
  case af => k_asm
  case ai => (refine' Eq.trans ?ai1 ?ai2; (case ai1 => with_reducible assumption); rfl)
  case aj => (refine' Eq.trans ?aj1 ?aj2; (case aj1 => with_reducible assumption); rfl)
  case ak => k_asm
  case al => passes_own
  case ah =>
    intro p hp
    rcases List.mem_cons.mp hp with rfl | hp
    · exact l1.1
    · exact allLt_mem l1.2 p hp
  intro D2 h2 tk2 m2 nw2 F2 N2 hs2 hd2
  iterate 1 (first | (k_unfold; (try dsimp only)) | walk1 | (dsimp only; walk1))
  rename News _ _ _ _ => N3
  rename DatIn _ _ (Dat.list _) => hd1
  rename ∀ p, p ∈ _ :: _ :: _ :: NN → p ∈ _ => hs1
  refine eq_datT (d := .tuple [.list (gvD gv.reverse), .list (repD (gathAll rs))]) (n1 := nw2) (n2 := nw2) N3 ?_ (fun _ h => h) ?_ (fun _ h => h) hok9 (by units_room) (hQ _ _ (Fr.keep (by k_asm)) fun p hp => (N3 p (hs2 _ (.tail _ (hs1 _ (mem3 p hp))))).1)
  · refine .tuple (vs := [_, _]) (hs2 _ (.head _)) (.cons (.list (vs := gs.reverse) (n := 0) (hs2 _ (.tail _ (hs1 _ (.tail _ (.tail _ (.head _)))))) ?_) (.cons (DatIn.mono (fun p hp => hs2 _ (.tail _ hp)) hd1) .nil))
    refine DatAll.mono (fun p hp => hs2 _ (.tail _ (hs1 _ (mem3 p hp)))) ?_
    unfold gvD; rw [List.map_reverse]; exact datAll_rev hgd
  · rw [hgv, hrep]; exact hd2
end
end
section
local macro_rules | `(tactic| walk_at $s:str) => `(tactic| k_extra $s)
theorem rs_X9 : True := by w_top off; k_with_none; trivial
section
variable {w : World} {A₀ : Around} {base g : Heap} {outer : List Env} {L0 L : Addr} {m mg mb : Str → Option Value} {p : Program} {loose : List Str} {mean : ExcName → Option Value} {news : List (Addr × Obj)} {s : Shared}
  {Q : Flow → Shared → Prop} {E : Value → Shared → Prop}
local macro_rules | `(tactic| k_all) => `(tactic| with_reducible assumption)
theorem rk_X9_law_body_2 : True := by
  k_with "exec For" => (k_here; (refine' forH ?_ ?cd; (case cd => intro _; with_unfolding_all rfl)))
  k_with "exec For" => (k_here; (refine' forH ?_ ?cc; (case cc => intro _; with_unfolding_all rfl)))
  k_with "exec For" => (k_here; (refine' forH ?_ ?cb; (case cb => intro _; with_unfolding_all rfl)))
  k_with "exec For" => (k_here; (refine' forH ?_ ?ca; (case ca => intro _; with_unfolding_all rfl)))
  k_with "exec For Name Call cons nil" => (k_here; (refine' forH ?_ ?cd; (case cd => intro _; with_unfolding_all rfl)))
  k_with "exec For Name Call cons nil" => (k_here; (refine' forH ?_ ?cc; (case cc => intro _; with_unfolding_all rfl)))
  k_with "exec For Name Call cons nil" => (k_here; (refine' forH ?_ ?cb; (case cb => intro _; with_unfolding_all rfl)))
  k_with "exec For Name Call cons nil" => (k_here; (refine' forH ?_ ?ca; (case ca => intro _; with_unfolding_all rfl)))
  trivial
theorem news_sub {h₀ h : Heap} {L : Addr} {n1 n2 : List (Addr × Obj)} (N : News h₀ L h n2) (hs : ∀ p ∈ n1, p ∈ n2) : News h₀ L h n1 := fun p hp => N p (hs p hp)
theorem mLaw_first (S G R : Addr) (src : Str) (ts : Tok) (y : Str) :
    (if y = Str.ofString "refused" then some (Value.ref R) else if y = Str.ofString "given" then some (Value.ref G) else if y = Str.ofString "src" then some (.str src ts) else if y = Str.ofString "script" then some (Value.ref S) else none) = mLaw S G R src ts none none y := by
  have n1 : Str.ofString "err" ≠ Str.ofString "refused" := by decide
  have n2 : Str.ofString "err" ≠ Str.ofString "given" := by decide
  have n3 : Str.ofString "err" ≠ Str.ofString "src" := by decide
  have n4 : Str.ofString "err" ≠ Str.ofString "script" := by decide
  have m1 : Str.ofString "start" ≠ Str.ofString "refused" := by decide
  have m2 : Str.ofString "start" ≠ Str.ofString "given" := by decide
  have m3 : Str.ofString "start" ≠ Str.ofString "src" := by decide
  have m4 : Str.ofString "start" ≠ Str.ofString "script" := by decide
  unfold mLaw
  by_cases e : y = Str.ofString "err"
  · subst e; rw [if_neg n1, if_neg n2, if_neg n3, if_neg n4, if_pos rfl]
  · rw [if_neg e]
    by_cases e2 : y = Str.ofString "start"
    · subst e2; rw [if_neg m1, if_neg m2, if_neg m3, if_neg m4, if_pos rfl]
    · rw [if_neg e2]
theorem law_init {SS : Str → Bool} {rest : List PySem.Stmt} {src : Str} {S : Addr} {ts : Tok} {res : Int → Res} {ps : Array Value} {oW : Obj} {sub : List (Addr × Obj)} (hWm : (L + 1, oW) ∈ sub) (hlen : src.length ≤ 900) (hres : ∀ i : Int, 0 ≤ i → i ≤ (src.length : Int) → PRes SS src i (res i))
  (C : CodeHd g 69 65) (hL : 65 < L) (hsub : ∀ p ∈ sub, p.1 ≠ 65) (hT : TabSt sub ps)
  (fs : FS PySem.Challenge.rw_in0014_01.row.prog w g 36 SS)
  (B : Below callerA g [] g) (F : Fr g L s.heap (fun y => if y = Str.ofString "src" then some (.str src ts) else if y = Str.ofString "script" then some (.ref S) else none)) (X : (K0 w.params).In g)
  (N : News g L s.heap ((65, tabObj ps) :: sub)) (T : Top p loose mean mg mb g)
  (hE : PassesOwn (model PySem.Challenge.rw_in0014_01.row.prog w) (lawA L) (lawEnv L) E)
  (hQ : ∀ h' tk' ps' sub' gs as n1 n2 st er G R, @LT.lt Nat _ (L + 1) G → @LT.lt Nat _ (L + 1) R → Fr g L h' (mLaw S G R src ts st er) → News g L h' ((65, tabObj ps') :: (G, listOf gs.toArray n1) :: (R, listOf (as.map Value.ref).toArray n2) :: sub') → (∀ p ∈ sub', p.1 ≠ 65 ∧ p.1 ≠ G ∧ p.1 ≠ R) → (∀ p ∈ sub, p ∈ sub') →
    DatAll sub' gs (gvD (givenOf res src.length (src.length + 1))) → RowsAre sub' as (refsOf res src.length (src.length + 1)) → wpAny (model PySem.Challenge.rw_in0014_01.row.prog w) (lawA L) (execs rest (lawEnv L)) Q E { s with heap := h', toks := tk' })
  : wpAny (model PySem.Challenge.rw_in0014_01.row.prog w) (lawA L) (execs (st_law.1.2.1 :: st_law.1.2.2.1 :: st_law.1.2.2.2.1 :: rest) (lawEnv L)) Q E s := by
  revert X; k_fill; intro X
  k_steps
  rename Fr _ _ _ _ => F₁
  rename News _ _ _ _ => N₁
  rename 65 < _ ∧ AllLt _ sub => l1
  rename _ < _ ∧ 65 < _ ∧ AllLt _ sub => l2
  unfold Hold
  have lW1 : @LT.lt Nat _ (L + 1) _ := allLt_mem l1.2 _ hWm
  have lW2 : @LT.lt Nat _ (L + 1) _ := allLt_mem l2.2.2 _ hWm
  have RG := Nat.ne_of_gt l2.1
  have l65a : @LT.lt Nat _ 65 _ := l1.1
  have l65b : @LT.lt Nat _ 65 _ := l2.2.1
  refine' law_loop (SS := SS) (src := src) (S := S) (ts := ts) (ps := ps) (sub := sub) hlen hres C hL ?u1 hT fs B ?u2 X ?u3 T ?u4 ?u5 ?u6 hE ?u7
  case u2 => exact fr_congr' F₁ (mLaw_first _ _ _ _ _)
  case u3 =>
    refine news_sub N₁ fun p hp => ?_
    simp only [List.mem_cons] at hp ⊢
    rcases hp with h | h | h | h <;> simp [h]
  case u1 => exact fun p hp => ⟨hsub p hp, Nat.ne_of_lt (allLt_mem l1.2 p hp), Nat.ne_of_lt (allLt_mem l2.2.2 p hp)⟩
  case u4 => exact RG
  case u5 => exact ⟨l65a, l65b⟩
  case u6 => with_reducible assumption
  case u7 =>
    intro h' tk' ps' sub' gs as n1 n2 st er F' N' hs1 hs2 hd hr
    exact hQ h' tk' ps' sub' gs as n1 n2 st er _ _ lW1 lW2 F' N' hs1 hs2 hd hr
end
noncomputable abbrev Row := Int × Int × Str × Int
noncomputable def keyR (wide : Int) (r : Row) : Int := r.1 * wide + r.2.1
noncomputable abbrev rowsOf (src : Str) (res : Int → Res) : List Row := refsOf res src.length (src.length + 1)
noncomputable abbrev sortedR (src : Str) (res : Int → Res) : List (Str × Int) := (srtL (keyR ((src.length : Int) + 3)) (rowsOf src res)).map fun r => (r.2.2.1, r.2.2.2)
/-- all that the walk asks of the text -/
structure LawPure (SS : Str → Bool) (src : Str) (res : Int → Res) (last : Int) : Prop where
  len : src.length ≤ 60
  pres : ∀ i : Int, 0 ≤ i → i ≤ (src.length : Int) → PRes SS src i (res i)
  lst : last ∈ ticks src src.length
  mx : ∀ a ∈ ticks src src.length, a ≤ last
  rng : ∀ r ∈ rowsOf src res, 0 ≤ r.1 ∧ r.1 ≤ 1000 ∧ 0 ≤ r.2.1 ∧ r.2.1 ≤ 1000
  dsc : (rowsOf src res).Pairwise fun a b => keyR ((src.length : Int) + 3) b ≤ keyR ((src.length : Int) + 3) a
  ok : ∀ i ≤ (sortedR src res).length, repOk (gathAll ((sortedR src res).take i))
  gv : (givenOf res src.length (src.length + 1)).reverse = (dueRun src (last + 1).toNat).given
  rep : gathAll (sortedR src res) = (dueRun src (last + 1).toNat).report ++ [(Str.ofString "Expected \"'\" (at end of document)", rangeInts src.length (-1) (src.length - (last - 1)).toNat)]
  ok9 : kqdOk 9 (.tuple [.list (gvD (givenOf res src.length (src.length + 1)).reverse), .list (repD (gathAll (sortedR src res)))]) = true
theorem srtL_map {α β : Type} (key : β → Int) (f : α → β) : ∀ l : List α, (srtL (fun i => key (f i)) l).map f = srtL key (l.map f)
  | [] => rfl
  | x :: r => by show (srtG (fun i => key (f i)) [] [x] x r).map f = srtG key [] [f x] (f x) (r.map f); rw [srtG_map key f r]; rfl
section
variable {w : World} {A₀ : Around} {base g : Heap} {outer : List Env} {L0 L : Addr} {m mg mb : Str → Option Value} {p : Program} {loose : List Str} {mean : ExcName → Option Value} {news : List (Addr × Obj)} {s : Shared}
  {Q : Flow → Shared → Prop} {E : Value → Shared → Prop}
theorem RowsAre.zip {sub : List (Addr × Obj)} {as : List Addr} {rs : List Row} (h : RowsAre sub as rs) : ∀ z ∈ as.zip rs, RowOk sub z.1 z.2 := by
  induction h with
  | nil => intro z hz; simp at hz
  | @snoc as rs a r h o ih =>
    intro z hz
    rw [List.zip_append h.length] at hz
    rcases List.mem_append.mp hz with hz | hz
    · exact ih z hz
    · simp at hz; subst hz; exact o
/-- an object of the data's kind -/
noncomputable def SeqObj (o : Obj) : Prop := (o.cls = .type "tuple" ∨ o.cls = .type "list") ∧ ∃ its n, o.data = .seq its n
mutual
theorem datIn_seq {news news' : List (Addr × Obj)} (hs : ∀ p ∈ news, SeqObj p.2 → p ∈ news') : ∀ {v : Value} {d : Dat}, DatIn news v d → DatIn news' v d
  | _, _, .none => .none
  | _, _, .bool b => .bool b
  | _, _, .int i t => .int i t
  | _, _, .str x t => .str x t
  | _, _, .bytes b t => .bytes b t
  | _, _, .tuple h r => .tuple (hs _ h ⟨.inl rfl, _, _, rfl⟩) (datAll_seq hs r)
  | _, _, .list h r => .list (hs _ h ⟨.inr rfl, _, _, rfl⟩) (datAll_seq hs r)
theorem datAll_seq {news news' : List (Addr × Obj)} (hs : ∀ p ∈ news, SeqObj p.2 → p ∈ news') : ∀ {vs : List Value} {ds : List Dat}, DatAll news vs ds → DatAll news' vs ds
  | _, _, .nil => .nil
  | _, _, .cons h r => .cons (datIn_seq hs h) (datAll_seq hs r)
end
theorem RowsAre.of {sub sub' : List (Addr × Obj)} (hs : ∀ p ∈ sub, SeqObj p.2 → p ∈ sub') {as : List Addr} {rs : List Row} (h : RowsAre sub as rs) : RowsAre sub' as rs := by
  induction h with
  | nil => exact .nil
  | snoc _ o ih =>
    obtain ⟨D, ta, tb, tc, td, h1, h2⟩ := o
    exact .snoc ih ⟨D, ta, tb, tc, td, hs _ h1 ⟨.inl rfl, _, _, rfl⟩, hs _ h2 ⟨.inr rfl, _, _, rfl⟩⟩
theorem off_keep {h₀ h : Heap} {L I : Addr} {it : Obj} {all : List (Addr × Obj)} (N : News h₀ L h all) (hI : (I, it) ∈ all) (h1 : ¬ SeqObj it) {p : Addr × Obj} (hp : p ∈ all) (hc : SeqObj p.2) : p.1 ≠ I := fun e => by
  have e1 := (N p hp).1
  have e2 := (N _ hI).1
  rw [e] at e1
  have e3 : p.2 = it := Option.some.inj (e1.symm.trans e2)
  rw [e3] at hc
  exact h1 hc
theorem cell_no {o : Obj} {v : Option Value} (h : o.data = .cell v) : ¬ SeqObj o := fun ⟨_, its, n, e⟩ => by rw [h] at e; cases e
theorem tab_no {ps : Array Value} : ¬ SeqObj (tabObj ps) := fun ⟨h, _⟩ => h.elim (fun e => by cases e) fun e => by cases e
/-- the items that the sort sees -/
noncomputable def itemsOf (as : List Addr) (rs : List Row) : List It := (as.zip rs).map fun z => (z.1, z.2.1, z.2.2.1)
theorem items_ok {NN : List (Addr × Obj)} {as : List Addr} {rs : List Row} {wide : Int} (h : RowsAre NN as rs) (w0 : 0 ≤ wide) (w1 : wide ≤ 1000) (rng : ∀ r ∈ rs, 0 ≤ r.1 ∧ r.1 ≤ 1000 ∧ 0 ≤ r.2.1 ∧ r.2.1 ≤ 1000) (dsc : rs.Pairwise fun a b => keyR wide b ≤ keyR wide a) : ItOk NN wide (itemsOf as rs) where
  mem := by
    intro t ht
    obtain ⟨z, hz, rfl⟩ := List.mem_map.mp ht
    obtain ⟨D, ta, tb, tc, td, h1, h2⟩ := h.zip z hz
    exact ⟨_, _, _, _, _, _, _, _, _, h1, h2⟩
  rng := by
    intro t ht
    obtain ⟨z, hz, rfl⟩ := List.mem_map.mp ht
    exact rng z.2 (List.of_mem_zip hz).2
  dsc := by
    intro i j hi hj hij
    have hl := h.length
    simp only [itemsOf, List.length_map, List.length_zip] at hi hj
    have hi' : i < rs.length := by omega
    have hj' : j < rs.length := by omega
    have := List.pairwise_iff_getElem.mp dsc i j hi' hj' hij
    simpa [itemsOf, ordOf, keyR] using this
  w0 := w0
  w1 := w1
theorem items_refs {as : List Addr} {rs : List Row} (h : as.length = rs.length) : (itemsOf as rs).map (fun t => Value.ref t.1) = as.map Value.ref := by
  unfold itemsOf
  rw [List.map_map]
  have : (as.zip rs).map Prod.fst = as := List.map_fst_zip (by omega)
  conv => rhs; rw [← this]
  rw [List.map_map]; rfl
theorem items_rows {NN : List (Addr × Obj)} {as : List Addr} {rs : List Row} {wide : Int} (h : RowsAre NN as rs) :
    RowsAll NN ((srtL (ordOf wide) (itemsOf as rs)).map fun t => Value.ref t.1) ((srtL (keyR wide) rs).map fun r => (r.2.2.1, r.2.2.2)) ∧ ((srtL (ordOf wide) (itemsOf as rs)).map fun t => Value.ref t.1).length = ((srtL (keyR wide) rs).map fun r => (r.2.2.1, r.2.2.2)).length := by
  have e1 : srtL (ordOf wide) (itemsOf as rs) = (srtL (fun z : Addr × Row => ordOf wide (z.1, z.2.1, z.2.2.1)) (as.zip rs)).map fun z => (z.1, z.2.1, z.2.2.1) := (srtL_map (ordOf wide) _ _).symm
  have e2 : srtL (keyR wide) rs = (srtL (fun z : Addr × Row => ordOf wide (z.1, z.2.1, z.2.2.1)) (as.zip rs)).map Prod.snd := by
    have hh : (as.zip rs).map Prod.snd = rs := List.map_snd_zip (by rw [h.length]; exact Nat.le_refl _)
    conv => lhs; rw [← hh]
    exact (srtL_map (keyR wide) Prod.snd _).symm
  refine ⟨?_, ?_⟩
  · rw [e1, e2]
    intro i v t hv ht
    simp only [List.map_map, List.getElem?_map, Option.map_eq_some_iff] at hv ht
    obtain ⟨z, hz, rfl⟩ := hv
    obtain ⟨z', hz', rfl⟩ := ht
    obtain rfl : z = z' := Option.some.inj (hz.symm.trans hz')
    have hm := (srtL_perm _ _).mem_iff.mp (List.mem_of_getElem? hz)
    obtain ⟨D, ta, tb, tc, td, h1, h2⟩ := h.zip z hm
    exact ⟨_, _, _, _, _, _, _, _, _, _, rfl, h1, h2⟩
  · rw [e1, e2]; simp
theorem items_len {as : List Addr} {rs : List Row} : (itemsOf as rs).length ≤ rs.length := by simp [itemsOf]; omega
theorem lt65 {L : Addr} (h : @LT.lt Nat _ 110 L) : 65 < L := Nat.lt_trans (by decide : 65 < 110) h
theorem law_body {SS : Str → Bool} {S : Addr} {vs : List Value} {ns : List Int} {oW : Obj} {res : Int → Res} {last : Int} (hi : IntsAre vs ns) (hns : ns.length ≤ 63) (P : LawPure SS (srcOf ns) res last)
  (B : Below callerA g [] g) (hl : g.IsList S vs.toArray) (F : Fr g L s.heap (fun y => if y = Str.ofString "script" then some (.ref S) else none)) (X : (K0 w.params).In g) (Y : (KY w.params : Frag).In g)
  (C65 : CodeHd g 69 65) (C107 : CodeHd g 109 107) (fs : FS PySem.Challenge.rw_in0014_01.row.prog w g 36 SS) (hL : @LT.lt Nat _ 110 L) (hW : oW.data = .cell none)
  (N : News g L s.heap [(L + 1, oW), (65, tabObj #[]), (72, tabObj #[]), (107, tabObj #[])]) (T : Top p loose mean mg mb g)
  (hE : PassesOwn (model PySem.Challenge.rw_in0014_01.row.prog w) (lawA L) (lawEnv L) E)
  (hQ : ∀ h' tk', (∀ b o, g.get? b = some o → h'.get? b = some o) → GrownAt 65 h' → GrownAt 72 h' → GrownAt 107 h' → Q (.ret (.bool true)) { s with heap := h', toks := tk' })
  : wpAny (model PySem.Challenge.rw_in0014_01.row.prog w) (lawA L) (execs b_law (lawEnv L)) Q E s := by
  have hn := P.len
  have e0 : @Eq (List PySem.Stmt) b_law _ := st_law.2
  rw [e0]
  refine wpAny_execs_cons (law_src hi hns B hl F X N T ?_)
  intro h1 tk1 t1 F1 N1
  dsimp only
  refine law_init (SS := SS) (src := srcOf ns) (S := S) (res := res) (ps := #[]) (oW := oW) (sub := [(L + 1, oW), (72, tabObj #[]), (107, tabObj #[])]) (.head _) (by omega) P.pres C65 (lt65 hL) ?_ (.inl rfl) fs B F1 X (news_sub N1 ?_) T hE ?_
  · intro p hp
    simp only [List.mem_cons, List.not_mem_nil, or_false] at hp
    rcases hp with rfl | rfl | rfl
    · exact (by omega : @Ne Nat (L + 1) 65)
    · exact (by decide : @Ne Nat 72 65)
    · exact (by decide : @Ne Nat 107 65)
  · intro p hp
    simp only [List.mem_cons, List.not_mem_nil, or_false] at hp ⊢
    rcases hp with h | h | h | h <;> simp [h]
  intro h2 tk2 ps' sub' gs as n1 n2 st er G R lG lR F2 N2 hs1 hs2 hgd hrd
  have Ns : News g L h2 sub' := news_sub N2 fun p hp => .tail _ (.tail _ (.tail _ hp))
  have m107 : ((107, tabObj #[]) : Addr × Obj) ∈ sub' := hs2 _ (.tail _ (.tail _ (.head _)))
  have mW : (L + 1, oW) ∈ sub' := hs2 _ (.head _)
  have m72 : ((72, tabObj #[]) : Addr × Obj) ∈ sub' := hs2 _ (.tail _ (.head _))
  have hup : ∀ p ∈ sub', SeqObj p.2 → p ∈ offL 72 (offL (L + 1) (offL 107 sub')) := fun p hp hc =>
    offL_mem (offL_mem (offL_mem hp (off_keep Ns m107 tab_no hp hc)) (off_keep Ns mW (cell_no hW) hp hc)) (off_keep Ns m72 tab_no hp hc)
  refine law_key (src := srcOf ns) (G := G) (R := R) (gs := gs) (rs := as.map Value.ref) (n1 := n1) (n2 := n2) (ps := ps') (oW := oW) (news := offL 72 (offL (L + 1) (offL 107 sub'))) (by omega) C107 hL ⟨lG, lR⟩ hW ?_ ?_ ?_ B F2 X Y (news_sub N2 ?_) T ?_
  · exact fun p hp => offL_ne p (offL_sub p (offL_sub p hp))
  · exact fun p hp => offL_ne p (offL_sub p hp)
  · exact offL_ne
  · intro p hp
    simp only [List.mem_cons] at hp ⊢
    rcases hp with rfl | rfl | h | h | h | rfl | h
    · simp [m107]
    · simp [mW]
    · simp [h]
    · simp [h]
    · simp [h]
    · simp [m72]
    · simp [offL_sub p (offL_sub p (offL_sub p h))]
  intro a h3 tk3 NN F3 N3 I hG hR hnn htab
  have hrd' : RowsAre NN as (rowsOf (srcOf ns) res) := (hrd.of hup).mono hnn
  have hgd' : DatAll NN gs (gvD (givenOf res (srcOf ns).length ((srcOf ns).length + 1))) := DatAll.mono hnn (datAll_seq hup hgd)
  have hO := items_ok hrd' (wide := ((srcOf ns).length : Int) + 3) (by omega) (by omega) P.rng P.dsc
  obtain ⟨hA, hB⟩ := items_rows (wide := ((srcOf ns).length : Int) + 3) hrd'
  have hlr := refsOf_len res (srcOf ns).length ((srcOf ns).length + 1)
  have hil : (itemsOf as (rowsOf (srcOf ns) res)).length ≤ (refsOf res (srcOf ns).length ((srcOf ns).length + 1)).length := items_len (as := as) (rs := rowsOf (srcOf ns) res)
  have g1 : gs.length ≤ 1000 := by have := hgd.length; simp [gvD] at this; have := givenOf_len res (srcOf ns).length ((srcOf ns).length + 1); omega
  refine wpAny_execs_cons (law_ret (a := a) (src := srcOf ns) (S := S) (G := G) (R := R) (gs := gs) (ix := itemsOf as (rowsOf (srcOf ns) res)) (n1 := n1) (n2 := n2) (NN := NN) (rs := sortedR (srcOf ns) res) (last := last) (gv := givenOf res (srcOf ns).length ((srcOf ns).length + 1)) (by omega) g1 hG ?_ I hO (by omega) hB P.ok hA hgd' P.gv P.rep P.ok9 ?_ P.lst P.mx B F3 X Y N3 T)
  · rw [items_refs hrd'.length]; exact hR
  · intro h' tk' hk hn
    obtain ⟨p65, p107, p72, m1, m2, m3⟩ := htab
    exact hQ h' tk' hk ⟨_, hn _ m1⟩ ⟨_, hn _ m3⟩ ⟨_, hn _ m2⟩
end
end
section
open PySem.Builtin PySem.Builtin.Str PySem.StrLaws
/-- the place `i` of the text holds the code `c` -/
noncomputable def isC (s : Str) (c i : Nat) : Bool := s.cps.toList[i]? == some c
theorem subAt_isC (s : Str) (c i : Nat) : subAt s ⟨#[c]⟩ i = isC s c i := by
  unfold subAt isC
  rw [Bool.eq_iff_iff]
  simp only [beq_iff_eq, Array.getElem?_toList]
  show s.cps.extract i (i + 1) = #[c] ↔ _
  by_cases h : i < s.cps.size
  · rw [Array.getElem?_eq_getElem h]
    constructor
    · intro e
      have := congrArg (fun a : Array Nat => a[0]?) e
      simp [Array.getElem?_extract] at this
      rw [Array.getElem?_eq_getElem h] at this
      simp at this
      exact congrArg some this.2
    · intro e
      have e' : s.cps[i] = c := Option.some.inj e
      apply Array.ext
      · simp; omega
      · intro j h1 h2
        have : j = 0 := by simp at h2; omega
        subst this
        simp [e']
  · rw [Array.getElem?_eq_none (by omega)]
    constructor
    · intro e
      have := congrArg Array.size e
      simp at this; omega
    · intro e; cases e
theorem occ_run (s : Str) (c hi limit : Nat) : ∀ (l : List Nat) (st : Array Nat × Nat), l.Pairwise (· < ·) → (∀ i ∈ l, st.2 ≤ i) → st.1.size ≤ limit →
    (forIn l st (occBody s ⟨#[c]⟩ hi limit)).run.1.toList = st.1.toList ++ (l.filter fun i => decide (i + 1 ≤ hi) && isC s c i).take (limit - st.1.size)
  | [], st, _, _, _ => by simp
  | a :: l, st, hp, hf, hs => by
    rw [List.forIn_cons]
    have ha : st.2 ≤ a := hf a (.head _)
    have hp' := List.pairwise_cons.mp hp
    unfold occBody
    by_cases h1 : st.1.size < limit
    · by_cases h2 : a + 1 ≤ hi ∧ isC s c a = true
      · have c1 : ((st.1.size < limit ∧ st.2 ≤ a) ∧ a + (⟨#[c]⟩ : Str).length ≤ hi) ∧ subAt s ⟨#[c]⟩ a = true := ⟨⟨⟨h1, ha⟩, h2.1⟩, by rw [subAt_isC]; exact h2.2⟩
        rw [if_pos c1]
        show (forIn l (st.1.push a, a + 1) (occBody s ⟨#[c]⟩ hi limit)).run.1.toList = _
        rw [occ_run s c hi limit l (st.1.push a, a + 1) hp'.2 (fun i hi' => hp'.1 i hi') (by simp; omega)]
        rw [List.filter_cons_of_pos (by simp [h2.1, h2.2])]
        have : limit - st.1.size = (limit - (st.1.push a).size) + 1 := by simp; omega
        rw [this, List.take_succ_cons]
        simp
      · have c1 : ¬ (((st.1.size < limit ∧ st.2 ≤ a) ∧ a + (⟨#[c]⟩ : Str).length ≤ hi) ∧ subAt s ⟨#[c]⟩ a = true) := fun z => h2 ⟨z.1.2, by rw [← subAt_isC]; exact z.2⟩
        rw [if_neg c1]
        show (forIn l (st.1, st.2) (occBody s ⟨#[c]⟩ hi limit)).run.1.toList = _
        rw [occ_run s c hi limit l _ hp'.2 (fun i hi' => hf i (.tail _ hi')) hs]
        rw [List.filter_cons_of_neg (by simp; intro h; simpa using fun z => h2 ⟨h, z⟩)]
    · have c1 : ¬ (((st.1.size < limit ∧ st.2 ≤ a) ∧ a + (⟨#[c]⟩ : Str).length ≤ hi) ∧ subAt s ⟨#[c]⟩ a = true) := fun z => h1 z.1.1.1
      rw [if_neg c1]
      show (forIn l (st.1, st.2) (occBody s ⟨#[c]⟩ hi limit)).run.1.toList = _
      rw [occ_run s c hi limit l _ hp'.2 (fun i hi' => hf i (.tail _ hi')) hs]
      have : limit - st.1.size = 0 := by omega
      simp [this]
theorem range_filter_hi (s : Str) (c lo hi : Nat) : ((List.range' lo (hi + 1 - lo)).filter fun i => decide (i + 1 ≤ hi) && isC s c i) = (List.range' lo (hi - lo)).filter (isC s c) := by
  by_cases h : lo ≤ hi
  · have : hi + 1 - lo = (hi - lo) + 1 := by omega
    rw [this, List.range'_concat, List.filter_append]
    have e1 : ([lo + 1 * (hi - lo)].filter fun i => decide (i + 1 ≤ hi) && isC s c i) = [] := by
      rw [List.filter_cons_of_neg (by simp; omega)]; rfl
    rw [e1, List.append_nil]
    refine List.filter_congr fun i hi' => ?_
    have := List.mem_range'_1.mp hi'
    have h2 : i + 1 ≤ hi := by omega
    simp [h2]
  · have e1 : hi - lo = 0 := by omega
    have e2 : hi + 1 - lo = 0 ∨ hi + 1 - lo = 1 := by omega
    rw [e1]
    rcases e2 with e2 | e2
    · rw [e2]; rfl
    · omega
theorem occ_one (s : Str) (c lo hi limit : Nat) : occurrences s ⟨#[c]⟩ lo hi limit = ((List.range' lo (hi - lo)).filter (isC s c)).take limit := by
  rw [occ_eq, occ_run s c hi limit _ _ (by exact List.pairwise_lt_range') (fun i hi' => by have := List.mem_range'_1.mp hi'; exact this.1) (by simp)]
  rw [range_filter_hi]; simp
theorem last_run1 (s : Str) (c hi : Nat) : ∀ (l : List Nat) (st : Option Nat), (forIn l st (lastBody s ⟨#[c]⟩ hi)).run = ((l.filter fun i => decide (i + 1 ≤ hi) && isC s c i).getLast?).or st
  | [], st => by simp
  | a :: l, st => by
    rw [List.forIn_cons]
    unfold lastBody
    by_cases h2 : a + 1 ≤ hi ∧ isC s c a = true
    · have c1 : a + (⟨#[c]⟩ : Str).length ≤ hi ∧ subAt s ⟨#[c]⟩ a = true := ⟨h2.1, by rw [subAt_isC]; exact h2.2⟩
      rw [if_pos c1]
      show (forIn l (some a) (lastBody s ⟨#[c]⟩ hi)).run = _
      rw [last_run1 s c hi l, List.filter_cons_of_pos (by simp [h2.1, h2.2]), List.getLast?_cons]
      cases h : (l.filter fun i => decide (i + 1 ≤ hi) && isC s c i).getLast? <;> simp
    · have c1 : ¬ (a + (⟨#[c]⟩ : Str).length ≤ hi ∧ subAt s ⟨#[c]⟩ a = true) := fun z => h2 ⟨z.1, by rw [← subAt_isC]; exact z.2⟩
      rw [if_neg c1]
      show (forIn l st (lastBody s ⟨#[c]⟩ hi)).run = _
      rw [last_run1 s c hi l, List.filter_cons_of_neg (by simp; intro h; simpa using fun z => h2 ⟨h, z⟩)]
theorem last_one (s : Str) (c lo hi : Nat) : lastOccurrence s ⟨#[c]⟩ lo hi = ((List.range' lo (hi - lo)).filter (isC s c)).getLast? := by
  rw [last_eq, last_run1, range_filter_hi]; simp
end
section
open PySem.Builtin PySem.Builtin.Str PySem.StrLaws
noncomputable def nls (s : Str) (e : Nat) : List Nat := (List.range' 0 e).filter (isC s 10)
noncomputable def lineN (s : Str) (e : Nat) : Nat := (nls s e).length + 1
noncomputable def colN (s : Str) (e : Nat) : Nat := match (nls s e).getLast? with | none => e + 1 | some k => e - k
theorem nls_len (s : Str) (e : Nat) : (nls s e).length ≤ e := Nat.le_trans (List.length_filter_le _ _) (by simp)
theorem nls_lt (s : Str) (e : Nat) : ∀ k ∈ nls s e, k < e := fun k hk => by
  have := List.mem_range'_1.mp (List.mem_filter.mp hk).1; omega
theorem from_nat (n e : Nat) : fromIndex n (e : Int) = e := by unfold fromIndex; rw [if_neg (by omega)]; omega
theorem nl_is : Str.ofString "\n" = ⟨#[10]⟩ := by decide
theorem tick_is : Str.ofString "'" = ⟨#[39]⟩ := by decide
theorem coord_at (s : Str) (e : Nat) (he : e < s.length) (h9 : s.length ≤ 900) : Coord s (e : Int) (lineCol (lineN s e : Int) (colN s e : Int)) := by
  have ho : occurrences s (Str.ofString "\n") (fromIndex s.length 0) (min (fromIndex s.length (e : Int)) s.length) (s.length + 1) = nls s e := by
    rw [nl_is, occ_one, from_nat, show fromIndex s.length 0 = 0 from from_nat s.length 0, Nat.min_eq_left (Nat.le_of_lt he), List.take_of_length_le]
    · rfl
    · have := nls_len s e; unfold nls at this; simp at this ⊢; omega
  have hl : lastOccurrence s (Str.ofString "\n") (fromIndex s.length 0) (min (fromIndex s.length (e : Int)) s.length) = (nls s e).getLast? := by
    rw [nl_is, last_one, from_nat, show fromIndex s.length 0 = 0 from from_nat s.length 0, Nat.min_eq_left (Nat.le_of_lt he)]; rfl
  have hn := nls_len s e
  have e1 : ((lineN s e : Nat) : Int) = ((nls s e).length : Int) + 1 := by unfold lineN; simp
  rw [e1]
  cases h : (nls s e).getLast? with
  | none =>
    have h0 : nls s e = [] := List.getLast?_eq_none_iff.mp h
    have e2 : ((colN s e : Nat) : Int) = (e : Int) + 1 := by unfold colN; rw [h]; simp
    rw [e2]
    exact .one (by omega) (by omega) (by rw [ho]) (by omega) (by omega) (by rw [h0]; rfl)
  | some k =>
    have hk : k < e := nls_lt s e k (List.mem_of_getLast? h)
    have e2 : ((colN s e : Nat) : Int) = (e : Int) - (k : Int) := by unfold colN; rw [h]; simp; omega
    rw [e2]
    exact .more (by omega) (by omega) (by rw [ho]) (by omega) (by omega) (by
      have : nls s e ≠ [] := fun z => by rw [z] at h; cases h
      have : 0 < (nls s e).length := List.length_pos_iff.mpr this
      omega) (by rw [hl, h]) (by omega)
theorem slice_nat (s : Str) (a b : Nat) (h : a ≤ b) (h2 : b ≤ s.length) : Txt.slice s (some (a : Int)) (some (b : Int)) = ⟨((s.cps.toList.drop a).take (b - a)).toArray⟩ := by
  have hcl : s.cps.toList.length = s.length := by simp [Str.length]
  have := slice_closes (x := s) (i := (a : Int)) (j := (b : Int)) ⟨by omega, by omega, by omega⟩
  have := eq_of_beq this
  rw [this]
  congr 3
  omega
theorem slice_to (s : Str) (b : Nat) (h2 : b ≤ s.length) : Txt.slice s none (some (b : Int)) = ⟨(s.cps.toList.take b).toArray⟩ := by
  have hcl : s.cps.toList.length = s.length := by simp [Str.length]
  have := slice_closes_to (x := s) (j := (b : Int)) ⟨by omega, by omega⟩
  have := eq_of_beq this
  rw [this]
  simp
theorem split_at (s : Str) (e : Nat) (h1 : 1 ≤ e) (he : e ≤ s.length) : (Txt.split (Txt.slice s none (some (e : Int))) (Str.ofString "\n")).length = lineN s e ∧ ((Txt.split (Txt.slice s none (some (e : Int))) (Str.ofString "\n")).getLastD Str.empty).length + 1 = colN s e := by
  rw [slice_to s e he, nl_is]
  have hcl : s.cps.toList.length = s.length := by simp [Str.length]
  generalize hp : (⟨(s.cps.toList.take e).toArray⟩ : Str) = p
  have hpl : p.length = e := by rw [← hp]; simp [Str.length] at hcl ⊢; simp [Str.length] at he; omega
  have ho : occurrences p ⟨#[10]⟩ 0 p.length (p.length + 1) = nls s e := by
    rw [occ_one, hpl, List.take_of_length_le]
    · unfold nls
      refine List.filter_congr fun i hi => ?_
      have := List.mem_range'_1.mp hi
      unfold isC
      rw [← hp]; simp only [List.getElem?_take]
      rw [if_pos (by omega)]
    · refine Nat.le_trans (List.length_filter_le _ _) (by simp)
  have k1 : Builtin.Str.strKind (⟨#[10]⟩ : Str) = 1 := by decide +kernel
  have k2 : 1 ≤ Builtin.Str.strKind p := by unfold Builtin.Str.strKind; split <;> (try split) <;> omega
  unfold Txt.split
  rw [if_neg (by simp only [Bool.or_eq_true, decide_eq_true_eq]; rw [k1, hpl]; show ¬ (e < 1 ∨ _); omega), ho]
  rcases List.eq_nil_or_concat (nls s e) with h | ⟨front, k, h⟩
  · rw [if_pos (by rw [h]; rfl)]
    refine ⟨by unfold lineN; rw [h]; rfl, ?_⟩
    unfold colN; rw [h]; simp [hpl]
  · rw [List.concat_eq_append] at h
    have hk : k < e := nls_lt s e k (by rw [h]; simp)
    rw [if_neg (by rw [h]; simp)]
    have hz : partsBetween p (nls s e) (⟨#[10]⟩ : Str).length = (((0 :: front.map (· + 1)).zip (front ++ [k])).map fun (x : Nat × Nat) => strSub p x.1 x.2) ++ [strSub p (k + 1) e] := by
      unfold partsBetween
      show ((0 :: (nls s e).map (· + 1)).zip (nls s e ++ [p.length])).map (fun (x : Nat × Nat) => strSub p x.1 x.2) = _
      rw [h, hpl, List.map_append, List.map_cons, List.map_nil, ← List.cons_append, List.zip_append (by simp), List.map_append]
      rfl
    rw [hz]
    refine ⟨?_, ?_⟩
    · unfold lineN; rw [h]; simp
    · unfold colN; rw [h]
      simp only [List.getLast?_append, List.getLast?_singleton, Option.some_or]
      rw [List.getLastD_eq_getLast?]
      simp only [List.getLast?_append, List.getLast?_singleton, Option.some_or, Option.getD_some]
      show (strSub p (k + 1) e).length + 1 = _
      have : (strSub p (k + 1) e).length = e - (k + 1) := by
        unfold strSub; show (p.cps.extract (k + 1) e).size = _
        have : p.cps.size = e := hpl
        simp; omega
      omega
end
noncomputable def badsC : List (Nat × Str) := [(10, Str.ofString "'\\n'"), (127, Str.ofString "'\\x7f'"), (31, Str.ofString "'\\x1f'")]
noncomputable def okC : List Nat := [39, 10, 97, 127, 9, 31, 8232]
noncomputable def eT (c : Nat) : Str := (badsC.lookup c).getD Str.empty
noncomputable def isBadC (c : Nat) : Bool := c == 10 || c == 127 || c == 31
noncomputable def SSx (x : Str) : Bool := match x.cps.toList with | [c] => (decide (c < 32) && c != 9) || c == 127 | _ => false
noncomputable def bWords (c L C : Nat) : Str := badW (eT c) L ((C : Int) - 1)
section
open PySem.Builtin PySem.Builtin.Str PySem.StrLaws
theorem toList_mk (l : List Nat) : (⟨l.toArray⟩ : Str).cps.toList = l := rfl
theorem subAt_list (x y : List Nat) (i : Nat) (h : subAt ⟨x.toArray⟩ ⟨y.toArray⟩ i = true) : (x.drop i).take y.length = y := by
  rw [subAt_eq] at h
  have := eq_of_beq h
  simpa [Str.length] using this
theorem subAt_list' (x y : List Nat) (i : Nat) (h : (x.drop i).take y.length = y) : subAt ⟨x.toArray⟩ ⟨y.toArray⟩ i = true := by
  rw [subAt_eq]
  simpa [Str.length] using h
theorem kind_one (l : List Nat) (h : ∀ c ∈ l, c < 256) : Builtin.Str.strKind ⟨l.toArray⟩ = 1 := by
  unfold Builtin.Str.strKind
  rw [if_pos]
  simpa using h
theorem kind_pos (s : Str) : 1 ≤ Builtin.Str.strKind s := by unfold Builtin.Str.strKind; split <;> (try split) <;> omega
theorem split_uniq (a y b : List Nat) (j c : Nat) (hj : y[j]? = some c) (hu : ∀ i : Nat, y[i]? = some c → i = j) (ha : c ∉ a) (hb : c ∉ b) (hy : ∀ c ∈ y, c < 256) :
    Txt.split ⟨(a ++ y ++ b).toArray⟩ ⟨y.toArray⟩ = [⟨a.toArray⟩, ⟨b.toArray⟩] := by
  have hjl : j < y.length := (List.getElem?_eq_some_iff.mp hj).1
  have hxl : (⟨(a ++ y ++ b).toArray⟩ : Str).length = a.length + y.length + b.length := by simp [Str.length]; omega
  have hyl : (⟨y.toArray⟩ : Str).length = y.length := by simp [Str.length]
  have huniq : ∀ i, At ⟨(a ++ y ++ b).toArray⟩ ⟨y.toArray⟩ (a.length + y.length + b.length) i → i = a.length := by
    intro i hi
    have e := subAt_list _ _ _ hi.2
    have h1 : (a ++ y ++ b)[i + j]? = some c := by
      have h2 : (List.take y.length (List.drop i (a ++ y ++ b)))[j]? = some c := by rw [e]; exact hj
      rw [List.getElem?_take, if_pos hjl, List.getElem?_drop] at h2
      exact h2
    rw [List.append_assoc] at h1
    by_cases q1 : i + j < a.length
    · rw [List.getElem?_append_left q1] at h1
      exact absurd (List.mem_of_getElem? h1) ha
    · rw [List.getElem?_append_right (by omega)] at h1
      by_cases q2 : i + j - a.length < y.length
      · rw [List.getElem?_append_left q2] at h1
        have := hu _ h1
        omega
      · rw [List.getElem?_append_right (by omega)] at h1
        exact absurd (List.mem_of_getElem? h1) hb
  have hat : At ⟨(a ++ y ++ b).toArray⟩ ⟨y.toArray⟩ (a.length + y.length + b.length) a.length := by
    refine ⟨by rw [hyl]; omega, subAt_list' _ _ _ ?_⟩
    simp
  unfold Txt.split
  rw [if_neg (by
    simp only [Bool.or_eq_true, decide_eq_true_eq, hxl, hyl, kind_one y hy]
    have := kind_pos ⟨(a ++ y ++ b).toArray⟩
    omega)]
  rcases occ_head ⟨(a ++ y ++ b).toArray⟩ ⟨y.toArray⟩ ((⟨(a ++ y ++ b).toArray⟩ : Str).length + 1) (by omega) with ⟨_, hn⟩ | ⟨i, r, e, hi, _⟩
  · exact absurd (by rw [hxl]; exact hat) (hn a.length)
  · rw [e]
    rw [hxl] at hi
    obtain rfl := huniq i hi
    obtain ⟨f, hc⟩ := occ_chain ⟨(a ++ y ++ b).toArray⟩ ⟨y.toArray⟩ ((⟨(a ++ y ++ b).toArray⟩ : Str).length + 1)
    rw [e] at hc
    have hr : r = [] := by
      cases r with
      | nil => rfl
      | cons k r =>
        have h1 := hc.2.2.1
        have h2 := hc.2.2.2.1
        rw [hxl] at h2
        have := huniq k h2
        rw [hyl] at h1
        omega
    rw [hr, if_neg (by simp), partsBetween_eq]
    show [strSub _ 0 a.length, strSub _ (a.length + (⟨y.toArray⟩ : Str).length) _] = _
    have e1 : strSub ⟨(a ++ y ++ b).toArray⟩ 0 a.length = ⟨a.toArray⟩ := by
      unfold strSub; congr 1; apply Array.toList_inj.mp; simp
    have e2 : strSub ⟨(a ++ y ++ b).toArray⟩ (a.length + (⟨y.toArray⟩ : Str).length) (⟨(a ++ y ++ b).toArray⟩ : Str).length = ⟨b.toArray⟩ := by
      rw [hyl, hxl]
      unfold strSub; congr 1; apply Array.toList_inj.mp
      simp
    rw [e1, e2]
end
section
open PySem.Builtin PySem.Builtin.Str PySem.StrLaws
noncomputable def dN (L : Nat) : Str := Str.ofString (toString (L : Int))
noncomputable def dl (L : Nat) : List Nat := (dN L).cps.toList
noncomputable def dChk (L : Nat) : Bool := (dl L).all (fun c => decide (48 ≤ c ∧ c ≤ 57)) && PySem.intText? (dN L) == some (L : Int) && decide ((dl L).length ≤ 3)
theorem d_all : ∀ L < 64, dChk L = true := by decide +kernel
theorem d_dig {L : Nat} (h : L < 64) : ∀ c ∈ dl L, 48 ≤ c ∧ c ≤ 57 := by
  have := d_all L h; unfold dChk at this
  simp only [Bool.and_eq_true, List.all_eq_true, decide_eq_true_eq] at this
  exact this.1.1
theorem d_int {L : Nat} (h : L < 64) : PySem.intText? (dN L) = some (L : Int) := by
  have := d_all L h; unfold dChk at this
  simp only [Bool.and_eq_true, beq_iff_eq] at this
  exact this.1.2
theorem d_len {L : Nat} (h : L < 64) : (dl L).length ≤ 3 := by
  have := d_all L h; unfold dChk at this
  simp only [Bool.and_eq_true, decide_eq_true_eq] at this
  exact this.2
noncomputable def lFIC : List Nat := (Str.ofString "Found invalid character ").cps.toList
noncomputable def lAt : List Nat := [32, 40, 97, 116, 32]
noncomputable def lLine : List Nat := [108, 105, 110, 101, 32]
noncomputable def lCol : List Nat := [44, 32, 99, 111, 108, 117, 109, 110, 32]
theorem str_list (s : Str) : s = ⟨s.cps.toList.toArray⟩ := rfl
theorem str_of_list {s : Str} {l : List Nat} (h : s.cps.toList = l) : s = ⟨l.toArray⟩ := by subst h; rfl
theorem bW_list (c L C : Nat) : (bWords c L C).cps.toList = (lFIC ++ (eT c).cps.toList) ++ lAt ++ (lLine ++ (dl L ++ (lCol ++ (dl C ++ [41])))) := by
  have e1 : ((C : Int) - 1 + 1) = (C : Int) := by omega
  have e2 : (Str.ofString " (at line ").cps.toList = lAt ++ lLine := by decide
  have e3 : (Str.ofString ", column ").cps.toList = lCol := by decide
  have e4 : (Str.ofString ")").cps.toList = [41] := by decide
  unfold bWords badW
  rw [e1]
  simp only [Str.cps_append, Array.toList_append, e2, e3, e4, lFIC, dl, dN, List.append_assoc]
theorem eT_bad {c : Nat} (h : isBadC c = true) : (∀ x ∈ (eT c).cps.toList, x ≠ 40 ∧ x < 256) ∧ (eT c).length ≤ 10 := by
  unfold isBadC at h
  simp only [Bool.or_eq_true, beq_iff_eq] at h
  rcases h with (rfl | rfl) | rfl <;> decide
theorem bW_split1 {c L C : Nat} (hc : isBadC c = true) (hL : L < 64) (hC : C < 64) : Txt.split (bWords c L C) (Str.ofString " (at ") = [⟨(lFIC ++ (eT c).cps.toList).toArray⟩, ⟨(lLine ++ (dl L ++ (lCol ++ (dl C ++ [41])))).toArray⟩] := by
  rw [str_of_list (bW_list c L C), show Str.ofString " (at " = ⟨lAt.toArray⟩ by decide]
  refine split_uniq _ _ _ 1 40 rfl ?_ ?_ ?_ (by decide)
  · intro i hi
    match i, hi with
    | 0, hi => simp [lAt] at hi
    | 1, _ => rfl
    | 2, hi => simp [lAt] at hi
    | 3, hi => simp [lAt] at hi
    | 4, hi => simp [lAt] at hi
    | n + 5, hi => simp [lAt] at hi
  · intro h
    rcases List.mem_append.mp h with h | h
    · revert h; decide
    · exact ((eT_bad hc).1 _ h).1 rfl
  · intro h
    simp only [List.mem_append, List.mem_singleton] at h
    rcases h with h | h | h | h | h
    · revert h; decide
    · have := d_dig hL _ h; omega
    · revert h; decide
    · have := d_dig hC _ h; omega
    · cases h
theorem bW_told (L C : Nat) : Txt.slice ⟨(lLine ++ (dl L ++ (lCol ++ (dl C ++ [41])))).toArray⟩ none (some (-1)) = ⟨(lLine ++ (dl L ++ (lCol ++ dl C))).toArray⟩ := by
  generalize hx : (⟨(lLine ++ (dl L ++ (lCol ++ (dl C ++ [41])))).toArray⟩ : Str) = x
  have hxl : x.cps.toList = lLine ++ (dl L ++ (lCol ++ (dl C ++ [41]))) := by rw [← hx]
  have hl : x.length = (lLine ++ (dl L ++ (lCol ++ dl C))).length + 1 := by
    have : x.length = x.cps.toList.length := by simp [Str.length]
    rw [this, hxl]; simp; omega
  have := slice_closes_to_neg (x := x) (j := -1) (k := -1 + x.length) (by omega) (by omega) rfl
  rw [eq_of_beq this, hxl]
  congr 2
  rw [show ((-1 : Int) + (x.length : Int) - 0).toNat = (lLine ++ (dl L ++ (lCol ++ dl C))).length by omega]
  have : lLine ++ (dl L ++ (lCol ++ (dl C ++ [41]))) = (lLine ++ (dl L ++ (lCol ++ dl C))) ++ [41] := by simp
  rw [this]
  show List.take _ (List.drop 0 _) = _
  rw [List.drop_zero, List.take_left]
theorem bW_rest (L C : Nat) : Txt.slice ⟨(lLine ++ (dl L ++ (lCol ++ dl C))).toArray⟩ (some 5) none = ⟨(dl L ++ (lCol ++ dl C)).toArray⟩ := by
  generalize hx : (⟨(lLine ++ (dl L ++ (lCol ++ dl C))).toArray⟩ : Str) = x
  have hxl : x.cps.toList = lLine ++ (dl L ++ (lCol ++ dl C)) := by rw [← hx]
  have hl : x.length = (dl L ++ (lCol ++ dl C)).length + 5 := by
    have : x.length = x.cps.toList.length := by simp [Str.length]
    rw [this, hxl]; simp [lLine]
  rw [slice_from_eq (x := x) (i := 5) (b := (x.length : Int)) (by omega) (by omega) rfl, hxl]
  congr 2
  rw [show ((x.length : Int) - 5).toNat = (dl L ++ (lCol ++ dl C)).length by omega]
  show List.take _ (List.drop 5 (lLine ++ _)) = _
  rw [show (5 : Nat) = lLine.length from rfl, List.drop_left, List.take_length]
theorem bW_split2 {L C : Nat} (hL : L < 64) (hC : C < 64) : Txt.split ⟨(dl L ++ (lCol ++ dl C)).toArray⟩ (Str.ofString ", column ") = [dN L, dN C] := by
  rw [show Str.ofString ", column " = ⟨lCol.toArray⟩ by decide, ← List.append_assoc]
  refine split_uniq _ _ _ 0 44 rfl ?_ ?_ ?_ (by decide)
  · intro i hi
    match i, hi with
    | 0, _ => rfl
    | n + 1, hi =>
      exfalso
      have : lCol[n + 1]? ≠ some 44 := by
        unfold lCol
        match n with
        | 0 => decide
        | 1 => decide
        | 2 => decide
        | 3 => decide
        | 4 => decide
        | 5 => decide
        | 6 => decide
        | 7 => decide
        | m + 8 => simp
      exact this hi
  · intro h; have := d_dig hL _ h; omega
  · intro h; have := d_dig hC _ h; omega
theorem bW_len {c L C : Nat} (hc : isBadC c = true) (hL : L < 64) (hC : C < 64) : (bWords c L C).length ≤ 100 ∧ (⟨(lLine ++ (dl L ++ (lCol ++ (dl C ++ [41])))).toArray⟩ : Str).length ≤ 100 ∧ (⟨(lLine ++ (dl L ++ (lCol ++ dl C))).toArray⟩ : Str).length ≤ 100 ∧ (⟨(dl L ++ (lCol ++ dl C)).toArray⟩ : Str).length ≤ 100 ∧ (dN L).length ≤ 100 ∧ (dN C).length ≤ 100 := by
  have h1 := d_len hL
  have h2 := d_len hC
  have h3 := (eT_bad hc).2
  have h4 : (bWords c L C).length = (bWords c L C).cps.toList.length := by simp [Str.length]
  have h5 : lFIC.length = 24 := by decide
  have h6 : (eT c).cps.toList.length = (eT c).length := by simp [Str.length]
  have h7 : (dN L).length = (dl L).length := by simp [Str.length, dl]
  have h8 : (dN C).length = (dl C).length := by simp [Str.length, dl]
  rw [h4, bW_list]
  simp only [Str.length, List.size_toArray, List.length_append, List.length_cons, List.length_nil, h5] at *
  simp only [lLine, lCol, lAt, List.length_cons, List.length_nil]
  simp only [Array.length_toList] at *
  omega
theorem bW_not {L C : Nat} : ((⟨(lLine ++ (dl L ++ (lCol ++ dl C))).toArray⟩ : Str) == Str.ofString "end of document") = false := by
  rw [Bool.eq_false_iff]
  intro h
  have e := eq_of_beq h
  have := congrArg (fun s : Str => s.cps.toList[0]?) e
  simp only [toList_mk] at this
  rw [show (Str.ofString "end of document").cps.toList[0]? = some 101 by decide] at this
  simp [lLine] at this
theorem bW_ok {c L C : Nat} (hc : isBadC c = true) (hL : L < 64) (hC : C < 64) : PyData.strOk (bWords c L C) = true := by
  unfold PyData.strOk
  rw [← Array.all_toList, bW_list]
  simp only [List.all_eq_true, decide_eq_true_eq, List.mem_append, List.mem_singleton]
  intro x hx
  rcases hx with ((h | h) | h) | (h | h | h | h | h)
  · revert x; decide
  · have := ((eT_bad hc).1 _ h).2; omega
  · revert x; decide
  · revert x; decide
  · have := d_dig hL _ h; omega
  · revert x; decide
  · have := d_dig hC _ h; omega
  · omega
theorem bW_inj {c c' L L' C C' : Nat} (hc : isBadC c = true) (hc' : isBadC c' = true) (hL : L < 64) (hC : C < 64) (hL' : L' < 64) (hC' : C' < 64) (h : bWords c L C = bWords c' L' C') : L = L' ∧ C = C' := by
  have h1 := bW_split1 hc hL hC
  rw [h, bW_split1 hc' hL' hC'] at h1
  have h2 : (⟨(lLine ++ (dl L' ++ (lCol ++ (dl C' ++ [41])))).toArray⟩ : Str) = ⟨(lLine ++ (dl L ++ (lCol ++ (dl C ++ [41])))).toArray⟩ := by
    have := congrArg (fun l : List Str => l[1]?) h1
    simpa only [List.getElem?_cons_succ, List.getElem?_cons_zero, Option.some.injEq] using this
  have h3 := congrArg (fun s : Str => Txt.slice (Txt.slice s none (some (-1))) (some 5) none) h2
  simp only [bW_told, bW_rest] at h3
  have h4 := congrArg (fun s : Str => Txt.split s (Str.ofString ", column ")) h3
  simp only [bW_split2 hL hC, bW_split2 hL' hC', List.cons.injEq, and_true] at h4
  have i1 := d_int hL
  rw [← h4.1, d_int hL'] at i1
  have i2 := d_int hC
  rw [← h4.2, d_int hC'] at i2
  have j1 := Option.some.inj i1
  have j2 := Option.some.inj i2
  omega
end
section
open PySem.Builtin PySem.Builtin.Str PySem.StrLaws
noncomputable def cAt (s : Str) (i : Nat) : Nat := (s.cps.toList[i]?).getD 0
noncomputable def isEv (s : Str) (i : Nat) : Bool := cAt s i == 39 || isBadC (cAt s i)
structure Good (s : Str) : Prop where
  hn : s.length ≤ 60
  h6 : 6 ≤ s.length
  ok : ∀ i, i < s.length → cAt s i ∈ okC ∧ s.cps.toList[i]? = some (cAt s i)
  zero : cAt s 0 = 97
  tick : cAt s (s.length - 2) = 39
  lastc : cAt s (s.length - 1) = 10
noncomputable def nextEv (s : Str) (i : Nat) : Nat := ((List.range s.length).find? fun j => decide (i < j) && isEv s j).getD 0
theorem isC_at {s : Str} (G : Good s) {i c : Nat} (h : i < s.length) : isC s c i = (cAt s i == c) := by
  unfold isC; rw [(G.ok i h).2]; simp
theorem find_first {p : Nat → Bool} : ∀ {n e : Nat}, (List.range n).find? p = some e → e < n ∧ p e = true ∧ ∀ j < e, p j = false := by
  intro n e h
  have h1 := List.mem_range.mp (List.mem_of_find?_eq_some h)
  have h2 := List.find?_some h
  refine ⟨h1, h2, fun j hj => ?_⟩
  rw [List.find?_eq_some_iff_getElem] at h
  obtain ⟨_, i, hi, he, hb⟩ := h
  have hi' : i = e := by simpa using he
  subst hi'
  have := hb j hj
  simpa using this
theorem find_some {p : Nat → Bool} {n e : Nat} (h1 : e < n) (h2 : p e = true) (h3 : ∀ j < e, p j = false) : (List.range n).find? p = some e := by
  rw [List.find?_eq_some_iff_getElem]
  refine ⟨h2, e, by simpa using h1, by simp, fun j hj => ?_⟩
  simpa using h3 j hj
theorem find_ex {p : Nat → Bool} {n e : Nat} (h1 : e < n) (h2 : p e = true) : ∃ k, (List.range n).find? p = some k ∧ k ≤ e := by
  cases h : (List.range n).find? p with
  | none => 
    have := List.find?_eq_none.mp h e (List.mem_range.mpr h1)
    exact absurd h2 this
  | some k =>
    refine ⟨k, rfl, ?_⟩
    have := (find_first h).2.2 e
    rcases Nat.lt_or_ge e k with q | q
    · rw [this q] at h2; cases h2
    · exact q
theorem nextEv_spec {s : Str} (G : Good s) {i : Nat} (hi : i < s.length - 2) : i < nextEv s i ∧ nextEv s i ≤ s.length - 2 ∧ isEv s (nextEv s i) = true ∧ ∀ j, i < j → j < nextEv s i → isEv s j = false := by
  have h6 := G.h6
  obtain ⟨k, hk, hle⟩ := find_ex (p := fun j => decide (i < j) && isEv s j) (n := s.length) (e := s.length - 2) (by omega) (by simp [isEv, G.tick]; omega)
  unfold nextEv
  rw [hk]
  obtain ⟨h1, h2, h3⟩ := find_first hk
  simp only [Bool.and_eq_true, decide_eq_true_eq] at h2
  refine ⟨h2.1, hle, h2.2, fun j hj hj' => ?_⟩
  have := h3 j hj'
  simpa [hj] using this
theorem nextEv_is {s : Str} {i e : Nat} (h1 : e < s.length) (h2 : i < e) (h3 : isEv s e = true) (h4 : ∀ j, i < j → j < e → isEv s j = false) : nextEv s i = e := by
  unfold nextEv
  rw [find_some (e := e) h1 (by simp [h2, h3]) (fun j hj => by
    by_cases q : i < j
    · simp [q, h4 j q hj]
    · simp [q])]
  rfl
theorem first_filter {p : Nat → Bool} {a len e : Nat} (h1 : a ≤ e) (h2 : e < a + len) (h3 : p e = true) (h4 : ∀ j, a ≤ j → j < e → p j = false) : ((List.range' a len).filter p).take 1 = [e] := by
  have e1 : List.range' a len = List.range' a (e - a) ++ (e :: List.range' (e + 1) (len - (e - a) - 1)) := by
    have : len = (e - a) + ((len - (e - a) - 1) + 1) := by omega
    conv => lhs; rw [this]
    rw [← List.range'_append (s := a) (m := e - a) (n := (len - (e - a) - 1) + 1) (step := 1)]
    congr 1
    rw [List.range'_succ]
    congr 1
    · omega
    · congr 1; omega
  rw [e1, List.filter_append]
  have e2 : (List.range' a (e - a)).filter p = [] := by
    rw [List.filter_eq_nil_iff]
    intro j hj
    have := List.mem_range'_1.mp hj
    rw [h4 j this.1 (by omega)]; simp
  rw [e2, List.nil_append, List.filter_cons_of_pos h3]; rfl
theorem item_at {s : Str} (G : Good s) {i : Nat} (h : i < s.length) : Txt.item s (i : Int) = ⟨#[cAt s i]⟩ := by
  refine item_meets (by omega) ?_
  rw [← Array.getElem?_toList]
  simpa using (G.ok i h).2
theorem SS_at {c : Nat} (h : c ∈ okC) : SSx ⟨#[c]⟩ = isBadC c := by
  revert c; decide
theorem ss_item {s : Str} (G : Good s) {i : Nat} (h : i < s.length) : SSx (Txt.item s (i : Int)) = isBadC (cAt s i) := by
  rw [item_at G h, SS_at (G.ok i h).1]
theorem ev_bad {s : Str} {i : Nat} (h : isEv s i = false) : isBadC (cAt s i) = false ∧ cAt s i ≠ 39 := by
  unfold isEv at h
  simp only [Bool.or_eq_false_iff, beq_eq_false_iff_ne] at h
  exact ⟨h.2, h.1⟩
theorem slice_get {s : Str} {a b j : Nat} (h : a ≤ b) (h2 : b ≤ s.length) : (Txt.slice s (some (a : Int)) (some (b : Int))).cps.toList[j]? = if j < b - a then s.cps.toList[a + j]? else none := by
  rw [slice_nat s a b h h2]
  simp only [List.getElem?_take, List.getElem?_drop]
theorem slice_any {s : Str} (G : Good s) {a b : Nat} (h : a ≤ b) (h2 : b ≤ s.length) : ((Txt.slice s (some (a : Int)) (some (b : Int))).cps.toList.any fun c => SSx ⟨#[c]⟩) = true ↔ ∃ j, a ≤ j ∧ j < b ∧ isBadC (cAt s j) = true := by
  rw [List.any_eq_true]
  constructor
  · rintro ⟨c, hc, hs⟩
    obtain ⟨j, hj⟩ := List.getElem?_of_mem hc
    rw [slice_get h h2] at hj
    split at hj
    · rename_i hjb
      have hn : a + j < s.length := by omega
      rw [(G.ok _ hn).2] at hj
      have e : cAt s (a + j) = c := Option.some.inj hj
      rw [← e, SS_at (G.ok _ hn).1] at hs
      exact ⟨a + j, by omega, by omega, hs⟩
    · cases hj
  · rintro ⟨j, h3, h4, h5⟩
    have hn : j < s.length := by omega
    refine ⟨cAt s j, ?_, ?_⟩
    · refine List.mem_of_getElem? (i := j - a) ?_
      rw [slice_get h h2, if_pos (by omega), show a + (j - a) = j by omega]
      exact (G.ok _ hn).2
    · rw [SS_at (G.ok _ hn).1]; exact h5
theorem slice_len {s : Str} {a b : Nat} (h : a ≤ b) (h2 : b ≤ s.length) : (Txt.slice s (some (a : Int)) (some (b : Int))).length ≤ s.length := Txt.slice_le _ _ _
theorem colN_le (s : Str) (e : Nat) : 1 ≤ colN s e ∧ colN s e ≤ e + 1 := by
  unfold colN
  split
  · omega
  · rename_i k hk
    have := nls_lt s e k (List.mem_of_getLast? hk)
    omega
theorem lineN_le (s : Str) (e : Nat) : 1 ≤ lineN s e ∧ lineN s e ≤ e + 1 := by
  have := nls_len s e
  unfold lineN; omega
theorem nls_succ (s : Str) (e : Nat) : nls s (e + 1) = nls s e ++ (if isC s 10 e = true then [e] else []) := by
  unfold nls
  rw [List.range'_concat, List.filter_append]
  congr 1
  by_cases h : isC s 10 e = true <;> simp [h]
noncomputable def keyE (wide : Int) (s : Str) (e : Nat) : Int := (lineN s e : Int) * wide + (colN s e : Int)
theorem keyE_succ {wide : Int} {s : Str} {e : Nat} (hw : (e : Int) + 2 ≤ wide) : keyE wide s e < keyE wide s (e + 1) := by
  have hc := colN_le s e
  unfold keyE
  by_cases h : isC s 10 e = true
  · have e1 : lineN s (e + 1) = lineN s e + 1 := by unfold lineN; rw [nls_succ, if_pos h]; simp
    have e2 : colN s (e + 1) = 1 := by unfold colN; rw [nls_succ, if_pos h]; simp
    rw [e1, e2, Int.natCast_add, Int.add_mul]
    omega
  · have e1 : nls s (e + 1) = nls s e := by rw [nls_succ, if_neg h, List.append_nil]
    have e2 : lineN s (e + 1) = lineN s e := by unfold lineN; rw [e1]
    have e3 : colN s (e + 1) = colN s e + 1 := by
      unfold colN
      rw [e1]
      cases hk : (nls s e).getLast? with
      | none => rfl
      | some k =>
        have := nls_lt s e k (List.mem_of_getLast? hk)
        dsimp only
        omega
    rw [e2, e3]
    omega
theorem keyE_lt {wide : Int} {s : Str} {e e' : Nat} (h : e < e') (hw : (e' : Int) + 1 ≤ wide) : keyE wide s e < keyE wide s e' := by
  induction e' with
  | zero => omega
  | succ k ih =>
    rcases Nat.lt_or_ge e k with q | q
    · exact Int.lt_trans (ih q (by omega)) (keyE_succ (by omega))
    · have : e = k := by omega
      subst this; exact keyE_succ (by omega)
end
section
open PySem.Builtin PySem.Builtin.Str PySem.StrLaws
noncomputable abbrev eodW : Str := Str.ofString "Expected \"'\" (at end of document)"
noncomputable def resN (s : Str) (i : Nat) : Res :=
  if i < s.length - 2 then (if cAt s (nextEv s i) = 39 then .inl (((nextEv s i : Nat) : Int) + 1, Txt.slice s (some ((i : Int) + 1)) (some ((nextEv s i : Nat) : Int))) else .inr ((lineN s (nextEv s i) : Int), (colN s (nextEv s i) : Int), bWords (cAt s (nextEv s i)) (lineN s (nextEv s i)) (colN s (nextEv s i))))
  else .inr ((s.length : Int) + 2, 0, eodW)
theorem say_eq {c L C : Nat} (hc : isBadC c = true) : sayAt (Str.empty ++ Str.ofString "Found invalid character " ++ reprText ⟨#[c]⟩) (lineCol (L : Int) (C : Int)) = bWords c L C := by
  have hr : reprText ⟨#[c]⟩ = eT c := by
    unfold isBadC at hc
    simp only [Bool.or_eq_true, beq_iff_eq] at hc
    rcases hc with (rfl | rfl) | rfl <;> decide +kernel
  rw [hr]
  apply Str.ext'
  apply Array.toList_inj.mp
  rw [bW_list]
  have e0 : (Str.empty).cps.toList = [] := by decide
  have e2 : (Str.ofString " (at ").cps.toList = lAt := by decide
  have e5 : (Str.ofString "line ").cps.toList = lLine := by decide
  have e3 : (Str.ofString ", column ").cps.toList = lCol := by decide
  have e4 : (Str.ofString ")").cps.toList = [41] := by decide
  simp only [sayAt, lineCol, Str.cps_append, Array.toList_append, e0, e2, e3, e4, e5, lFIC, dl, dN, List.append_assoc, List.nil_append]
theorem lc_len {L C : Nat} (hL : L < 64) (hC : C < 64) : (lineCol (L : Int) (C : Int)).length ≤ 100 := by
  have h1 := d_len hL
  have h2 := d_len hC
  have e0 : (Str.empty).cps.toList = [] := by decide
  have e5 : (Str.ofString "line ").cps.toList = lLine := by decide
  have e3 : (Str.ofString ", column ").cps.toList = lCol := by decide
  have : (lineCol (L : Int) (C : Int)).length = (lineCol (L : Int) (C : Int)).cps.toList.length := by simp [Str.length]
  rw [this]
  simp only [lineCol, Str.cps_append, Array.toList_append, e0, e3, e5, List.length_append]
  show 0 + lLine.length + (dl L).length + lCol.length + (dl C).length ≤ 100
  simp only [lLine, lCol, List.length_cons, List.length_nil]
  omega
theorem first_tick {s : Str} (G : Good s) {i e : Nat} (h1 : i < e) (h2 : e < s.length) (h3 : cAt s e = 39) (h4 : ∀ j, i < j → j < e → cAt s j ≠ 39) :
    occurrences s (Str.ofString "'") (fromIndex s.length ((i : Int) + 1)) s.length 1 = [e] := by
  rw [tick_is, show ((i : Int) + 1) = ((i + 1 : Nat) : Int) by omega, from_nat, occ_one]
  refine first_filter (by omega) (by omega) (by rw [isC_at G h2]; simp [h3]) fun j hj hj' => ?_
  rw [isC_at G (by omega)]
  have := h4 j (by omega) hj'
  simpa using this
theorem bad_tick {s : Str} (G : Good s) {i : Nat} (hi : i < s.length - 2) (h : cAt s (nextEv s i) ≠ 39) : ∃ k, nextEv s i < k ∧ k < s.length ∧ occurrences s (Str.ofString "'") (fromIndex s.length ((i : Int) + 1)) s.length 1 = [k] := by
  obtain ⟨n1, n2, n3, n4⟩ := nextEv_spec G hi
  have h6 := G.h6
  obtain ⟨k, hk, hle⟩ := find_ex (p := fun j => decide (i < j) && cAt s j == 39) (n := s.length) (e := s.length - 2) (by omega) (by simp [G.tick]; omega)
  obtain ⟨k1, k2, k3⟩ := find_first hk
  simp only [Bool.and_eq_true, decide_eq_true_eq, beq_iff_eq] at k2
  refine ⟨k, ?_, k1, first_tick G k2.1 k1 k2.2 fun j hj hj' => ?_⟩
  · rcases Nat.lt_trichotomy k (nextEv s i) with q | q | q
    · have := n4 k k2.1 q
      exact absurd k2.2 (ev_bad this).2
    · rw [← q] at h; exact absurd k2.2 h
    · exact q
  · have := k3 j hj'
    simpa [hj] using this
theorem no_tick {s : Str} (G : Good s) {i : Nat} (hi : s.length - 2 ≤ i) : occurrences s (Str.ofString "'") (fromIndex s.length ((i : Int) + 1)) s.length 1 = [] := by
  have h6 := G.h6
  rw [tick_is, show ((i : Int) + 1) = ((i + 1 : Nat) : Int) by omega, from_nat, occ_one]
  have : (List.range' (i + 1) (s.length - (i + 1))).filter (isC s 39) = [] := by
    rw [List.filter_eq_nil_iff]
    intro j hj
    have := List.mem_range'_1.mp hj
    have e : j = s.length - 1 := by omega
    rw [isC_at G (by omega), e, G.lastc]; decide
  rw [this]; rfl
theorem isEv_bad {s : Str} {e : Nat} (h : isEv s e = true) (h2 : cAt s e ≠ 39) : isBadC (cAt s e) = true := by
  unfold isEv at h
  simp only [Bool.or_eq_true, beq_iff_eq] at h
  exact h.resolve_left h2
theorem pres_at {s : Str} (G : Good s) (i : Nat) (hi : i ≤ s.length) : PRes SSx s (i : Int) (resN s i) := by
  have h6 := G.h6
  have hn := G.hn
  unfold resN
  by_cases h1 : i < s.length - 2
  · rw [if_pos h1]
    obtain ⟨n1, n2, n3, n4⟩ := nextEv_spec G h1
    generalize he : nextEv s i = e at *
    by_cases h2 : cAt s e = 39
    · rw [if_pos h2]
      refine .ok (k := e) (rest := []) (first_tick G n1 (by omega) h2 fun j hj hj' => (ev_bad (n4 j hj hj')).2) (by omega) rfl (Nat.le_trans (Txt.slice_le _ _ _) (by omega)) ?_
      rw [Bool.eq_false_iff]
      intro h
      have := (slice_any G (a := i + 1) (b := e) (by omega) (by omega)).mp h
      obtain ⟨j, j1, j2, j3⟩ := this
      rw [(ev_bad (n4 j (by omega) j2)).1] at j3; cases j3
    · rw [if_neg h2]
      have hb := isEv_bad n3 h2
      have hL : lineN s e < 64 := by have := lineN_le s e; omega
      have hC : colN s e < 64 := by have := colN_le s e; omega
      obtain ⟨k, k1, k2, k3⟩ := bad_tick G h1 (by rw [he]; exact h2)
      rw [he] at k1
      obtain ⟨l1, l2, l3, l4, l5, l6⟩ := bW_len hb hL hC
      have hR : Refuses SSx s ((i : Int) + 1) (bWords (cAt s e) (lineN s e) (colN s e)) := by
        rw [← say_eq hb]
        refine .bad (k := k) (d := e - (i + 1)) (pe := (e : Int)) (c := ⟨#[cAt s e]⟩) k3 (by omega) rfl ?_ ?_ (by omega) (by omega) (item_at G (by omega)) ?_ (by omega) ?_ (coord_at s e (by omega) (by omega)) ?_ rfl ?_ ?_
        · exact Nat.le_trans (Txt.slice_le _ _ _) (by omega)
        · exact (slice_any G (a := i + 1) (b := k) (by omega) (by omega)).mpr ⟨e, by omega, k1, hb⟩
        · rw [SS_at (G.ok e (by omega)).1]; exact hb
        · intro x hx hx'
          have := ss_item G (i := x.toNat) (by omega)
          rw [show ((x.toNat : Nat) : Int) = x by omega] at this
          rw [this]
          exact (ev_bad (n4 x.toNat (by omega) (by omega))).1
        · have := lc_len hL hC; omega
        · have : reprText ⟨#[cAt s e]⟩ = eT (cAt s e) := by
            revert hb
            generalize cAt s e = c
            intro hb
            unfold isBadC at hb
            simp only [Bool.or_eq_true, beq_iff_eq] at hb
            rcases hb with (rfl | rfl) | rfl <;> decide +kernel
          rw [this]; have := (eT_bad hb).2; omega
        · revert hb
          generalize cAt s e = c
          intro hb
          unfold isBadC at hb
          simp only [Bool.or_eq_true, beq_iff_eq] at hb
          rcases hb with (rfl | rfl) | rfl <;> decide +kernel
      exact .bad hR (by rw [k3]; exact List.cons_ne_nil _ _) (by omega) (by omega) (by omega) (by omega) (bW_split1 hb hL hC) (bW_told _ _) bW_not (bW_rest _ _) (bW_split2 hL hC) (d_int hL) (d_int hC) (by omega) (by omega)
  · rw [if_neg h1]
    have hR : Refuses SSx s ((i : Int) + 1) eodW := by
      have e : eodW = sayAt (Str.empty ++ Str.ofString "Expected " ++ reprText (Str.ofString "'")) (Str.ofString "end of document") := by decide +kernel
      rw [e]
      exact .none (no_tick G (by omega)) (.eod (by simp)) (by decide) rfl (by decide +kernel) (by decide +kernel)
    exact .eod hR (by decide) (w1 := Str.ofString "Expected \"'\"") (w2 := Str.ofString "end of document)") (told := Str.ofString "end of document") (by decide) (by decide +kernel) (by decide +kernel) (by decide +kernel)
end
section
theorem srtG_acc {α : Type} (key : α → Int) : ∀ (r acc cur : List α) (l : α), srtG key acc cur l r = srtG key [] cur l r ++ acc
  | [], acc, cur, l => by simp [srtG]
  | x :: r, acc, cur, l => by
    unfold srtG
    by_cases h : key x < key l
    · rw [if_pos h, if_pos h, srtG_acc key r (cur ++ acc), srtG_acc key r (cur ++ [])]; simp
    · rw [if_neg h, if_neg h, srtG_acc key r acc]
theorem srtG_same {α : Type} (key : α → Int) (old : List α) : ∀ (g cur : List α) (l : α), (∀ x ∈ g, key x = key l) → (∀ x ∈ old, key x < key l) → srtG key [] cur l (g ++ old) = srtL key old ++ (cur ++ g)
  | [], cur, l, _, ho => by
    cases old with
    | nil => simp [srtG, srtL]
    | cons x r =>
      show srtG key [] cur l (x :: r) = _
      rw [srtG, if_pos (ho x (.head _)), srtG_acc]; simp [srtL]
  | y :: g, cur, l, hg, ho => by
    have hy : key y = key l := hg y (.head _)
    show srtG key [] cur l (y :: (g ++ old)) = _
    rw [srtG, if_neg (by rw [hy]; exact Int.lt_irrefl _)]
    rw [srtG_same key old g (cur ++ [y]) y (fun x hx => by rw [hg x (.tail _ hx), hy]) (fun x hx => by rw [hy]; exact ho x hx)]
    simp
theorem srtL_grp {α : Type} (key : α → Int) (K : Int) (g old : List α) (hg : ∀ x ∈ g, key x = K) (ho : ∀ x ∈ old, key x < K) : srtL key (g ++ old) = srtL key old ++ g := by
  cases g with
  | nil => simp
  | cons y g =>
    show srtG key [] [y] y (g ++ old) = _
    have hy := hg y (.head _)
    rw [srtG_same key old g [y] y (fun x hx => by rw [hg x (.tail _ hx), hy]) (fun x hx => by rw [hy]; exact ho x hx)]
    simp
theorem gath_rest (rep : List (Str × List Int)) (wd : Str) : ∀ (ks l : List Int), (ks.map fun k => (wd, k)).foldl (fun r t => gath r t.1 t.2) (rep ++ [(wd, l)]) = rep ++ [(wd, l ++ ks)]
  | [], l => by simp
  | k :: ks, l => by
    show (ks.map fun k => (wd, k)).foldl (fun r t => gath r t.1 t.2) (gath (rep ++ [(wd, l)]) wd k) = _
    have : gath (rep ++ [(wd, l)]) wd k = rep ++ [(wd, l ++ [k])] := by
      unfold gath; simp
    rw [this, gath_rest rep wd ks]; simp
theorem gath_grp (X : List (Str × Int)) (wd : Str) (k : Int) (ks : List Int) (h : ∀ e ∈ gathAll X, e.1 ≠ wd) : gathAll (X ++ ((k :: ks).map fun k => (wd, k))) = gathAll X ++ [(wd, k :: ks)] := by
  unfold gathAll at h ⊢
  rw [List.foldl_append]
  generalize List.foldl (fun r t => gath r t.1 t.2) [] X = rep at h
  show (ks.map fun k => (wd, k)).foldl (fun r t => gath r t.1 t.2) (gath rep wd k) = _
  have : gath rep wd k = rep ++ [(wd, [k])] := by
    unfold gath
    cases hl : rep.getLast? with
    | none => rw [List.getLast?_eq_none_iff.mp hl]; rfl
    | some e =>
      dsimp only
      rw [if_neg]
      have := h e (List.mem_of_getLast? hl)
      simpa using this
  rw [this, gath_rest]; simp
theorem gath_sub (X : List (Str × Int)) : (gathAll X).length ≤ X.length ∧ (∀ e ∈ gathAll X, (∃ t ∈ X, t.1 = e.1) ∧ e.2.length ≤ X.length) := by
  suffices h : ∀ (n : Nat) (X : List (Str × Int)), X.length = n → (gathAll X).length ≤ X.length ∧ (∀ e ∈ gathAll X, (∃ t ∈ X, t.1 = e.1) ∧ e.2.length ≤ X.length) from h _ X rfl
  intro n
  induction n with
  | zero => intro X hX; rw [List.length_eq_zero_iff.mp hX]; simp [gathAll]
  | succ n ih =>
    intro X hX
    rcases List.eq_nil_or_concat X with rfl | ⟨Y, t, rfl⟩
    · simp at hX
    · rw [List.concat_eq_append] at hX ⊢
      have hY : Y.length = n := by simpa using hX
      obtain ⟨i1, i2⟩ := ih Y hY
      have e1 : gathAll (Y ++ [t]) = gath (gathAll Y) t.1 t.2 := by unfold gathAll; rw [List.foldl_append]; rfl
      rw [e1]
      unfold gath
      have hlen : (Y ++ [t]).length = Y.length + 1 := by simp
      rw [hlen]
      cases hl : (gathAll Y).getLast? with
      | none =>
        dsimp only
        refine ⟨by simp, fun e he => ?_⟩
        obtain rfl := List.mem_singleton.mp he
        exact ⟨⟨t, by simp, rfl⟩, by simp⟩
      | some e0 =>
        have h0 := i2 e0 (List.mem_of_getLast? hl)
        dsimp only
        split
        · refine ⟨by simp; omega, fun e he => ?_⟩
          rcases List.mem_append.mp he with he | he
          · obtain ⟨⟨t', ht', q⟩, q2⟩ := i2 e (List.dropLast_subset _ he)
            exact ⟨⟨t', by simp [ht'], q⟩, by omega⟩
          · obtain rfl := List.mem_singleton.mp he
            exact ⟨⟨t, by simp, rfl⟩, by simp; omega⟩
        · refine ⟨by simp; omega, fun e he => ?_⟩
          rcases List.mem_append.mp he with he | he
          · obtain ⟨⟨t', ht', q⟩, q2⟩ := i2 e he
            exact ⟨⟨t', by simp [ht'], q⟩, by omega⟩
          · obtain rfl := List.mem_singleton.mp he
            exact ⟨⟨t, by simp, rfl⟩, by simp⟩
end
section
noncomputable def giv (s : Str) (i : Nat) : Option (Int × Int × Str) := match resN s i with | .inl p => some ((i : Int), p.1, p.2) | .inr _ => none
noncomputable def rowN (s : Str) (i : Nat) : Option Row := match resN s i with | .inl _ => none | .inr p => some (p.1, p.2.1, p.2.2, (i : Int))
noncomputable def givUp (s : Str) (m : Nat) : List (Int × Int × Str) := (List.range m).filterMap (giv s)
noncomputable def rowDn (s : Str) : Nat → List Row
  | 0 => []
  | m + 1 => (rowN s m).toList ++ rowDn s m
noncomputable abbrev wideS (s : Str) : Int := (s.length : Int) + 3
noncomputable def sortD (s : Str) (m : Nat) : List (Str × Int) := (srtL (keyR (wideS s)) (rowDn s m)).map fun r => (r.2.2.1, r.2.2.2)
theorem givUp_add {s : Str} {m : Nat} {f : Nat → List (Int × Int × Str)} : ∀ k : Nat, (∀ j, j < k → (giv s (m + j)).toList = f j) → givUp s (m + k) = givUp s m ++ (List.range k).flatMap f
  | 0, _ => by simp
  | k + 1, h => by
    have ih := givUp_add (f := f) k fun j hj => h j (by omega)
    have e : givUp s (m + (k + 1)) = givUp s (m + k) ++ (giv s (m + k)).toList := by
      unfold givUp
      rw [show m + (k + 1) = (m + k) + 1 by omega, List.range_succ, List.filterMap_append]
      congr 1
    rw [e, ih, h k (by omega), List.range_succ, List.flatMap_append, List.append_assoc]; simp
theorem rowDn_none {s : Str} {m : Nat} : ∀ k : Nat, (∀ j, j < k → rowN s (m + j) = none) → rowDn s (m + k) = rowDn s m
  | 0, _ => rfl
  | k + 1, h => by
    show (rowN s (m + k)).toList ++ rowDn s (m + k) = _
    rw [h k (by omega), rowDn_none k fun j hj => h j (by omega)]; rfl
theorem rowDn_some {s : Str} {m : Nat} {f : Nat → Row} : ∀ k : Nat, (∀ j, j < k → rowN s (m + j) = some (f (m + j))) → rowDn s (m + k) = ((List.range k).map fun j => f (m + k - 1 - j)) ++ rowDn s m
  | 0, _ => by simp
  | k + 1, h => by
    show (rowN s (m + k)).toList ++ rowDn s (m + k) = _
    rw [h k (by omega), rowDn_some k fun j hj => h j (by omega), List.range_succ_eq_map]
    simp only [Option.toList_some, List.map_cons, List.map_map, List.cons_append, List.nil_append]
    congr 1
    congr 1
    refine List.map_congr_left fun j hj => ?_
    have := List.mem_range.mp hj
    simp only [Function.comp]
    congr 1; omega
theorem rowDn_mem {s : Str} : ∀ {m : Nat} {r : Row}, r ∈ rowDn s m → ∃ i, i < m ∧ rowN s i = some r
  | m + 1, r, h => by
    rcases List.mem_append.mp h with h | h
    · exact ⟨m, by omega, by simpa using h⟩
    · obtain ⟨i, hi, e⟩ := rowDn_mem h
      exact ⟨i, by omega, e⟩
theorem row_key {s : Str} (G : Good s) {i : Nat} {r : Row} (hi : i < s.length - 2) (h : rowN s i = some r) : keyR (wideS s) r = keyE (wideS s) s (nextEv s i) := by
  unfold rowN resN at h
  rw [if_pos hi] at h
  split at h
  · cases h
  · rename_i p hp
    split at hp
    · cases hp
    · cases hp
      have := Option.some.inj h
      rw [← this]; rfl
theorem row_tick {s : Str} {i e : Nat} (hi : i < s.length - 2) (he : nextEv s i = e) (hc : cAt s e = 39) : rowN s i = none ∧ giv s i = some ((i : Int), ((e : Nat) : Int) + 1, Txt.slice s (some ((i : Int) + 1)) (some ((e : Nat) : Int))) := by
  unfold rowN giv resN
  rw [if_pos hi, he, if_pos hc]; exact ⟨rfl, rfl⟩
theorem row_bad {s : Str} {i e : Nat} (hi : i < s.length - 2) (he : nextEv s i = e) (hc : cAt s e ≠ 39) : giv s i = none ∧ rowN s i = some ((lineN s e : Int), (colN s e : Int), bWords (cAt s e) (lineN s e) (colN s e), (i : Int)) := by
  unfold rowN giv resN
  rw [if_pos hi, he, if_neg hc]; exact ⟨rfl, rfl⟩
theorem row_eod {s : Str} {i : Nat} (hi : ¬ i < s.length - 2) : giv s i = none ∧ rowN s i = some ((s.length : Int) + 2, 0, eodW, (i : Int)) := by
  unfold rowN giv resN
  rw [if_neg hi]; exact ⟨rfl, rfl⟩
theorem lk_bad {c : Nat} (h : c ∈ okC) (h39 : c ≠ 39) : PySem.Spec.lookup (.str ⟨#[c]⟩) namesD = if isBadC c = true then some (.str (eT c)) else none := by
  unfold okC at h
  simp only [List.mem_cons, List.not_mem_nil, or_false] at h
  rcases h with rfl | rfl | rfl | rfl | rfl | rfl | rfl
  · exact absurd rfl h39
  all_goals (with_unfolding_all rfl)
theorem due_event {s : Str} (G : Good s) {P : Nat} {st : DSt} (hP : P < s.length) : dueStep s st (P : Int) =
    if cAt s P = 39 then ⟨st.given ++ tickG s (P : Int) st.mark ((P : Int) - st.mark).toNat, st.report, (P : Int)⟩
    else if isBadC (cAt s P) = true then ⟨st.given, st.report ++ [(badAt s (eT (cAt s P)) (P : Int), rangeInts ((P : Int) - 1) (-1) ((P : Int) - 1 - (st.mark - 1)).toNat)], (P : Int)⟩ else st := by
  unfold dueStep
  rw [item_at G hP, tick_is]
  by_cases h : cAt s P = 39
  · rw [if_pos h, if_pos (by rw [h]; decide)]
  · rw [if_neg h, if_neg (by
      intro z
      have := eq_of_beq z
      have := congrArg (fun x : Str => x.cps.toList[0]?) this
      simp at this; exact h this), lk_bad (G.ok P hP).1 h]
    by_cases hb : isBadC (cAt s P) = true
    · rw [if_pos hb, if_pos hb]
    · rw [if_neg hb, if_neg hb]
end
section
theorem flat_one {α : Type} (g : Nat → α) : ∀ l : List Nat, (l.flatMap fun j => [g j]) = l.map g
  | [] => rfl
  | x :: l => by rw [List.flatMap_cons, flat_one g l]; rfl
theorem next_le {s : Str} (G : Good s) {i m : Nat} (h : i < m) (hm : m ≤ s.length - 2) (he : isEv s m = true) : nextEv s i ≤ m := by
  obtain ⟨n1, n2, n3, n4⟩ := nextEv_spec G (i := i) (by omega)
  rcases Nat.lt_or_ge m (nextEv s i) with q | q
  · have := n4 m h q
    rw [this] at he; cases he
  · exact q
theorem bad_words {s : Str} (G : Good s) {e : Nat} (h1 : 1 ≤ e) (he : e < s.length) : badAt s (eT (cAt s e)) (e : Int) = bWords (cAt s e) (lineN s e) (colN s e) := by
  obtain ⟨a, b⟩ := split_at s e h1 (Nat.le_of_lt he)
  unfold badAt bWords
  rw [a]
  congr 1
  omega
theorem dInv {s : Str} (G : Good s) : ∀ P : Nat, P ≤ s.length - 1 → ∃ m : Nat, (dueRun s P).mark = (m : Int) ∧ m ≤ P ∧ (m < P ∨ P = 0) ∧ (isEv s m = true ∨ m = 0) ∧ (∀ j, m < j → j < P → isEv s j = false) ∧
    (dueRun s P).given = givUp s m ∧ (dueRun s P).report = gathAll (sortD s m) ∧ ∀ e ∈ (dueRun s P).report, ∃ b, b ≤ m ∧ isBadC (cAt s b) = true ∧ e.1 = bWords (cAt s b) (lineN s b) (colN s b)
  | 0, _ => ⟨0, rfl, by omega, .inr rfl, .inr rfl, fun j h h' => by omega, rfl, rfl, fun e he => by simp [dueRun] at he⟩
  | P + 1, hP => by
    obtain ⟨m, h1, h2, h3, h4, h5, h6, h7, h8⟩ := dInv G P (by omega)
    have hn := G.hn
    have hP' : P < s.length := by omega
    have hPl : P ≤ s.length - 2 := by omega
    rw [dueRun_succ, due_event G hP', h1]
    have next : isEv s P = true → ∀ i, m ≤ i → i < P → nextEv s i = P := fun he i hi hi' => nextEv_is hP' hi' he fun j hj hj' => h5 j (by omega) hj'
    by_cases hc : cAt s P = 39
    · rw [if_pos hc]
      have hev : isEv s P = true := by unfold isEv; rw [hc]; rfl
      have hP0 : P ≠ 0 := fun z => by rw [z, G.zero] at hc; cases hc
      have hmP : m < P := by omega
      refine ⟨P, rfl, by omega, .inl (by omega), .inl hev, fun j hj hj' => by omega, ?_, ?_, ?_⟩
      · dsimp only
        have := givUp_add (s := s) (m := m) (f := fun j => [(((m + j : Nat) : Int), (P : Int) + 1, Txt.slice s (some (((m + j : Nat) : Int) + 1)) (some (P : Int)))]) (P - m) fun j hj => by
          rw [(row_tick (by omega) (next hev (m + j) (by omega) (by omega)) hc).2]; rfl
        rw [show m + (P - m) = P by omega] at this
        rw [this, h6]
        congr 1
        unfold tickG
        rw [show ((P : Int) - (m : Int)).toNat = P - m by omega, flat_one]
        refine List.map_congr_left fun j _ => ?_
        rw [Int.natCast_add]
      · dsimp only
        have := rowDn_none (s := s) (m := m) (P - m) fun j hj => (row_tick (by omega) (next hev (m + j) (by omega) (by omega)) hc).1
        rw [show m + (P - m) = P by omega] at this
        unfold sortD at h7 ⊢
        rw [this]; exact h7
      · intro e he
        obtain ⟨b, b1, b2⟩ := h8 e he
        exact ⟨b, by omega, b2⟩
    · rw [if_neg hc]
      by_cases hb : isBadC (cAt s P) = true
      · rw [if_pos hb]
        have hev : isEv s P = true := by unfold isEv; rw [hb]; simp
        have hP0 : P ≠ 0 := fun z => by rw [z, G.zero] at hb; cases hb
        have hmP : m < P := by omega
        have hkey : ∀ r ∈ rowDn s m, keyR (wideS s) r < keyE (wideS s) s P := fun r hr => by
          obtain ⟨i, hi, e⟩ := rowDn_mem hr
          rw [row_key G (by omega) e]
          have hm0 : isEv s m = true := h4.resolve_right (by omega)
          have := next_le G hi (by omega) hm0
          exact keyE_lt (by omega) (by unfold wideS; omega)
        have hbw := bad_words G (e := P) (by omega) hP'
        have hrow := rowDn_some (s := s) (m := m) (f := fun i => ((lineN s P : Int), (colN s P : Int), bWords (cAt s P) (lineN s P) (colN s P), (i : Int))) (P - m) fun j hj => (row_bad (by omega) (next hev (m + j) (by omega) (by omega)) hc).2
        rw [show m + (P - m) = P by omega] at hrow
        have hL : ∀ b, b < s.length → lineN s b < 64 := fun b hb => by have := lineN_le s b; omega
        have hC : ∀ b, b < s.length → colN s b < 64 := fun b hb => by have := colN_le s b; omega
        have hsort : gathAll (sortD s P) = gathAll (sortD s m) ++ [(bWords (cAt s P) (lineN s P) (colN s P), rangeInts ((P : Int) - 1) (-1) ((P : Int) - 1 - ((m : Int) - 1)).toNat)] := by
          have e1 : sortD s P = sortD s m ++ (rangeInts ((P : Int) - 1) (-1) (P - m)).map fun k => (bWords (cAt s P) (lineN s P) (colN s P), k) := by
            unfold sortD
            rw [hrow, srtL_grp (keyR (wideS s)) (keyE (wideS s) s P) _ _ (fun x hx => by obtain ⟨j, _, rfl⟩ := List.mem_map.mp hx; rfl) hkey, List.map_append]
            congr 1
            unfold rangeInts
            rw [List.map_map, List.map_map]
            refine List.map_congr_left fun j hj => ?_
            have := List.mem_range.mp hj
            simp only [Function.comp]
            congr 1; omega
          have e2 : rangeInts ((P : Int) - 1) (-1) (P - m) = ((P : Int) - 1) :: (List.range (P - m - 1)).map fun j => (P : Int) - 1 + ((j + 1 : Nat) : Int) * (-1) := by
            unfold rangeInts
            have : P - m = (P - m - 1) + 1 := by omega
            conv => lhs; rw [this]
            rw [List.range_succ_eq_map, List.map_cons, List.map_map]
            simp
          rw [show ((P : Int) - 1 - ((m : Int) - 1)).toNat = P - m by omega, e1, e2]
          refine gath_grp _ _ _ _ fun e he => ?_
          intro q
          rw [← h7] at he
          obtain ⟨b, b1, b2, b3⟩ := h8 e he
          rw [b3] at q
          obtain ⟨q1, q2⟩ := bW_inj b2 hb (hL b (by omega)) (hC b (by omega)) (hL P hP') (hC P hP') q
          have := keyE_lt (s := s) (wide := wideS s) (e := b) (e' := P) (by omega) (by unfold wideS; omega)
          unfold keyE at this
          rw [q1, q2] at this
          exact Int.lt_irrefl _ this
        refine ⟨P, rfl, by omega, .inl (by omega), .inl hev, fun j hj hj' => by omega, ?_, ?_, ?_⟩
        · dsimp only
          have := givUp_add (s := s) (m := m) (f := fun _ => []) (P - m) fun j hj => by
            rw [(row_bad (by omega) (next hev (m + j) (by omega) (by omega)) hc).1]; rfl
          rw [show m + (P - m) = P by omega] at this
          rw [this, h6]; simp
        · dsimp only
          rw [hsort, hbw, h7]
        · intro e he
          dsimp only at he
          rcases List.mem_append.mp he with he | he
          · obtain ⟨b, b1, b2⟩ := h8 e he
            exact ⟨b, by omega, b2⟩
          · obtain rfl := List.mem_singleton.mp he
            exact ⟨P, by omega, hb, hbw⟩
      · rw [if_neg hb]
        have hev : isEv s P = false := by
          unfold isEv
          rw [Bool.not_eq_true] at hb
          rw [hb]; simpa using hc
        refine ⟨m, h1, by omega, .inl (by omega), h4, fun j hj hj' => ?_, h6, h7, h8⟩
        rcases Nat.lt_or_ge j P with q | q
        · exact h5 j hj q
        · have : j = P := by omega
          rw [this]; exact hev
end
section
noncomputable def resS (s : Str) (i : Int) : Res := resN s i.toNat
noncomputable abbrev lastS (s : Str) : Int := ((s.length - 2 : Nat) : Int)
theorem rows_split {s : Str} : ∀ k : Nat, k ≤ s.length + 1 → rowDn s (s.length + 1) = refsOf (resS s) s.length k ++ rowDn s (s.length + 1 - k)
  | 0, _ => by simp [refsOf]
  | k + 1, h => by
    rw [rows_split k (by omega), refsOf_succ, show s.length + 1 - k = (s.length + 1 - (k + 1)) + 1 by omega, List.append_assoc]
    congr 1
    show (rowN s (s.length + 1 - (k + 1))).toList ++ _ = _
    congr 1
    unfold rowN resS
    rw [show ((s.length : Int) - (k : Int)).toNat = s.length + 1 - (k + 1) by omega]
    cases resN s (s.length + 1 - (k + 1)) with
    | inl p => rfl
    | inr p => 
      dsimp only
      rw [show ((s.length : Int) - (k : Int)) = ((s.length + 1 - (k + 1) : Nat) : Int) by omega]; rfl
theorem given_split {s : Str} : ∀ k : Nat, k ≤ s.length + 1 → givUp s (s.length + 1) = givUp s (s.length + 1 - k) ++ (givenOf (resS s) s.length k).reverse
  | 0, _ => by simp [givenOf]
  | k + 1, h => by
    rw [given_split k (by omega), givenOf_succ, List.reverse_append, show s.length + 1 - k = (s.length + 1 - (k + 1)) + 1 by omega, ← List.append_assoc]
    congr 1
    unfold givUp
    rw [List.range_succ, List.filterMap_append]
    congr 1
    unfold resS
    rw [show ((s.length : Int) - (k : Int)).toNat = s.length + 1 - (k + 1) by omega]
    have hg : giv s (s.length + 1 - (k + 1)) = match resN s (s.length + 1 - (k + 1)) with | .inl p => some (((s.length + 1 - (k + 1) : Nat) : Int), p.1, p.2) | .inr _ => none := rfl
    simp only [List.filterMap_cons, List.filterMap_nil, hg]
    cases resN s (s.length + 1 - (k + 1)) with
    | inl p => 
      dsimp only
      rw [show ((s.length : Int) - (k : Int)) = ((s.length + 1 - (k + 1) : Nat) : Int) by omega]; rfl
    | inr p => rfl
theorem rows_eq (s : Str) : rowsOf s (resS s) = rowDn s (s.length + 1) := by
  have := rows_split (s := s) (s.length + 1) (by omega)
  rw [this]; simp [rowDn]
theorem given_eq (s : Str) : (givenOf (resS s) s.length (s.length + 1)).reverse = givUp s (s.length + 1) := by
  have := given_split (s := s) (s.length + 1) (by omega)
  rw [this]; simp [givUp]
theorem row_cases {s : Str} (G : Good s) {i : Nat} {r : Row} (h : rowN s i = some r) :
    (i < s.length - 2 ∧ keyR (wideS s) r = keyE (wideS s) s (nextEv s i) ∧ nextEv s i ≤ s.length - 2 ∧ isBadC (cAt s (nextEv s i)) = true ∧ r = ((lineN s (nextEv s i) : Int), (colN s (nextEv s i) : Int), bWords (cAt s (nextEv s i)) (lineN s (nextEv s i)) (colN s (nextEv s i)), (i : Int))) ∨
    (s.length - 2 ≤ i ∧ r = ((s.length : Int) + 2, 0, eodW, (i : Int))) := by
  by_cases hi : i < s.length - 2
  · obtain ⟨n1, n2, n3, n4⟩ := nextEv_spec G hi
    by_cases hc : cAt s (nextEv s i) = 39
    · rw [(row_tick hi rfl hc).1] at h; cases h
    · have := (row_bad hi rfl hc).2
      exact .inl ⟨hi, row_key G hi h, n2, isEv_bad n3 hc, (Option.some.inj (h.symm.trans this))⟩
  · exact .inr ⟨by omega, Option.some.inj (h.symm.trans (row_eod hi).2)⟩
theorem eod_key {s : Str} (G : Good s) {e : Nat} (he : e ≤ s.length - 2) (i : Int) : keyE (wideS s) s e < keyR (wideS s) ((s.length : Int) + 2, 0, eodW, i) := by
  have h1 := lineN_le s e
  have h2 := colN_le s e
  have h6 := G.h6
  unfold keyE keyR wideS
  dsimp only
  have hm : ((lineN s e : Nat) : Int) + 1 ≤ (s.length : Int) + 2 := by omega
  have hm2 : (((lineN s e : Nat) : Int) + 1) * ((s.length : Int) + 3) ≤ ((s.length : Int) + 2) * ((s.length : Int) + 3) := Int.mul_le_mul_of_nonneg_right hm (by omega)
  rw [Int.add_mul] at hm2
  omega
theorem keyE_le {wide : Int} {s : Str} {e e' : Nat} (h : e ≤ e') (hw : (e' : Int) + 1 ≤ wide) : keyE wide s e ≤ keyE wide s e' := by
  rcases Nat.lt_or_ge e e' with q | q
  · exact Int.le_of_lt (keyE_lt q hw)
  · have : e = e' := by omega
    rw [this]; exact Int.le_refl _
theorem next_mono {s : Str} (G : Good s) {i m : Nat} (h : i < m) (hm : m < s.length - 2) : nextEv s i ≤ nextEv s m := by
  obtain ⟨a1, a2, a3, a4⟩ := nextEv_spec G hm
  exact next_le G (by omega) a2 a3
theorem rows_dsc {s : Str} (G : Good s) : ∀ m : Nat, (rowDn s m).Pairwise fun a b => keyR (wideS s) b ≤ keyR (wideS s) a
  | 0 => List.Pairwise.nil
  | m + 1 => by
    show ((rowN s m).toList ++ rowDn s m).Pairwise _
    rw [List.pairwise_append]
    refine ⟨?_, rows_dsc G m, fun a ha b hb => ?_⟩
    · cases rowN s m <;> simp
    · have ha' : rowN s m = some a := by simpa using ha
      obtain ⟨i, hi, hb'⟩ := rowDn_mem hb
      have h6 := G.h6
      rcases row_cases G ha' with ⟨q1, q2, q3, _⟩ | ⟨q1, q2⟩
      · rcases row_cases G hb' with ⟨p1, p2, p3, _⟩ | ⟨p1, p2⟩
        · rw [q2, p2]; exact keyE_le (next_mono G hi q1) (by unfold wideS; omega)
        · omega
      · rcases row_cases G hb' with ⟨p1, p2, p3, _⟩ | ⟨p1, p2⟩
        · rw [p2, q2]; exact Int.le_of_lt (eod_key G p3 _)
        · rw [p2, q2]; exact Int.le_refl _
theorem eodW_ne {c L C : Nat} : bWords c L C ≠ eodW := by
  intro h
  have := congrArg (fun x : Str => x.cps.toList[0]?) h
  simp only [bW_list] at this
  rw [show (eodW.cps.toList)[0]? = some 69 by decide +kernel] at this
  have e : ((lFIC ++ (eT c).cps.toList) ++ lAt ++ (lLine ++ (dl L ++ (lCol ++ (dl C ++ [41])))))[0]? = some 70 := by
    rw [List.append_assoc, List.append_assoc, List.getElem?_append_left (by decide +kernel)]; decide +kernel
  rw [e] at this; cases this
theorem final_report {s : Str} (G : Good s) : (givenOf (resS s) s.length (s.length + 1)).reverse = (dueRun s (lastS s + 1).toNat).given ∧
    gathAll (sortedR s (resS s)) = (dueRun s (lastS s + 1).toNat).report ++ [(eodW, rangeInts s.length (-1) (s.length - (lastS s - 1)).toNat)] := by
  have h6 := G.h6
  have hn := G.hn
  obtain ⟨m, h1, h2, h3, h4, h5, h6', h7, h8⟩ := dInv G (s.length - 1) (Nat.le_refl _)
  have hm : m = s.length - 2 := by
    rcases Nat.lt_or_ge m (s.length - 2) with q | q
    · have := h5 (s.length - 2) q (by omega)
      unfold isEv at this
      rw [G.tick] at this; cases this
    · omega
  subst hm
  rw [show (lastS s + 1).toNat = s.length - 1 by unfold lastS; omega]
  refine ⟨?_, ?_⟩
  · rw [given_eq, h6']
    have := givUp_add (s := s) (m := s.length - 2) (f := fun _ => []) 3 fun j hj => by rw [(row_eod (by omega)).1]; rfl
    rw [show s.length - 2 + 3 = s.length + 1 by omega] at this
    rw [this]; simp
  · have e0 : sortedR s (resS s) = sortD s (s.length + 1) := by unfold sortedR sortD; rw [rows_eq]
    have hrow := rowDn_some (s := s) (m := s.length - 2) (f := fun i => ((s.length : Int) + 2, 0, eodW, (i : Int))) 3 fun j hj => (row_eod (by omega)).2
    rw [show s.length - 2 + 3 = s.length + 1 by omega] at hrow
    have e1 : sortD s (s.length + 1) = sortD s (s.length - 2) ++ ((s.length : Int) :: [(s.length : Int) - 1, (s.length : Int) - 2]).map fun k => (eodW, k) := by
      unfold sortD
      rw [hrow, srtL_grp (keyR (wideS s)) (keyR (wideS s) ((s.length : Int) + 2, 0, eodW, 0)) _ _ (fun x hx => by obtain ⟨j, _, rfl⟩ := List.mem_map.mp hx; rfl) (fun r hr => by
        obtain ⟨i, hi, hr'⟩ := rowDn_mem hr
        rcases row_cases G hr' with ⟨p1, p2, p3, _⟩ | ⟨p1, p2⟩
        · rw [p2]; exact eod_key G p3 _
        · omega), List.map_append]
      congr 1
      simp only [List.map_map, List.map_cons, List.map_nil]
      show [_, _, _] = [_, _, _]
      simp only [Function.comp]
      rw [show ((s.length + 1 - 1 - 0 : Nat) : Int) = (s.length : Int) by omega, show ((s.length + 1 - 1 - 1 : Nat) : Int) = (s.length : Int) - 1 by omega, show ((s.length + 1 - 1 - 2 : Nat) : Int) = (s.length : Int) - 2 by omega]
    rw [e0, e1, gath_grp _ _ _ _ (fun e he q => by
      rw [← h7] at he
      obtain ⟨b, _, _, b3⟩ := h8 e he
      exact eodW_ne (b3.symm.trans q)), h7]
    congr 3
    rw [show ((s.length : Int) - (lastS s - 1)).toNat = 3 by unfold lastS; omega]
    show _ = [_, _, _]
    simp
    omega
theorem words_ok {s : Str} (G : Good s) {i : Nat} {r : Row} (h : rowN s i = some r) : PyData.strOk r.2.2.1 = true := by
  have hn := G.hn
  rcases row_cases G h with ⟨q1, q2, q3, q4, q5⟩ | ⟨q1, q2⟩
  · rw [q5]
    have := lineN_le s (nextEv s i)
    have := colN_le s (nextEv s i)
    exact bW_ok q4 (by omega) (by omega)
  · rw [q2]; show PyData.strOk eodW = true; decide +kernel
end
section
theorem give_ok {s : Str} (G : Good s) {i : Nat} {g : Int × Int × Str} (h : giv s i = some g) : PyData.strOk g.2.2 = true := by
  have h6 := G.h6
  by_cases hi : i < s.length - 2
  · obtain ⟨n1, n2, n3, n4⟩ := nextEv_spec G hi
    by_cases hc : cAt s (nextEv s i) = 39
    · rw [(row_tick hi rfl hc).2] at h
      cases h
      dsimp only
      unfold PyData.strOk
      rw [← Array.all_toList, List.all_eq_true]
      intro c hc'
      obtain ⟨j, hj⟩ := List.getElem?_of_mem hc'
      have := slice_get (s := s) (a := i + 1) (b := nextEv s i) (j := j) (by omega) (by omega)
      simp only [Int.natCast_add, Int.cast_ofNat_Int] at this
      rw [this] at hj
      split at hj
      · rename_i hjb
        obtain ⟨o1, o2⟩ := G.ok (i + 1 + j) (by omega)
        rw [o2] at hj
        have e : cAt s (i + 1 + j) = c := Option.some.inj hj
        rw [e] at o1
        clear hc' hj e this
        revert o1; revert c; decide
      · cases hj
    · rw [(row_bad hi rfl hc).1] at h; cases h
  · rw [(row_eod hi).1] at h; cases h
theorem law_pure {s : Str} (G : Good s) : LawPure SSx s (resS s) (lastS s) := by
  have h6 := G.h6
  have hn := G.hn
  have hf := final_report G
  have hsr : ∀ t ∈ sortedR s (resS s), PyData.strOk t.1 = true := fun t ht => by
    unfold sortedR at ht
    obtain ⟨r, hr, rfl⟩ := List.mem_map.mp ht
    have := (srtL_perm _ _).mem_iff.mp hr
    rw [rows_eq] at this
    obtain ⟨i, _, hi⟩ := rowDn_mem this
    exact words_ok G hi
  have hsl : (sortedR s (resS s)).length ≤ s.length + 1 := by
    unfold sortedR
    rw [List.length_map, (srtL_perm _ _).length_eq]
    exact refsOf_len _ _ _
  have tk : ∀ j : Nat, j < s.length → ((Txt.item s (j : Int) == Str.ofString "'") = true ↔ cAt s j = 39) := fun j hj => by
    rw [item_at G hj, tick_is]
    constructor
    · intro z
      have := congrArg (fun x : Str => x.cps.toList[0]?) (eq_of_beq z)
      simpa using this
    · intro z; rw [z]; decide
  refine { len := by omega, pres := fun i h0 hi => ?_, lst := ?_, mx := fun a ha => ?_, rng := fun r hr => ?_, dsc := ?_, ok := fun i _ => ?_, gv := hf.1, rep := hf.2, ok9 := ?_ }
  · have := pres_at G i.toNat (by omega)
    rw [show ((i.toNat : Nat) : Int) = i by omega] at this
    exact this
  · unfold ticks
    refine List.mem_map.mpr ⟨s.length - 2, List.mem_filter.mpr ⟨List.mem_range.mpr (by omega), ?_⟩, rfl⟩
    exact (tk _ (by omega)).mpr G.tick
  · unfold ticks at ha
    obtain ⟨j, hj, rfl⟩ := List.mem_map.mp ha
    obtain ⟨j1, j2⟩ := List.mem_filter.mp hj
    have j1 := List.mem_range.mp j1
    have := (tk j j1).mp j2
    have : j ≠ s.length - 1 := fun z => by rw [z, G.lastc] at this; cases this
    unfold lastS; omega
  · rw [rows_eq] at hr
    obtain ⟨i, _, hi⟩ := rowDn_mem hr
    rcases row_cases G hi with ⟨q1, q2, q3, q4, q5⟩ | ⟨q1, q2⟩
    · rw [q5]
      have := lineN_le s (nextEv s i)
      have := colN_le s (nextEv s i)
      dsimp only
      omega
    · rw [q2]; dsimp only; omega
  · rw [rows_eq]; exact rows_dsc G _
  · obtain ⟨g1, g2⟩ := gath_sub ((sortedR s (resS s)).take i)
    have hl : ((sortedR s (resS s)).take i).length ≤ s.length + 1 := Nat.le_trans (by simp; omega) hsl
    refine ⟨by omega, fun e he => ?_⟩
    obtain ⟨⟨t, ht, e1⟩, e2⟩ := g2 e he
    exact ⟨by rw [← e1]; exact hsr t (List.mem_of_mem_take ht), by omega⟩
  · have hg : ∀ g ∈ givUp s (s.length + 1), PyData.strOk g.2.2 = true := fun g hg => by
      obtain ⟨i, _, hi⟩ := List.mem_filterMap.mp hg
      exact give_ok G hi
    have hr : ∀ e ∈ gathAll (sortedR s (resS s)), PyData.strOk e.1 = true := fun e he => by
      obtain ⟨⟨t, ht, e1⟩, _⟩ := (gath_sub (sortedR s (resS s))).2 e he
      rw [← e1]; exact hsr t ht
    rw [given_eq]
    generalize givUp s (s.length + 1) = gs at hg
    generalize gathAll (sortedR s (resS s)) = rs at hr
    simp only [kqdOk, List.all_cons, List.all_nil, Bool.and_true, Bool.and_eq_true, gvD, repD, List.all_map, List.all_eq_true, Function.comp]
    exact ⟨fun g h => ⟨trivial, trivial, hg g h⟩, fun e h => ⟨hr e h, fun _ _ => trivial⟩⟩
theorem sgn_ok (k : Int) : ∃ c ∈ okC, sgn k = ⟨#[c]⟩ := by
  have h : ∀ j : Fin 8, ∃ c ∈ okC, Txt.item sgnT (j.val : Int) = ⟨#[c]⟩ := by decide +kernel
  have h0 : 0 ≤ k.fmod 8 := Int.fmod_nonneg_of_pos k (by omega)
  have h1 : k.fmod 8 < 8 := Int.fmod_lt_of_pos k (by omega)
  have := h ⟨(k.fmod 8).toNat, by omega⟩
  rw [show (((⟨(k.fmod 8).toNat, by omega⟩ : Fin 8).val : Nat) : Int) = k.fmod 8 by simp; omega] at this
  exact this
theorem join_ok : ∀ l : List Str, (∀ a ∈ l, ∃ c ∈ okC, a = ⟨#[c]⟩) → ∀ c ∈ (Str.join (Str.ofString "") l).cps.toList, c ∈ okC
  | [], _ => fun c hc => by revert hc; show c ∈ ([] : List Nat) → _; intro hc; cases hc
  | [x], h => fun c hc => by
    obtain ⟨d, hd, rfl⟩ := h x (.head _)
    have : c ∈ [d] := hc
    rw [List.mem_singleton.mp this]; exact hd
  | x :: y :: r, h => fun c hc => by
    have : c ∈ (x ++ Str.ofString "" ++ Str.join (Str.ofString "") (y :: r)).cps.toList := hc
    rw [Str.cps_append, Str.cps_append, Array.toList_append, Array.toList_append] at this
    rw [show (Str.ofString "").cps.toList = [] by decide, List.append_nil] at this
    rcases List.mem_append.mp this with q | q
    · obtain ⟨d, hd, rfl⟩ := h x (.head _)
      have : c ∈ [d] := q
      rw [List.mem_singleton.mp this]; exact hd
    · exact join_ok (y :: r) (fun a ha => h a (.tail _ ha)) c q
theorem good_src (ns : List Int) : Good (srcOf ns) := by
  have hm : ∀ c ∈ (midOf ns).cps.toList, c ∈ okC := by
    unfold midOf
    show ∀ c ∈ (Builtin.Str.glued _ _).cps.toList, c ∈ okC
    rw [StrLaws.glued_eq_join]
    exact join_ok _ fun a ha => by obtain ⟨k, _, rfl⟩ := List.mem_map.mp ha; exact sgn_ok k
  have hl := midOf_len ns
  have hl2 : (ns.take 12).length ≤ 12 := by simp; omega
  have hml : (midOf ns).cps.toList.length = (midOf ns).length := by simp [Str.length]
  have hs : (srcOf ns).cps.toList = [97, 10] ++ ((midOf ns).cps.toList ++ [127, 97, 39, 10]) := by
    unfold srcOf
    rw [Str.cps_append, Str.cps_append, Array.toList_append, Array.toList_append, show (Str.ofString "a\n").cps.toList = [97, 10] by decide, show (Str.ofString "\x7fa'\n").cps.toList = [127, 97, 39, 10] by decide, List.append_assoc]
  generalize (midOf ns).cps.toList = md at hm hml hs
  have hn : (srcOf ns).length = md.length + 6 := by
    have : (srcOf ns).length = (srcOf ns).cps.toList.length := by simp [Str.length]
    rw [this, hs]; simp
  have get : ∀ i, i < (srcOf ns).length → (srcOf ns).cps.toList[i]? = some (cAt (srcOf ns) i) := fun i hi => by
    have : i < (srcOf ns).cps.toList.length := by rw [hs]; simp; omega
    unfold cAt
    rw [List.getElem?_eq_getElem this]; rfl
  refine { hn := by omega, h6 := by omega, ok := fun i hi => ⟨?_, get i hi⟩, zero := ?_, tick := ?_, lastc := ?_ }
  · have := List.mem_of_getElem? (get i hi)
    rw [hs] at this
    rcases List.mem_append.mp this with q | q
    · revert q; generalize cAt (srcOf ns) i = c; intro q
      simp at q; rcases q with rfl | rfl <;> decide
    · rcases List.mem_append.mp q with q | q
      · exact hm _ q
      · revert q; generalize cAt (srcOf ns) i = c; intro q
        simp at q; rcases q with rfl | rfl | rfl | rfl <;> decide
  · unfold cAt; rw [hs]; rfl
  · unfold cAt
    rw [hs, hn, List.getElem?_append_right (by simp), List.getElem?_append_right (by simp)]
    have : md.length + 6 - 2 - [97, 10].length - md.length = 2 := by simp
    rw [this]; rfl
  · unfold cAt
    rw [hs, hn, List.getElem?_append_right (by simp), List.getElem?_append_right (by simp)]
    have : md.length + 6 - 1 - [97, 10].length - md.length = 3 := by simp
    rw [this]; rfl
end
section
open PySem.Builtin
/-- what one node of a tree asks for -/
inductive SO (α : Type) where
  | go (p : Pos) (t : Sem α) (s : Shared)
  | done (a : α)
  | err (e : Value)
  | call (c : Code) (h : Option Value) (g : Bool) (l : List Value) (k : Result → Sem α)
  | wake (g : Nat) (r : Resume) (l : List Value) (k : GenResult → Sem α)
  | yield (v : Value) (g : Bool) (l : List Value) (k : Resume → Sem α)
  | stuck
noncomputable def noSet (o : Obj) : Bool := match o.data with | .set .. => false | _ => true
noncomputable def isFsCls (v : Value) : Bool := match v with | .type n => n == "frozenset" | _ => false
noncomputable def newFs (o : Obj) : Bool := match o.data with | .set es _ t => isFsCls o.cls && o.dict.isNone && o.slots.size == 0 && es.size == 0 && t.fits 0 | _ => false
noncomputable def so {α : Type} (S : Setting) (Γ : Ctx) (p : Pos) (s : Shared) : Sem α → SO α
  | .pure a => .done a
  | .raise e => .err e
  | .rule _ k => .go p (k ()) s
  | .at p' k => .go p' (k ()) s
  | .load a _ k => match s.heap.get? a with | some o => .go p (k o) s | none => .stuck
  | .update a _ f k => match s.heap.get? a with
    | some o => match noSet o && noSet (f o) with | true => .go p (k ()) { s with heap := s.heap.update a f } | false => .stuck
    | none => .stuck
  | .loadIfAlive a k => .go p (k (s.heap.get? a)) s
  | .point _ k => .go p (k ()) s
  | .alloc o k => match noSet o || newFs o with | true => .go p (k s.heap.objs.size) { s with heap := s.heap.push o } | false => .stuck
  | .fresh k => .go p (k s.toks) { s with toks := s.toks + 1 }
  | .ask k => .go p (k S) s
  | .handled own k => .go p (k (if own then Γ.own else Γ.handled)) s
  | .genState g k => match s.gens[g]? with | some st => .go p (k st.seen) s | none => .stuck
  | .newGen c k => .go p (k s.gens.size) { s with gens := s.gens.push (.fresh c) }
  | .stack k => .go p (k ((Γ.code, p) :: Γ.below)) s
  | .thread k => .go p (k 0) s
  | .call c h g l k => .call c h g l k
  | .resume g r l k => .wake g r l k
  | .yield v g l k => .yield v g l k
  | _ => .stuck
noncomputable abbrev SetSt := Array (Int × Value) × Nat × SetTable
noncomputable abbrev Trace := List (Addr × Str)
noncomputable def elemsAt (a : Addr) (tr : Trace) : List Str := (tr.filter fun x => x.1 == a).map (·.2)
noncomputable def fsObj (st : SetSt) : Obj := ⟨.type "frozenset", none, .set st.1 st.2.1 st.2.2, #[]⟩
noncomputable def setAt (s : Shared) (a : Addr) : Option SetSt := match s.heap.get? a with
  | some o => match o.data with | .set es n t => some (es, n, t) | _ => none
  | none => none
inductive Task where
  | fin (Γ : Ctx) (p : Pos) (t : Sem Fin)
  | opt (Γ : Ctx) (p : Pos) (t : Sem (Option Value))
  | code (Γ : Ctx) (p : Pos)
  | wake (Γ : Ctx) (p : Pos) (g : Nat) (r : Resume)
  | frames (Γ : Ctx) (p : Pos) (t : Sem Fin) (fs : List Frame)
  | loop (Γ : Ctx) (p : Pos) (a : Addr) (it : Value)
inductive Out where
  | fin (e : End)
  | opt (o : Option Value) (p : Pos)
  | ret (r : Result)
  | woke (g : GenResult)
structure Ops where
  pos : Ctx → Pos → Shared → Addr → Str → Tok → Pos
  add : SetSt → Str → Tok → SetSt
  or : SetSt → SetSt → SetSt
  sub : SetSt → SetSt → SetSt
noncomputable def special (O : Ops) (c : Code) (s : Shared) (tr : Trace) : Option (Option (Result × Shared × Trace)) := match c with
  | .builtin nm args => match nm == "frozenset.__or__", nm == "frozenset.__sub__" with
    | true, _ => match args with
      | ⟨[.ref l, .ref r], []⟩ => match setAt s l, setAt s r with
        | some sl, some sr => match (elemsAt l tr).length == 32 && (elemsAt r tr).length == 1 && (elemsAt r tr).all (fun x => !(elemsAt l tr).contains x) with
          | true => some (some (.ok (.ret (.ref s.heap.objs.size)), { s with heap := s.heap.push (fsObj (O.or sl sr)) }, (elemsAt l tr ++ elemsAt r tr).map (fun x => (s.heap.objs.size, x)) ++ tr))
          | false => some none
        | _, _ => some none
      | _ => some none
    | false, true => match args with
      | ⟨[.ref l, .ref r], []⟩ => match setAt s l, setAt s r with
        | some sl, some sr => match (elemsAt l tr).length == 33 && (elemsAt r tr).length == 1 && (elemsAt r tr).all (fun x => (elemsAt l tr).contains x) with
          | true => some (some (.ok (.ret (.ref s.heap.objs.size)), { s with heap := s.heap.push (fsObj (O.sub sl sr)) }, ((elemsAt l tr).filter fun x => !(elemsAt r tr).contains x).map (fun x => (s.heap.objs.size, x)) ++ tr))
          | false => some none
        | _, _ => some none
      | _ => some none
    | false, false => none
  | _ => none
noncomputable def isLoop (c : Code) : Option (Addr × Value) := match c with
  | .builtin nm args => match nm == "set.update.loop" with
    | true => match args with | ⟨[.ref a, it], []⟩ => some (a, it) | _ => none
    | false => none
  | _ => none
noncomputable def ev (den : Code → Sem Fin) (S : Setting) (O : Ops) : Nat → Task → Shared → Trace → Option (Out × Shared × Trace)
  | 0, _, _, _ => none
  | n + 1, .fin Γ p t, s, tr => match so S Γ p s t with
    | .go p' t' s' => ev den S O n (.fin Γ p' t') s' tr
    | .done (.done f) => some (.fin (.ret (.ok f)), s, tr)
    | .done (.again c) => match c.quiet with
      | true => match ev den S O n (.code (Γ.goto c) p) s tr with
        | some (.ret r, s', tr') => some (.fin (.ret r), s', tr')
        | some (.fin e, s', tr') => some (.fin e, s', tr')
        | _ => none
      | false => none
    | .err e => some (.fin (.ret (.error e)), s, tr)
    | .call c h g l k => match ev den S O n (.code (Γ.enter c h p) p) s tr with
      | some (.ret r, s', tr') => ev den S O n (.fin Γ p (k r)) s' tr'
      | some (.fin (.susp v g₀ l₀ k₀ c₀ p₀ fs), s', tr') => some (.fin (.susp v g₀ l₀ k₀ c₀ p₀ (fs ++ [.ret k h g l Γ.code p []])), s', tr')
      | _ => none
    | .wake g r _ k => match ev den S O n (.wake Γ p g r) s tr with
      | some (.woke x, s', tr') => ev den S O n (.fin Γ p (k x)) s' tr'
      | _ => none
    | .yield v g l k => some (.fin (.susp v g l k Γ.code p []), s, tr)
    | .stuck => none
  | n + 1, .opt Γ p t, s, tr => match so S Γ p s t with
    | .go p' t' s' => ev den S O n (.opt Γ p' t') s' tr
    | .done o => some (.opt o p, s, tr)
    | .call c h _ _ k => match ev den S O n (.code (Γ.enter c h p) p) s tr with
      | some (.ret r, s', tr') => ev den S O n (.opt Γ p (k r)) s' tr'
      | _ => none
    | .wake g r _ k => match ev den S O n (.wake Γ p g r) s tr with
      | some (.woke x, s', tr') => ev den S O n (.opt Γ p (k x)) s' tr'
      | _ => none
    | _ => none
  | n + 1, .code Γ p, s, tr => match isLoop Γ.code with
    | some (a, it) => ev den S O n (.loop Γ p a it) s tr
    | none => match special O Γ.code s tr with
      | some (some (r, s', tr')) => some (.ret r, s', tr')
      | some none => none
      | none => match ev den S O n (.fin Γ p (den Γ.code)) s tr with
        | some (.fin (.ret r), s', tr') => some (.ret r, s', tr')
        | some (.fin e, s', tr') => some (.fin e, s', tr')
        | _ => none
  | n + 1, .loop Γ p a it, s, tr => match ev den S O n (.opt Γ p (pyNext it)) s tr with
    | some (.opt none _, s', tr') => some (.ret (.ok (.ret .none)), s', tr')
    | some (.opt (some (.str x t)) p', s', tr') => match (elemsAt a tr').contains x || !decide ((elemsAt a tr').length < 100), setAt s' a with
      | false, some st => ev den S O n (.loop Γ (O.pos Γ p' s' a x t) a it) { s' with heap := s'.heap.update a (fun _ => fsObj (O.add st x t)), toks := s'.toks + 1 } ((a, x) :: tr')
      | _, _ => none
    | _ => none
  | n + 1, .wake Γ p g r, s, tr => match s.gens[g]? with
    | some (.fresh c) => match r with
      | .send .none => match ev den S O n (.code (Γ.wake c p) p) (s.setGen g .running) tr with
        | some (.ret r', s', tr') => some (.woke (End.ret r').result, s'.setGen g .finished, tr')
        | some (.fin e, s', tr') => match e.quiet with | true => some (.woke e.result, s'.setGen g e.genState, tr') | false => none
        | _ => none
      | _ => none
    | some (.suspended k₀ _ c₀ p₀ fs _) => match ev den S O n (.frames (Γ.wake c₀ p) p₀ (k₀ r) fs) (s.setGen g .running) tr with
        | some (.fin e, s', tr') => match e.quiet with | true => some (.woke e.result, s'.setGen g e.genState, tr') | false => none
        | _ => none
    | some .finished => some (.woke .finished, s, tr)
    | _ => none
  | n + 1, .frames Γ p t fs, s, tr => match fs with
    | [] => ev den S O n (.fin Γ p t) s tr
    | .ret k h g l c₁ p₁ kp :: fs' => match ev den S O n (.fin (Γ.over (.ret k h g l c₁ p₁ kp :: fs')) p t) s tr with
      | some (.fin (.ret r), s', tr') => ev den S O n (.frames (Γ.goto c₁) p₁ (k r) fs') s' tr'
      | some (.fin (.susp v g₀ l₀ k₀ c₀ p₀ fs₀), s', tr') => match splitAtGen (.ret k h g l c₁ p₁ kp :: fs') with
        | none => some (.fin (.susp v g₀ l₀ k₀ c₀ p₀ (fs₀ ++ .ret k h g l c₁ p₁ kp :: fs')), s', tr')
        | some _ => none
      | _ => none
    | _ => none
end
section
open PySem.Builtin PySem.Sem
variable {w : World} {prog : Program} {O : Ops}
/-- the strings of a set, and its table -/
noncomputable def SInvT (prog : Program) (w : World) (L : List Str) (st : SetSt) : Prop :=
  ElemsOf (strKind prog w) st.1.toList ∧ (∀ k, k ∈ L ↔ ∃ e ∈ st.1.toList, (strKind prog w).is k e.2 = true) ∧ st.1.size = L.length ∧ st.1.size < 200 ∧ st.2.2.fits st.1.size = true
structure OpsOk (prog : Program) (w : World) (O : Ops) : Prop where
  empty : ∀ ep t, t.fits 0 = true → SInvT prog w [] (#[], ep, t)
  addI : ∀ L st x t, SInvT prog w L st → x ∉ L → L.length < 100 → SInvT prog w (x :: L) (O.add st x t)
  add : ∀ L st x t (Γ : Ctx) p (s : Shared) a, SInvT prog w L st → x ∉ L → L.length < 100 → s.heap.get? a = some (fsObj st) →
    wp (model prog w) Γ (setAdd a (.str x t)) (fun _ p' s' => p' = O.pos Γ p s a x t ∧ s' = { s with heap := s.heap.update a (fun _ => fsObj (O.add st x t)), toks := s.toks + 1 }) (fun _ _ _ => False) p s
  orI : ∀ L1 L2 s1 s2, SInvT prog w L1 s1 → SInvT prog w L2 s2 → L1.length = 32 → L2.length = 1 → (∀ x ∈ L2, x ∉ L1) → SInvT prog w (L1 ++ L2) (O.or s1 s2)
  or : ∀ L1 L2 s1 s2 (Γ : Ctx) p (s : Shared) l r, SInvT prog w L1 s1 → SInvT prog w L2 s2 → L1.length = 32 → L2.length = 1 → (∀ x ∈ L2, x ∉ L1) → s.heap.get? l = some (fsObj s1) → s.heap.get? r = some (fsObj s2) →
    Γ.code = .builtin "frozenset.__or__" ⟨[.ref l, .ref r], []⟩ → Runs (model prog w) Γ p ((model prog w).den Γ.code) [] s (.ret (.ok (.ret (.ref s.heap.objs.size)))) { s with heap := s.heap.push (fsObj (O.or s1 s2)) }
  subI : ∀ L1 L2 s1 s2, SInvT prog w L1 s1 → SInvT prog w L2 s2 → L1.length = 33 → L2.length = 1 → (∀ x ∈ L2, x ∈ L1) → L1.Nodup → SInvT prog w (L1.filter fun x => !L2.contains x) (O.sub s1 s2)
  sub : ∀ L1 L2 s1 s2 (Γ : Ctx) p (s : Shared) l r, SInvT prog w L1 s1 → SInvT prog w L2 s2 → L1.length = 33 → L2.length = 1 → (∀ x ∈ L2, x ∈ L1) → L1.Nodup → s.heap.get? l = some (fsObj s1) → s.heap.get? r = some (fsObj s2) →
    Γ.code = .builtin "frozenset.__sub__" ⟨[.ref l, .ref r], []⟩ → Runs (model prog w) Γ p ((model prog w).den Γ.code) [] s (.ret (.ok (.ret (.ref s.heap.objs.size)))) { s with heap := s.heap.push (fsObj (O.sub s1 s2)) }
noncomputable def SInv (prog : Program) (w : World) (s : Shared) (tr : Trace) : Prop :=
  (∀ a o, s.heap.get? a = some o → noSet o = false → ∃ st, o = fsObj st ∧ (elemsAt a tr).Nodup ∧ SInvT prog w (elemsAt a tr) st) ∧ ∀ q ∈ tr, q.1 < s.heap.objs.size
theorem get_upd {h : Heap} {a b : Addr} {f : Obj → Obj} {o : Obj} (e : (h.update a f).get? b = some o) : (b = a ∧ ∃ o', h.get? a = some o' ∧ f o' = o ∨ b = a ∧ h.get? a = none) ∨ (b ≠ a ∧ h.get? b = some o) := by
  by_cases hb : b = a
  · subst hb
    cases ho : h.get? b with
    | none => exact .inl ⟨rfl, o, .inr ⟨rfl, rfl⟩⟩
    | some o' => 
      refine .inl ⟨rfl, o', .inl ⟨rfl, ?_⟩⟩
      obtain ⟨e1, e2⟩ := Heap.get?_some_iff.mp e
      obtain ⟨e3, e4⟩ := Heap.get?_some_iff.mp ho
      have : (h.update b f).objs[b]? = some (f o') := by
        cases h
        simp [Heap.update, Array.getElem?_modify] at e3 ⊢
        exact ⟨o', e3, rfl⟩
      rw [this] at e1
      exact Option.some.inj e1
  · rw [Heap.get?_update_ne _ _ _ _ hb] at e
    exact .inr ⟨hb, e⟩
theorem elems_none {a : Addr} {n : Nat} : ∀ {tr : Trace}, (∀ q ∈ tr, q.1 < n) → n ≤ a → elemsAt a tr = []
  | [], _, _ => rfl
  | q :: tr, h, ha => by
    unfold elemsAt
    rw [List.filter_cons_of_neg]
    · exact elems_none (fun x hx => h x (.tail _ hx)) ha
    · have h1 : @LT.lt Nat _ q.1 n := h q (.head _)
      have h2 : @LE.le Nat _ n a := ha
      intro z
      have h3 : @Eq Nat q.1 a := eq_of_beq z
      omega
theorem isFsCls_inv {v : Value} (h : isFsCls v = true) : v = .type "frozenset" := by
  unfold isFsCls at h
  split at h
  · rw [eq_of_beq h]
  · cases h
theorem newFs_inv {o : Obj} (h : newFs o = true) : ∃ ep t, o = fsObj (#[], ep, t) ∧ t.fits 0 = true := by
  obtain ⟨c, d, dt, sl⟩ := o
  unfold newFs at h
  dsimp only at h
  cases dt with
  | set es ep t =>
    simp only [Bool.and_eq_true, beq_iff_eq] at h
    obtain ⟨⟨⟨⟨h1, h2⟩, h3⟩, h4⟩, h5⟩ := h
    have he : es = #[] := Array.eq_empty_of_size_eq_zero h4
    have hs : sl = #[] := Array.eq_empty_of_size_eq_zero h3
    have hd : d = none := Option.isNone_iff_eq_none.mp h2
    subst he hs hd
    rw [isFsCls_inv h1]
    exact ⟨ep, t, rfl, h5⟩
  | _ => cases h
theorem sinv_update {s : Shared} {tr : Trace} {a : Addr} {f : Obj → Obj} {o : Obj} (I : SInv prog w s tr) (ho : s.heap.get? a = some o) (h : (noSet o && noSet (f o)) = true) : SInv prog w { s with heap := s.heap.update a f } tr := by
  simp only [Bool.and_eq_true] at h
  refine ⟨fun b o' e hn => ?_, fun q hq => ?_⟩
  · rcases get_upd e with ⟨rfl, o'', h1 | h1⟩ | ⟨hb, h1⟩
    · rw [ho] at h1
      obtain ⟨h1, h2⟩ := h1
      have := Option.some.inj h1
      subst this
      rw [← h2, h.2] at hn; cases hn
    · rw [ho] at h1; cases h1.2
    · exact I.1 b o' h1 hn
  · have := I.2 q hq
    show q.1 < (s.heap.update a f).objs.size
    have e : (s.heap.update a f).objs.size = s.heap.objs.size := by cases s.heap; simp [Heap.update]
    rw [e]; exact this
theorem sinv_push {s : Shared} {tr : Trace} {o : Obj} (K : OpsOk prog w O) (I : SInv prog w s tr) (h : (noSet o || newFs o) = true) : SInv prog w { s with heap := s.heap.push o } tr := by
  refine ⟨fun b o' e hn => ?_, fun q hq => ?_⟩
  · rcases Heap.get?_push_cases e with ⟨rfl, rfl⟩ | h1
    · rw [hn, Bool.false_or] at h
      obtain ⟨ep, t, rfl, ht⟩ := newFs_inv h
      rw [elems_none I.2 (Nat.le_refl _)]
      exact ⟨_, rfl, List.nodup_nil, K.empty ep t ht⟩
    · exact I.1 b o' h1 hn
  · have h1 : @LT.lt Nat _ q.1 s.heap.objs.size := I.2 q hq
    show @LT.lt Nat _ q.1 (s.heap.push o).objs.size
    rw [Heap.objs_push, Array.size_push]; omega
theorem sinv_heap {s s' : Shared} {tr : Trace} (I : SInv prog w s tr) (h : s'.heap = s.heap) : SInv prog w s' tr := by
  unfold SInv; rw [h]; exact I
/-- one node's answer, read off -/
theorem go_inj {α : Type} {p p' : Pos} {t t' : Sem α} {s s' : Shared} (h : SO.go p t s = SO.go p' t' s') {P : Pos → Sem α → Shared → Prop} (x : P p t s) : P p' t' s' := by cases h; exact x
theorem so_sound {α : Type} {Γ : Ctx} {p p' : Pos} {s s' : Shared} {tr : Trace} {t t' : Sem α} (K : OpsOk prog w O) (h : so ⟨prog, w.params⟩ Γ p s t = .go p' t' s') (I : SInv prog w s tr) :
    SInv prog w s' tr ∧ ∀ Q E, wp (model prog w) Γ t' Q E p' s' → wp (model prog w) Γ t Q E p s := by
  cases t with
  | pure a => exact nomatch h
  | raise e => exact nomatch h
  | unsupported | finish | register | fork | await | os | choose => exact nomatch h
  | call | resume | «yield» => exact nomatch h
  | rule tag k => exact go_inj h (P := fun p' t' s' => SInv prog w s' tr ∧ ∀ Q E, wp (model prog w) Γ t' Q E p' s' → wp (model prog w) Γ (.rule tag k) Q E p s) ⟨I, fun Q E x => x⟩
  | «at» q k => exact go_inj h (P := fun p' t' s' => SInv prog w s' tr ∧ ∀ Q E, wp (model prog w) Γ t' Q E p' s' → wp (model prog w) Γ (.at q k) Q E p s) ⟨I, fun Q E x => x⟩
  | point l k => exact go_inj h (P := fun p' t' s' => SInv prog w s' tr ∧ ∀ Q E, wp (model prog w) Γ t' Q E p' s' → wp (model prog w) Γ (.point l k) Q E p s) ⟨I, fun Q E x => x⟩
  | loadIfAlive a k => exact go_inj h (P := fun p' t' s' => SInv prog w s' tr ∧ ∀ Q E, wp (model prog w) Γ t' Q E p' s' → wp (model prog w) Γ (.loadIfAlive a k) Q E p s) ⟨I, fun Q E x => x⟩
  | fresh k => exact go_inj h (P := fun p' t' s' => SInv prog w s' tr ∧ ∀ Q E, wp (model prog w) Γ t' Q E p' s' → wp (model prog w) Γ (.fresh k) Q E p s) ⟨sinv_heap I rfl, fun Q E x => x⟩
  | ask k => exact go_inj h (P := fun p' t' s' => SInv prog w s' tr ∧ ∀ Q E, wp (model prog w) Γ t' Q E p' s' → wp (model prog w) Γ (.ask k) Q E p s) ⟨I, fun Q E x => x⟩
  | handled own k => exact go_inj h (P := fun p' t' s' => SInv prog w s' tr ∧ ∀ Q E, wp (model prog w) Γ t' Q E p' s' → wp (model prog w) Γ (.handled own k) Q E p s) ⟨I, fun Q E x => x⟩
  | stack k => exact go_inj h (P := fun p' t' s' => SInv prog w s' tr ∧ ∀ Q E, wp (model prog w) Γ t' Q E p' s' → wp (model prog w) Γ (.stack k) Q E p s) ⟨I, fun Q E x => x⟩
  | thread k => exact go_inj h (P := fun p' t' s' => SInv prog w s' tr ∧ ∀ Q E, wp (model prog w) Γ t' Q E p' s' → wp (model prog w) Γ (.thread k) Q E p s) ⟨I, fun Q E x => x⟩
  | newGen c k => exact go_inj h (P := fun p' t' s' => SInv prog w s' tr ∧ ∀ Q E, wp (model prog w) Γ t' Q E p' s' → wp (model prog w) Γ (.newGen c k) Q E p s) ⟨sinv_heap I rfl, fun Q E x => x⟩
  | load a q k =>
    have h' : (match s.heap.get? a with | some o => SO.go p (k o) s | none => SO.stuck) = SO.go p' t' s' := h
    cases ho : s.heap.get? a with
    | none => rw [ho] at h'; exact nomatch h'
    | some o => rw [ho] at h'; exact go_inj h' (P := fun p' t' s' => SInv prog w s' tr ∧ ∀ Q E, wp (model prog w) Γ t' Q E p' s' → wp (model prog w) Γ (.load a q k) Q E p s) ⟨I, fun Q E x => ⟨o, ho, x⟩⟩
  | genState g k =>
    have h' : (match s.gens[g]? with | some st => SO.go p (k st.seen) s | none => SO.stuck) = SO.go p' t' s' := h
    cases ho : s.gens[g]? with
    | none => rw [ho] at h'; exact nomatch h'
    | some o => rw [ho] at h'; exact go_inj h' (P := fun p' t' s' => SInv prog w s' tr ∧ ∀ Q E, wp (model prog w) Γ t' Q E p' s' → wp (model prog w) Γ (.genState g k) Q E p s) ⟨I, fun Q E x => ⟨o, ho, x⟩⟩
  | alloc o k =>
    have h' : (match noSet o || newFs o with | true => SO.go p (k s.heap.objs.size) { s with heap := s.heap.push o } | false => SO.stuck) = SO.go p' t' s' := h
    cases ho : noSet o || newFs o with
    | false => rw [ho] at h'; exact nomatch h'
    | true => rw [ho] at h'; exact go_inj h' (P := fun p' t' s' => SInv prog w s' tr ∧ ∀ Q E, wp (model prog w) Γ t' Q E p' s' → wp (model prog w) Γ (.alloc o k) Q E p s) ⟨sinv_push K I ho, fun Q E x => x⟩
  | update a q f k =>
    have h' : (match s.heap.get? a with | some o => (match noSet o && noSet (f o) with | true => SO.go p (k ()) { s with heap := s.heap.update a f } | false => SO.stuck) | none => SO.stuck) = SO.go p' t' s' := h
    cases ho : s.heap.get? a with
    | none => rw [ho] at h'; exact nomatch h'
    | some o =>
      rw [ho] at h'; dsimp only at h'
      cases hb : noSet o && noSet (f o) with
      | false => rw [hb] at h'; exact nomatch h'
      | true => rw [hb] at h'; exact go_inj h' (P := fun p' t' s' => SInv prog w s' tr ∧ ∀ Q E, wp (model prog w) Γ t' Q E p' s' → wp (model prog w) Γ (.update a q f k) Q E p s) ⟨sinv_update I ho hb, fun Q E x => ⟨by rw [ho]; rfl, x⟩⟩
end
section
open PySem.Builtin PySem.Sem
variable {w : World} {prog : Program} {O : Ops}
theorem so_runs {Γ : Ctx} {p p' : Pos} {s s' s₂ : Shared} {t t' : Sem Fin} {e : End} (h : so ⟨prog, w.params⟩ Γ p s t = .go p' t' s') (r : Runs (model prog w) Γ p' t' [] s' e s₂) : Runs (model prog w) Γ p t [] s e s₂ := by
  cases t with
  | pure a => exact nomatch h
  | raise e => exact nomatch h
  | unsupported | finish | register | fork | await | os | choose => exact nomatch h
  | call | resume | «yield» => exact nomatch h
  | rule tag k => exact go_inj h (P := fun p' t' s' => Runs (model prog w) Γ p' t' [] s' e s₂ → Runs (model prog w) Γ p (.rule tag k) [] s e s₂) (fun r => .rule r) r
  | «at» q k => exact go_inj h (P := fun p' t' s' => Runs (model prog w) Γ p' t' [] s' e s₂ → Runs (model prog w) Γ p (.at q k) [] s e s₂) (fun r => .at r) r
  | point l k => exact go_inj h (P := fun p' t' s' => Runs (model prog w) Γ p' t' [] s' e s₂ → Runs (model prog w) Γ p (.point l k) [] s e s₂) (fun r => .point r) r
  | loadIfAlive a k => exact go_inj h (P := fun p' t' s' => Runs (model prog w) Γ p' t' [] s' e s₂ → Runs (model prog w) Γ p (.loadIfAlive a k) [] s e s₂) (fun r => .loadIfAlive r) r
  | fresh k => exact go_inj h (P := fun p' t' s' => Runs (model prog w) Γ p' t' [] s' e s₂ → Runs (model prog w) Γ p (.fresh k) [] s e s₂) (fun r => .fresh r) r
  | ask k => exact go_inj h (P := fun p' t' s' => Runs (model prog w) Γ p' t' [] s' e s₂ → Runs (model prog w) Γ p (.ask k) [] s e s₂) (fun r => .ask r) r
  | handled own k => exact go_inj h (P := fun p' t' s' => Runs (model prog w) Γ p' t' [] s' e s₂ → Runs (model prog w) Γ p (.handled own k) [] s e s₂) (fun r => .handled r) r
  | stack k => exact go_inj h (P := fun p' t' s' => Runs (model prog w) Γ p' t' [] s' e s₂ → Runs (model prog w) Γ p (.stack k) [] s e s₂) (fun r => .stack r) r
  | thread k => exact go_inj h (P := fun p' t' s' => Runs (model prog w) Γ p' t' [] s' e s₂ → Runs (model prog w) Γ p (.thread k) [] s e s₂) (fun r => .thread r) r
  | newGen c k => exact go_inj h (P := fun p' t' s' => Runs (model prog w) Γ p' t' [] s' e s₂ → Runs (model prog w) Γ p (.newGen c k) [] s e s₂) (fun r => .newGen r) r
  | load a q k =>
    have h' : (match s.heap.get? a with | some o => SO.go p (k o) s | none => SO.stuck) = SO.go p' t' s' := h
    cases ho : s.heap.get? a with
    | none => rw [ho] at h'; exact nomatch h'
    | some o => rw [ho] at h'; exact go_inj h' (P := fun p' t' s' => Runs (model prog w) Γ p' t' [] s' e s₂ → Runs (model prog w) Γ p (.load a q k) [] s e s₂) (fun r => .load ho r) r
  | genState g k =>
    have h' : (match s.gens[g]? with | some st => SO.go p (k st.seen) s | none => SO.stuck) = SO.go p' t' s' := h
    cases ho : s.gens[g]? with
    | none => rw [ho] at h'; exact nomatch h'
    | some o => rw [ho] at h'; exact go_inj h' (P := fun p' t' s' => Runs (model prog w) Γ p' t' [] s' e s₂ → Runs (model prog w) Γ p (.genState g k) [] s e s₂) (fun r => .genState ho r) r
  | alloc o k =>
    have h' : (match noSet o || newFs o with | true => SO.go p (k s.heap.objs.size) { s with heap := s.heap.push o } | false => SO.stuck) = SO.go p' t' s' := h
    cases ho : noSet o || newFs o with
    | false => rw [ho] at h'; exact nomatch h'
    | true => rw [ho] at h'; exact go_inj h' (P := fun p' t' s' => Runs (model prog w) Γ p' t' [] s' e s₂ → Runs (model prog w) Γ p (.alloc o k) [] s e s₂) (fun r => .alloc r) r
  | update a q f k =>
    have h' : (match s.heap.get? a with | some o => (match noSet o && noSet (f o) with | true => SO.go p (k ()) { s with heap := s.heap.update a f } | false => SO.stuck) | none => SO.stuck) = SO.go p' t' s' := h
    cases ho : s.heap.get? a with
    | none => rw [ho] at h'; exact nomatch h'
    | some o =>
      rw [ho] at h'; dsimp only at h'
      cases hb : noSet o && noSet (f o) with
      | false => rw [hb] at h'; exact nomatch h'
      | true => rw [hb] at h'; exact go_inj h' (P := fun p' t' s' => Runs (model prog w) Γ p' t' [] s' e s₂ → Runs (model prog w) Γ p (.update a q f k) [] s e s₂) (fun r => .update (by rw [ho]; rfl) r) r
noncomputable def Meets (prog : Program) (w : World) : Task → Out → Shared → Shared → Prop
  | .fin Γ p t, .fin e, s, s' => Runs (model prog w) Γ p t [] s e s'
  | .opt Γ p t, .opt o p', s, s' => wp (model prog w) Γ t (fun o₂ p₂ s₂ => o₂ = o ∧ p₂ = p' ∧ s₂ = s') (fun _ _ _ => False) p s
  | .code Γ p, .ret r, s, s' => Runs (model prog w) Γ p ((model prog w).den Γ.code) [] s (.ret r) s'
  | .code Γ p, .fin e, s, s' => Runs (model prog w) Γ p ((model prog w).den Γ.code) [] s e s'
  | .wake Γ p g r, .woke x, s, s' => Wakes (model prog w) Γ p g r s x s'
  | .frames Γ p t fs, .fin e, s, s' => Runs (model prog w) Γ p t fs s e s'
  | .loop Γ p a it, .ret r, s, s' => Γ.code = .builtin "set.update.loop" ⟨[.ref a, it], []⟩ → Runs (model prog w) Γ p ((model prog w).den Γ.code) [] s (.ret r) s'
  | _, _, _, _ => False
theorem setAt_inv {s : Shared} {a : Addr} {st : SetSt} {tr : Trace} (I : SInv prog w s tr) (h : setAt s a = some st) : s.heap.get? a = some (fsObj st) ∧ (elemsAt a tr).Nodup ∧ SInvT prog w (elemsAt a tr) st := by
  unfold setAt at h
  split at h
  · rename_i o ho
    split at h
    · rename_i es n t hd
      cases h
      obtain ⟨st, rfl, h1, h2⟩ := I.1 a o ho (by unfold noSet; rw [hd])
      have : st = (es, n, t) := by
        have hd' : Data.set st.1 st.2.1 st.2.2 = Data.set es n t := hd
        injection hd' with q1 q2 q3
        rw [← q1, ← q2, ← q3]
      subst this
      exact ⟨ho, h1, h2⟩
    · cases h
  · cases h
theorem elems_cons {a : Addr} {x : Str} {tr : Trace} : elemsAt a ((a, x) :: tr) = x :: elemsAt a tr := by unfold elemsAt; rw [List.filter_cons_of_pos (by simp)]; rfl
theorem elems_cons_ne {a b : Addr} {x : Str} {tr : Trace} (h : b ≠ a) : elemsAt b ((a, x) :: tr) = elemsAt b tr := by
  unfold elemsAt; rw [List.filter_cons_of_neg]
  intro z; exact h (eq_of_beq z).symm
theorem elems_new {a : Addr} {L : List Str} {tr : Trace} (h : elemsAt a tr = []) : elemsAt a (L.map (fun x => (a, x)) ++ tr) = L := by
  unfold elemsAt at h ⊢
  rw [List.filter_append, List.map_append, h, List.append_nil]
  rw [List.filter_eq_self.mpr (fun x hx => by obtain ⟨y, _, rfl⟩ := List.mem_map.mp hx; simp)]
  rw [List.map_map]; simp [Function.comp_def]
theorem elems_new_ne {a b : Addr} {L : List Str} {tr : Trace} (h : b ≠ a) : elemsAt b (L.map (fun x => (a, x)) ++ tr) = elemsAt b tr := by
  unfold elemsAt
  rw [List.filter_append, List.map_append]
  rw [List.filter_eq_nil_iff.mpr (fun x hx => by obtain ⟨y, _, rfl⟩ := List.mem_map.mp hx; intro z; exact h (eq_of_beq z).symm)]; rfl
theorem sinv_add {s : Shared} {tr : Trace} {a : Addr} {x : Str} {st st' : SetSt} (I : SInv prog w s tr) (ho : s.heap.get? a = some (fsObj st)) (hn : x ∉ elemsAt a tr) (hs : SInvT prog w (x :: elemsAt a tr) st') (hd : (elemsAt a tr).Nodup) :
    SInv prog w { s with heap := s.heap.update a (fun _ => fsObj st'), toks := s.toks + 1 } ((a, x) :: tr) := by
  have e : (s.heap.update a (fun _ => fsObj st')).objs.size = s.heap.objs.size := by cases s.heap; simp [Heap.update]
  refine ⟨fun b o' q hn' => ?_, fun q hq => ?_⟩
  · rcases get_upd q with ⟨rfl, o'', h1 | h1⟩ | ⟨hb, h1⟩
    · refine ⟨st', h1.2.symm, ?_, ?_⟩
      · rw [elems_cons]; exact List.nodup_cons.mpr ⟨hn, hd⟩
      · rw [elems_cons]; exact hs
    · rw [ho] at h1; cases h1.2
    · obtain ⟨st2, r1, r2, r3⟩ := I.1 b o' h1 hn'
      exact ⟨st2, r1, by rw [elems_cons_ne hb]; exact r2, by rw [elems_cons_ne hb]; exact r3⟩
  · show q.1 < (s.heap.update a (fun _ => fsObj st')).objs.size
    rw [e]
    rcases List.mem_cons.mp hq with rfl | hq
    · exact Heap.lt_size ho
    · exact I.2 q hq
theorem sinv_new {s : Shared} {tr : Trace} {L : List Str} {st' : SetSt} (I : SInv prog w s tr) (hs : SInvT prog w L st') (hd : L.Nodup) :
    SInv prog w { s with heap := s.heap.push (fsObj st') } (L.map (fun x => (s.heap.objs.size, x)) ++ tr) := by
  have e : (s.heap.push (fsObj st')).objs.size = s.heap.objs.size + 1 := by rw [Heap.objs_push, Array.size_push]
  refine ⟨fun b o' q hn' => ?_, fun q hq => ?_⟩
  · rcases Heap.get?_push_cases q with ⟨rfl, rfl⟩ | h1
    · have := elems_new (L := L) (elems_none I.2 (Nat.le_refl s.heap.objs.size))
      exact ⟨st', rfl, by rw [this]; exact hd, by rw [this]; exact hs⟩
    · obtain ⟨st2, r1, r2, r3⟩ := I.1 b o' h1 hn'
      have hb : b ≠ s.heap.objs.size := Nat.ne_of_lt (Heap.lt_size h1)
      exact ⟨st2, r1, by rw [elems_new_ne hb]; exact r2, by rw [elems_new_ne hb]; exact r3⟩
  · show @LT.lt Nat _ q.1 (s.heap.push (fsObj st')).objs.size
    rw [e]
    rcases List.mem_append.mp hq with hq | hq
    · obtain ⟨y, _, rfl⟩ := List.mem_map.mp hq
      exact Nat.lt_succ_self _
    · exact Nat.lt_succ_of_lt (I.2 q hq)
end
section
open PySem.Builtin PySem.Sem
variable {w : World} {prog : Program} {O : Ops}
theorem wp_of_runs_call {α : Type} {Γ : Ctx} {p : Pos} {s s' : Shared} {c : Code} {h : Option Value} {g : Bool} {l : List Value} {k : Result → Sem α} {r : Result} {Q : α → Pos → Shared → Prop} {E : Value → Pos → Shared → Prop}
    (a : Runs (model prog w) (Γ.enter c h p) p ((model prog w).den c) [] s (.ret r) s') (b : wp (model prog w) Γ (k r) Q E p s') : wp (model prog w) Γ (.call c h g l k) Q E p s := ⟨r, s', a, b⟩
theorem isLoop_inv {c : Code} {a : Addr} {it : Value} (h : isLoop c = some (a, it)) : c = .builtin "set.update.loop" ⟨[.ref a, it], []⟩ := by
  unfold isLoop at h
  split at h
  · rename_i nm args
    split at h
    · rename_i hn
      split at h
      · cases h
        rw [eq_of_beq hn]
      · cases h
    · cases h
  · cases h
theorem l_entry : entryFor table "set.update.loop" = some Builtin.«set.update.loop» := entryFor_of_tree (by kernel_rfl)
theorem l_plain : plainId "set.update.loop" = true := by decide +kernel
theorem den_of {nm : String} {args : Args} {b : Builtin} (hb : entryFor table nm = some b) : (model prog w).den (.builtin nm args) = b args := by
  show (match entryFor table nm with | some b => b args | none => PySem.unsupported ((withoutEnding? nm "#data").getD nm)) = _
  rw [hb]
theorem den_loop (a : Addr) (it : Value) : (model prog w).den (.builtin "set.update.loop" ⟨[.ref a, it], []⟩) = Builtin.«set.update.loop» ⟨[.ref a, it], []⟩ := by
  exact den_of l_entry
theorem loop_end {Γ : Ctx} {p p' : Pos} {s s' : Shared} {a : Addr} {it : Value} (hc : Γ.code = .builtin "set.update.loop" ⟨[.ref a, it], []⟩)
    (h : wp (model prog w) Γ (pyNext it) (fun o₂ p₂ s₂ => o₂ = none ∧ p₂ = p' ∧ s₂ = s') (fun _ _ _ => False) p s) : Runs (model prog w) Γ p ((model prog w).den Γ.code) [] s (.ret (.ok (.ret .none))) s' := by
  have key : wpCode (model prog w) Γ (fun r s₂ => r = .ok (.ret .none) ∧ s₂ = s') p s := by
    rw [wpCode_iff_wp, hc, den_loop]
    unfold Builtin.«set.update.loop»
    dsimp only
    refine (Sem.wp_bind' ..).mpr ?_
    refine Sem.wp_mono _ _ _ ?_ (fun _ _ _ h => h.elim) _ _ h
    rintro o₂ p₂ s₂ ⟨rfl, rfl, rfl⟩
    exact ⟨rfl, rfl⟩
  obtain ⟨r, s₂, hr, rfl, rfl⟩ := key
  exact hr
theorem loop_next {Γ : Ctx} {p p' p'' : Pos} {s s' s'' s3 : Shared} {a : Addr} {it : Value} {x : Value} {r : Result} (hc : Γ.code = .builtin "set.update.loop" ⟨[.ref a, it], []⟩)
    (h : wp (model prog w) Γ (pyNext it) (fun o₂ p₂ s₂ => o₂ = some x ∧ p₂ = p' ∧ s₂ = s') (fun _ _ _ => False) p s)
    (h2 : wp (model prog w) Γ (setAdd a x) (fun _ p₂ s₂ => p₂ = p'' ∧ s₂ = s'') (fun _ _ _ => False) p' s')
    (h3 : Runs (model prog w) Γ p'' ((model prog w).den Γ.code) [] s'' (.ret r) s3) : Runs (model prog w) Γ p ((model prog w).den Γ.code) [] s (.ret r) s3 := by
  have key : wpCode (model prog w) Γ (fun r' s₂ => r' = r ∧ s₂ = s3) p s := by
    rw [wpCode_iff_wp, hc, den_loop]
    unfold Builtin.«set.update.loop»
    dsimp only
    refine (Sem.wp_bind' ..).mpr ?_
    refine Sem.wp_mono _ _ _ ?_ (fun _ _ _ h => h.elim) _ _ h
    rintro o₂ p₂ s₂ ⟨rfl, rfl, rfl⟩
    dsimp only
    refine (Sem.wp_bind' ..).mpr ?_
    refine (Sem.wp_holding ..).mpr ?_
    refine Sem.wp_mono _ _ _ ?_ (fun _ _ _ h => h.elim) _ _ h2
    rintro b p₃ s₃ ⟨rfl, rfl⟩
    refine ⟨plainId_quiet l_plain _, r, s3, ?_, rfl, rfl⟩
    have e : Γ.goto (.builtin "set.update.loop" ⟨[.ref a, it], []⟩) = Γ := by rw [← hc]; cases Γ; rfl
    show Runs _ (Γ.goto _) _ _ [] _ _ _
    rw [e]
    exact h3
  obtain ⟨r', s₂, hr, rfl, rfl⟩ := key
  exact hr
/-- the tree that a node was read from -/
noncomputable def back {α : Type} : SO α → Option (Sem α)
  | .call c h g l k => some (.call c h g l k)
  | .wake g r l k => some (.resume g r l k)
  | .yield v g l k => some (.yield v g l k)
  | .done a => some (.pure a)
  | .err e => some (.raise e)
  | _ => none
theorem so_back {α : Type} {Γ : Ctx} {p : Pos} {s : Shared} {t t' : Sem α} {S : Setting} (h : back (so S Γ p s t) = some t') : t = t' := by
  cases t with
  | pure | raise | call | resume | «yield» => exact Option.some.inj h
  | load a q k =>
    have h' : back (match s.heap.get? a with | some o => SO.go p (k o) s | none => SO.stuck) = some t' := h
    cases ho : s.heap.get? a <;> rw [ho] at h' <;> cases h'
  | genState g k =>
    have h' : back (match s.gens[g]? with | some st => SO.go p (k st.seen) s | none => SO.stuck) = some t' := h
    cases ho : s.gens[g]? <;> rw [ho] at h' <;> cases h'
  | alloc o k =>
    have h' : back (match noSet o || newFs o with | true => SO.go p (k s.heap.objs.size) { s with heap := s.heap.push o } | false => SO.stuck) = some t' := h
    cases ho : noSet o || newFs o <;> rw [ho] at h' <;> cases h'
  | update a q f k =>
    have h' : back (match s.heap.get? a with | some o => (match noSet o && noSet (f o) with | true => SO.go p (k ()) { s with heap := s.heap.update a f } | false => SO.stuck) | none => SO.stuck) = some t' := h
    cases ho : s.heap.get? a with
    | none => rw [ho] at h'; cases h'
    | some o => rw [ho] at h'; dsimp only at h'; cases hb : noSet o && noSet (f o) <;> rw [hb] at h' <;> cases h'
  | _ => cases h
theorem fin_ret_raise {Γ : Ctx} {p : Pos} {s : Shared} {t : Sem Fin} {v : Value} (h : so ⟨prog, w.params⟩ Γ p s t = .err v) : Runs (model prog w) Γ p t [] s (.ret (.error v)) s := by
  have e : t = .raise v := so_back (by rw [h]; rfl)
  rw [e]; exact .raise
theorem so_call {α : Type} {Γ : Ctx} {p : Pos} {s : Shared} {t : Sem α} {S : Setting} {c : Code} {hh : Option Value} {g : Bool} {l : List Value} {k : Result → Sem α} (h : so S Γ p s t = .call c hh g l k) : t = .call c hh g l k := so_back (by rw [h]; rfl)
theorem so_wake {α : Type} {Γ : Ctx} {p : Pos} {s : Shared} {t : Sem α} {S : Setting} {g : Nat} {r : Resume} {l : List Value} {k : GenResult → Sem α} (h : so S Γ p s t = .wake g r l k) : t = .resume g r l k := so_back (by rw [h]; rfl)
theorem so_yield {α : Type} {Γ : Ctx} {p : Pos} {s : Shared} {t : Sem α} {S : Setting} {v : Value} {g : Bool} {l : List Value} {k : Resume → Sem α} (h : so S Γ p s t = .yield v g l k) : t = .yield v g l k := so_back (by rw [h]; rfl)
theorem so_done {α : Type} {Γ : Ctx} {p : Pos} {s : Shared} {t : Sem α} {S : Setting} {a : α} (h : so S Γ p s t = .done a) : t = .pure a := so_back (by rw [h]; rfl)
theorem special_sound {Γ : Ctx} {p : Pos} {s s' : Shared} {tr tr' : Trace} {r : Result} (K : OpsOk prog w O) (I : SInv prog w s tr) (h : special O Γ.code s tr = some (some (r, s', tr'))) :
    SInv prog w s' tr' ∧ Runs (model prog w) Γ p ((model prog w).den Γ.code) [] s (.ret r) s' := by
  unfold special at h
  split at h
  · rename_i nm args hc
    split at h
    · rename_i hn
      have hnm := eq_of_beq hn
      split at h
      · rename_i l r0
        split at h
        · rename_i sl sr hl hr
          split at h
          · rename_i hh
            cases h
            simp only [Bool.and_eq_true, beq_iff_eq, List.all_eq_true, Bool.not_eq_true', List.contains_eq_mem, decide_eq_false_iff_not] at hh
            obtain ⟨⟨h1, h2⟩, h3⟩ := hh
            obtain ⟨a1, a2, a3⟩ := setAt_inv I hl
            obtain ⟨b1, b2, b3⟩ := setAt_inv I hr
            refine ⟨sinv_new I (K.orI _ _ _ _ a3 b3 h1 h2 h3) ?_, K.or _ _ _ _ Γ p s l r0 a3 b3 h1 h2 h3 a1 b1 (by rw [hc, hnm])⟩
            rw [List.nodup_append]
            exact ⟨a2, b2, fun x hx y hy q => h3 y hy (q ▸ hx)⟩
          · cases h
        · cases h
      · cases h
    · rename_i hn hn2
      have hnm := eq_of_beq hn2
      split at h
      · rename_i l r0
        split at h
        · rename_i sl sr hl hr
          split at h
          · rename_i hh
            cases h
            simp only [Bool.and_eq_true, beq_iff_eq, List.all_eq_true, List.contains_eq_mem, decide_eq_true_eq] at hh
            obtain ⟨⟨h1, h2⟩, h3⟩ := hh
            obtain ⟨a1, a2, a3⟩ := setAt_inv I hl
            obtain ⟨b1, b2, b3⟩ := setAt_inv I hr
            exact ⟨sinv_new I (K.subI _ _ _ _ a3 b3 h1 h2 h3 a2) (a2.filter _), K.sub _ _ _ _ Γ p s l r0 a3 b3 h1 h2 h3 a2 a1 b1 (by rw [hc, hnm])⟩
          · cases h
        · cases h
      · cases h
    · cases h
  · cases h
end
section
open PySem.Builtin PySem.Sem
variable {w : World} {prog : Program} {O : Ops}
theorem goto_self {Γ : Ctx} {c : Code} (h : Γ.code = c) : Γ.goto c = Γ := by rw [← h]; cases Γ; rfl
theorem sinv_gen {s : Shared} {tr : Trace} {g : Nat} {x : GenState} (I : SInv prog w s tr) : SInv prog w (s.setGen g x) tr := sinv_heap I rfl
theorem meets_wake {Γ : Ctx} {p : Pos} {g : Nat} {r : Resume} {x : GenResult} {s s' : Shared} (h : Wakes (model prog w) Γ p g r s x s') : Meets prog w (.wake Γ p g r) (.woke x) s s' := h
theorem ev_fin {den : Code → Sem Fin} {S : Setting} {O : Ops} {n : Nat} {Γ : Ctx} {p : Pos} {t : Sem Fin} {s : Shared} {tr : Trace} : ev den S O (n + 1) (.fin Γ p t) s tr = (match so S Γ p s t with
    | .go p' t' s' => ev den S O n (.fin Γ p' t') s' tr
    | .done (.done f) => some (.fin (.ret (.ok f)), s, tr)
    | .done (.again c) => match c.quiet with
      | true => match ev den S O n (.code (Γ.goto c) p) s tr with
        | some (.ret r, s', tr') => some (.fin (.ret r), s', tr')
        | some (.fin e, s', tr') => some (.fin e, s', tr')
        | _ => none
      | false => none
    | .err e => some (.fin (.ret (.error e)), s, tr)
    | .call c h g l k => match ev den S O n (.code (Γ.enter c h p) p) s tr with
      | some (.ret r, s', tr') => ev den S O n (.fin Γ p (k r)) s' tr'
      | some (.fin (.susp v g₀ l₀ k₀ c₀ p₀ fs), s', tr') => some (.fin (.susp v g₀ l₀ k₀ c₀ p₀ (fs ++ [.ret k h g l Γ.code p []])), s', tr')
      | _ => none
    | .wake g r _ k => match ev den S O n (.wake Γ p g r) s tr with
      | some (.woke x, s', tr') => ev den S O n (.fin Γ p (k x)) s' tr'
      | _ => none
    | .yield v g l k => some (.fin (.susp v g l k Γ.code p []), s, tr)
    | .stuck => none) := rfl
theorem ev_opt {den : Code → Sem Fin} {S : Setting} {O : Ops} {n : Nat} {Γ : Ctx} {p : Pos} {t : Sem (Option Value)} {s : Shared} {tr : Trace} : ev den S O (n + 1) (.opt Γ p t) s tr = (match so S Γ p s t with
    | .go p' t' s' => ev den S O n (.opt Γ p' t') s' tr
    | .done o => some (.opt o p, s, tr)
    | .call c h _ _ k => match ev den S O n (.code (Γ.enter c h p) p) s tr with
      | some (.ret r, s', tr') => ev den S O n (.opt Γ p (k r)) s' tr'
      | _ => none
    | .wake g r _ k => match ev den S O n (.wake Γ p g r) s tr with
      | some (.woke x, s', tr') => ev den S O n (.opt Γ p (k x)) s' tr'
      | _ => none
    | _ => none) := rfl
theorem ev_code {den : Code → Sem Fin} {S : Setting} {O : Ops} {n : Nat} {Γ : Ctx} {p : Pos} {s : Shared} {tr : Trace} : ev den S O (n + 1) (.code Γ p) s tr = (match isLoop Γ.code with
    | some (a, it) => ev den S O n (.loop Γ p a it) s tr
    | none => match special O Γ.code s tr with
      | some (some (r, s', tr')) => some (.ret r, s', tr')
      | some none => none
      | none => match ev den S O n (.fin Γ p (den Γ.code)) s tr with
        | some (.fin (.ret r), s', tr') => some (.ret r, s', tr')
        | some (.fin e, s', tr') => some (.fin e, s', tr')
        | _ => none) := rfl
theorem ev_loop {den : Code → Sem Fin} {S : Setting} {O : Ops} {n : Nat} {Γ : Ctx} {p : Pos} {a : Addr} {it : Value} {s : Shared} {tr : Trace} : ev den S O (n + 1) (.loop Γ p a it) s tr = (match ev den S O n (.opt Γ p (pyNext it)) s tr with
    | some (.opt none _, s', tr') => some (.ret (.ok (.ret .none)), s', tr')
    | some (.opt (some (.str x t)) p', s', tr') => match (elemsAt a tr').contains x || !decide ((elemsAt a tr').length < 100), setAt s' a with
      | false, some st => ev den S O n (.loop Γ (O.pos Γ p' s' a x t) a it) { s' with heap := s'.heap.update a (fun _ => fsObj (O.add st x t)), toks := s'.toks + 1 } ((a, x) :: tr')
      | _, _ => none
    | _ => none) := rfl
theorem ev_wake {den : Code → Sem Fin} {S : Setting} {O : Ops} {n : Nat} {Γ : Ctx} {p : Pos} {g : Nat} {r : Resume} {s : Shared} {tr : Trace} : ev den S O (n + 1) (.wake Γ p g r) s tr = (match s.gens[g]? with
    | some (.fresh c) => match r with
      | .send .none => match ev den S O n (.code (Γ.wake c p) p) (s.setGen g .running) tr with
        | some (.ret r', s', tr') => some (.woke (End.ret r').result, s'.setGen g .finished, tr')
        | some (.fin e, s', tr') => match e.quiet with | true => some (.woke e.result, s'.setGen g e.genState, tr') | false => none
        | _ => none
      | _ => none
    | some (.suspended k₀ _ c₀ p₀ fs _) => match ev den S O n (.frames (Γ.wake c₀ p) p₀ (k₀ r) fs) (s.setGen g .running) tr with
        | some (.fin e, s', tr') => match e.quiet with | true => some (.woke e.result, s'.setGen g e.genState, tr') | false => none
        | _ => none
    | some .finished => some (.woke .finished, s, tr)
    | _ => none) := rfl
theorem res_inj {o o' : Out} {s s' : Shared} {tr tr' : Trace} (h : some (o, s, tr) = some (o', s', tr')) {P : Out → Shared → Trace → Prop} (x : P o s tr) : P o' s' tr' := by cases h; exact x
theorem meets_fin {Γ Γ' : Ctx} {p p' : Pos} {t t' : Sem Fin} {o : Out} {s s₁ s' : Shared} (f : ∀ e, Runs (model prog w) Γ' p' t' [] s₁ e s' → Runs (model prog w) Γ p t [] s e s') (m : Meets prog w (.fin Γ' p' t') o s₁ s') : Meets prog w (.fin Γ p t) o s s' := by
  cases o <;> first | exact (m : False).elim | exact f _ m
theorem meets_opt {Γ Γ' : Ctx} {p p' : Pos} {t t' : Sem (Option Value)} {o : Out} {s s₁ s' : Shared} (f : ∀ Q E, wp (model prog w) Γ' t' Q E p' s₁ → wp (model prog w) Γ t Q E p s) (m : Meets prog w (.opt Γ' p' t') o s₁ s') : Meets prog w (.opt Γ p t) o s s' := by
  cases o <;> first | exact (m : False).elim | exact f _ _ m
theorem ev_sound (K : OpsOk prog w O) : ∀ (n : Nat) (T : Task) (s : Shared) (tr : Trace) (o : Out) (s' : Shared) (tr' : Trace), ev (denote table) ⟨prog, w.params⟩ O n T s tr = some (o, s', tr') → SInv prog w s tr → SInv prog w s' tr' ∧ Meets prog w T o s s' := by
  intro n
  induction n with
  | zero => intro T s tr o s' tr' h; exact nomatch (show (none : Option (Out × Shared × Trace)) = some (o, s', tr') from h)
  | succ n ih =>
    intro T s tr o s' tr' h I
    cases T with
    | fin Γ p t =>
      rw [ev_fin] at h
      generalize hs : so ⟨prog, w.params⟩ Γ p s t = nd at h
      cases nd with
      | go p₁ t₁ s₁ =>
        dsimp only at h
        obtain ⟨I₁, _⟩ := so_sound K hs I
        obtain ⟨I₂, m⟩ := ih _ _ _ _ _ _ h I₁
        refine ⟨I₂, ?_⟩
        exact meets_fin (fun _ r => so_runs hs r) m
      | done f =>
        have ht := so_done hs; subst ht
        cases f with
        | done f => dsimp only at h; exact res_inj h (P := fun o s' tr' => SInv prog w s' tr' ∧ Meets prog w _ o s s') ⟨I, .done⟩
        | again c =>
          dsimp only at h
          cases hq : c.quiet with
          | false => rw [hq] at h; exact nomatch h
          | true =>
            rw [hq] at h; dsimp only at h
            cases hr : ev (denote table) ⟨prog, w.params⟩ O n (.code (Γ.goto c) p) s tr with
            | none => rw [hr] at h; exact nomatch h
            | some x =>
              obtain ⟨o₁, s₁, tr₁⟩ := x
              rw [hr] at h
              obtain ⟨I₁, m⟩ := ih _ _ _ _ _ _ hr I
              cases o₁ with
              | ret r => exact res_inj h (P := fun o s' tr' => SInv prog w s' tr' ∧ Meets prog w _ o s s') ⟨I₁, .again hq m⟩
              | fin e => exact res_inj h (P := fun o s' tr' => SInv prog w s' tr' ∧ Meets prog w _ o s s') ⟨I₁, .again hq m⟩
              | _ => exact nomatch h
      | err e => exact res_inj h (P := fun o s' tr' => SInv prog w s' tr' ∧ Meets prog w _ o s s') ⟨I, fin_ret_raise hs⟩
      | call c hh g l k =>
        have ht := so_call hs; subst ht
        dsimp only at h
        cases hr : ev (denote table) ⟨prog, w.params⟩ O n (.code (Γ.enter c hh p) p) s tr with
        | none => rw [hr] at h; exact nomatch h
        | some x =>
          obtain ⟨o₁, s₁, tr₁⟩ := x
          rw [hr] at h
          obtain ⟨I₁, m⟩ := ih _ _ _ _ _ _ hr I
          cases o₁ with
          | ret r =>
            dsimp only at h
            obtain ⟨I₂, m₂⟩ := ih _ _ _ _ _ _ h I₁
            refine ⟨I₂, ?_⟩
            exact meets_fin (fun _ r => .call m r) m₂
          | fin e =>
            cases e with
            | susp v g₀ l₀ k₀ c₀ p₀ fs => dsimp only at h; exact res_inj h (P := fun o s' tr' => SInv prog w s' tr' ∧ Meets prog w _ o s s') ⟨I₁, .callSusp m⟩
            | ret r => exact nomatch h
          | _ => exact nomatch h
      | wake g r l k =>
        have ht := so_wake hs; subst ht
        dsimp only at h
        cases hr : ev (denote table) ⟨prog, w.params⟩ O n (.wake Γ p g r) s tr with
        | none => rw [hr] at h; exact nomatch h
        | some x =>
          obtain ⟨o₁, s₁, tr₁⟩ := x
          rw [hr] at h
          obtain ⟨I₁, m⟩ := ih _ _ _ _ _ _ hr I
          cases o₁ with
          | woke x =>
            dsimp only at h
            obtain ⟨I₂, m₂⟩ := ih _ _ _ _ _ _ h I₁
            refine ⟨I₂, ?_⟩
            exact meets_fin (fun _ r => (Sem.runs_resume_iff _ _).mpr ⟨_, _, m, r⟩) m₂
          | _ => exact nomatch h
      | «yield» v g l k =>
        have ht := so_yield hs; subst ht
        exact res_inj h (P := fun o s' tr' => SInv prog w s' tr' ∧ Meets prog w _ o s s') ⟨I, .yield⟩
      | stuck => exact nomatch h
    | opt Γ p t =>
      rw [ev_opt] at h
      generalize hs : so ⟨prog, w.params⟩ Γ p s t = nd at h
      cases nd with
      | go p₁ t₁ s₁ =>
        dsimp only at h
        obtain ⟨I₁, f⟩ := so_sound K hs I
        obtain ⟨I₂, m⟩ := ih _ _ _ _ _ _ h I₁
        refine ⟨I₂, ?_⟩
        exact meets_opt f m
      | done a => have ht := so_done hs; subst ht; exact res_inj h (P := fun o s' tr' => SInv prog w s' tr' ∧ Meets prog w _ o s s') ⟨I, rfl, rfl, rfl⟩
      | call c hh g l k =>
        have ht := so_call hs; subst ht
        dsimp only at h
        cases hr : ev (denote table) ⟨prog, w.params⟩ O n (.code (Γ.enter c hh p) p) s tr with
        | none => rw [hr] at h; exact nomatch h
        | some x =>
          obtain ⟨o₁, s₁, tr₁⟩ := x
          rw [hr] at h
          obtain ⟨I₁, m⟩ := ih _ _ _ _ _ _ hr I
          cases o₁ with
          | ret r =>
            dsimp only at h
            obtain ⟨I₂, m₂⟩ := ih _ _ _ _ _ _ h I₁
            refine ⟨I₂, ?_⟩
            exact meets_opt (fun Q E x => wp_of_runs_call (g := g) (l := l) m x) m₂
          | _ => exact nomatch h
      | wake g r l k =>
        have ht := so_wake hs; subst ht
        dsimp only at h
        cases hr : ev (denote table) ⟨prog, w.params⟩ O n (.wake Γ p g r) s tr with
        | none => rw [hr] at h; exact nomatch h
        | some x =>
          obtain ⟨o₁, s₁, tr₁⟩ := x
          rw [hr] at h
          obtain ⟨I₁, m⟩ := ih _ _ _ _ _ _ hr I
          cases o₁ with
          | woke x =>
            dsimp only at h
            obtain ⟨I₂, m₂⟩ := ih _ _ _ _ _ _ h I₁
            refine ⟨I₂, ?_⟩
            exact meets_opt (fun Q E x => ⟨_, _, m, x⟩) m₂
          | _ => exact nomatch h
      | err e => exact nomatch h
      | «yield» v g l k => exact nomatch h
      | stuck => exact nomatch h
    | code Γ p =>
      rw [ev_code] at h
      cases hl : isLoop Γ.code with
      | some x =>
        obtain ⟨a, it⟩ := x
        rw [hl] at h; dsimp only at h
        obtain ⟨I₁, m⟩ := ih _ _ _ _ _ _ h I
        refine ⟨I₁, ?_⟩
        cases o <;> first | exact (m : False).elim | exact m (isLoop_inv hl)
      | none =>
        rw [hl] at h; dsimp only at h
        cases hp : special O Γ.code s tr with
        | some x =>
          rw [hp] at h
          cases x with
          | none => exact nomatch h
          | some y =>
            obtain ⟨r, s₁, tr₁⟩ := y
            dsimp only at h
            cases h
            exact special_sound K I hp
        | none =>
          rw [hp] at h; dsimp only at h
          cases hr : ev (denote table) ⟨prog, w.params⟩ O n (.fin Γ p (denote table Γ.code)) s tr with
          | none => rw [hr] at h; exact nomatch h
          | some x =>
            obtain ⟨o₁, s₁, tr₁⟩ := x
            rw [hr] at h
            obtain ⟨I₁, m⟩ := ih _ _ _ _ _ _ hr I
            cases o₁ with
            | fin e => cases e <;> exact res_inj h (P := fun o s' tr' => SInv prog w s' tr' ∧ Meets prog w _ o s s') ⟨I₁, m⟩
            | _ => exact nomatch h
    | wake Γ p g r =>
      rw [ev_wake] at h
      cases hg : s.gens[g]? with
      | none => rw [hg] at h; exact nomatch h
      | some gs =>
        rw [hg] at h
        cases gs with
        | fresh c =>
          cases r with
          | throw x => exact nomatch h
          | send v =>
            by_cases hv : v = .none
            · subst hv
              dsimp only at h
              cases hr : ev (denote table) ⟨prog, w.params⟩ O n (.code (Γ.wake c p) p) (s.setGen g .running) tr with
              | none => rw [hr] at h; exact nomatch h
              | some x =>
                obtain ⟨o₁, s₁, tr₁⟩ := x
                rw [hr] at h
                obtain ⟨I₁, m⟩ := ih _ _ _ _ _ _ hr (sinv_gen I)
                cases o₁ with
                | ret r' =>
                  refine res_inj h (P := fun o s' tr' => SInv prog w s' tr' ∧ Meets prog w _ o s s') ?_
                  refine ⟨sinv_gen I₁, ?_⟩
                  refine meets_wake ?_
                  unfold Wakes; rw [hg]
                  exact ⟨.ret r', _, m, rfl, rfl, rfl⟩
                | fin e =>
                  dsimp only at h
                  cases hq : e.quiet with
                  | false => rw [hq] at h; exact nomatch h
                  | true =>
                    rw [hq] at h; refine res_inj h (P := fun o s' tr' => SInv prog w s' tr' ∧ Meets prog w _ o s s') ?_
                    refine ⟨sinv_gen I₁, ?_⟩
                    refine meets_wake ?_
                    unfold Wakes; rw [hg]
                    exact ⟨e, _, m, hq, rfl, rfl⟩
                | _ => exact nomatch h
            · exfalso
              cases v <;> first | exact hv rfl | exact nomatch h
        | suspended k₀ l₀ c₀ p₀ fs cl =>
          dsimp only at h
          cases hr : ev (denote table) ⟨prog, w.params⟩ O n (.frames (Γ.wake c₀ p) p₀ (k₀ r) fs) (s.setGen g .running) tr with
          | none => rw [hr] at h; exact nomatch h
          | some x =>
            obtain ⟨o₁, s₁, tr₁⟩ := x
            rw [hr] at h
            obtain ⟨I₁, m⟩ := ih _ _ _ _ _ _ hr (sinv_gen I)
            cases o₁ with
            | fin e =>
              dsimp only at h
              cases hq : e.quiet with
              | false => rw [hq] at h; exact nomatch h
              | true =>
                rw [hq] at h; refine res_inj h (P := fun o s' tr' => SInv prog w s' tr' ∧ Meets prog w _ o s s') ?_
                refine ⟨sinv_gen I₁, ?_⟩
                refine meets_wake ?_
                unfold Wakes; rw [hg]
                exact ⟨e, _, m, hq, rfl, rfl⟩
            | _ => exact nomatch h
        | running => exact nomatch h
        | finished =>
          refine res_inj h (P := fun o s' tr' => SInv prog w s' tr' ∧ Meets prog w _ o s s') ?_
          refine ⟨I, ?_⟩
          refine meets_wake ?_
          unfold Wakes; rw [hg]; exact ⟨rfl, rfl⟩
    | frames Γ p t fs =>
      cases fs with
      | nil =>
        change ev (denote table) ⟨prog, w.params⟩ O n (.fin Γ p t) s tr = some (o, s', tr') at h
        obtain ⟨I₁, m⟩ := ih _ _ _ _ _ _ h I
        refine ⟨I₁, ?_⟩
        cases o <;> first | exact (m : False).elim | exact m
      | cons F fs' =>
        cases F with
        | gen => exact nomatch (show (none : Option (Out × Shared × Trace)) = some (o, s', tr') from h)
        | ret k hh g l c₁ p₁ kp =>
          change (match ev (denote table) ⟨prog, w.params⟩ O n (.fin (Γ.over (.ret k hh g l c₁ p₁ kp :: fs')) p t) s tr with
            | some (.fin (.ret r), s', tr') => ev (denote table) ⟨prog, w.params⟩ O n (.frames (Γ.goto c₁) p₁ (k r) fs') s' tr'
            | some (.fin (.susp v g₀ l₀ k₀ c₀ p₀ fs₀), s', tr') => match splitAtGen (.ret k hh g l c₁ p₁ kp :: fs') with
              | none => some (.fin (.susp v g₀ l₀ k₀ c₀ p₀ (fs₀ ++ .ret k hh g l c₁ p₁ kp :: fs')), s', tr')
              | some _ => none
            | _ => none) = some (o, s', tr') at h
          cases hr : ev (denote table) ⟨prog, w.params⟩ O n (.fin (Γ.over (.ret k hh g l c₁ p₁ kp :: fs')) p t) s tr with
          | none => rw [hr] at h; exact nomatch h
          | some x =>
            obtain ⟨o₁, s₁, tr₁⟩ := x
            rw [hr] at h
            obtain ⟨I₁, m⟩ := ih _ _ _ _ _ _ hr I
            cases o₁ with
            | fin e =>
              cases e with
              | ret r =>
                dsimp only at h
                obtain ⟨I₂, m₂⟩ := ih _ _ _ _ _ _ h I₁
                refine ⟨I₂, ?_⟩
                cases o <;> first | exact (m₂ : False).elim | exact .segRet m m₂
              | susp v g₀ l₀ k₀ c₀ p₀ fs₀ =>
                dsimp only at h
                cases hp : splitAtGen (.ret k hh g l c₁ p₁ kp :: fs') with
                | some y => rw [hp] at h; exact nomatch h
                | none => rw [hp] at h; exact res_inj h (P := fun o s' tr' => SInv prog w s' tr' ∧ Meets prog w _ o s s') ⟨I₁, .segSuspOut hp m⟩
            | _ => exact nomatch h
    | loop Γ p a it =>
      rw [ev_loop] at h
      cases hr : ev (denote table) ⟨prog, w.params⟩ O n (.opt Γ p (pyNext it)) s tr with
      | none => rw [hr] at h; exact nomatch h
      | some x =>
        obtain ⟨o₁, s₁, tr₁⟩ := x
        rw [hr] at h
        obtain ⟨I₁, m⟩ := ih _ _ _ _ _ _ hr I
        cases o₁ with
        | opt ov p' =>
          cases ov with
          | none => exact res_inj h (P := fun o s' tr' => SInv prog w s' tr' ∧ Meets prog w _ o s s') ⟨I₁, fun hc => loop_end hc m⟩
          | some v =>
            cases v with
            | str x t =>
              dsimp only at h
              cases hn : ((elemsAt a tr₁).contains x || !decide ((elemsAt a tr₁).length < 100)) with
              | true => rw [hn] at h; exact nomatch h
              | false =>
                cases hst : setAt s₁ a with
                | none => rw [hn, hst] at h; exact nomatch h
                | some st =>
                  rw [hn, hst] at h; dsimp only at h
                  simp only [Bool.or_eq_false_iff, Bool.not_eq_false', decide_eq_true_eq] at hn
                  obtain ⟨b1, b2, b3⟩ := setAt_inv I₁ hst
                  have hx : x ∉ elemsAt a tr₁ := by have := hn.1; simpa using this
                  obtain ⟨I₂, m₂⟩ := ih _ _ _ _ _ _ h (sinv_add I₁ b1 hx (K.addI _ _ x t b3 hx hn.2) b2)
                  refine ⟨I₂, ?_⟩
                  cases o <;> first | exact (m₂ : False).elim | exact fun hc => loop_next hc m (K.add _ _ x t Γ p' s₁ a b3 hx hn.2 b1) (m₂ hc)
            | _ => exact nomatch h
        | _ => exact nomatch h
end
section
open PySem.Builtin
variable {w : World} {prog : Program}
theorem upd_congr {h : Heap} {a : Addr} {f g : Obj → Obj} {o : Obj} (ho : h.get? a = some o) (e : f o = g o) : h.update a f = h.update a g := by
  obtain ⟨e1, _⟩ := Heap.get?_some_iff.mp ho
  cases h
  simp only [Heap.update]
  congr 1
  apply Array.ext
  · simp
  · intro i h1 h2
    simp only [Array.getElem_modify]
    by_cases hi : a = i
    · subst hi
      simp only [if_true]
      have : (_ : Array Obj)[a]? = some o := e1
      rw [Array.getElem?_eq_getElem (by simpa using h1)] at this
      rw [Option.some.inj this, e]
    · simp [hi]
theorem upd_upd {h : Heap} {a : Addr} {f g : Obj → Obj} : (h.update a f).update a g = h.update a (fun o => g (f o)) := by
  cases h
  simp only [Heap.update]
  congr 1
  apply Array.ext
  · simp
  · intro i h1 h2
    simp only [Array.getElem_modify]
    by_cases hi : a = i <;> simp [hi]
/-- what the set's table becomes when a new text is added -/
noncomputable def lastOff (t : SetTable) : SetTable := if t.plain = true then { t with plain := false } else t
noncomputable def addF (prog : Program) (w : World) (st : SetSt) (x : Str) (t : Tok) : SetSt :=
  let L := layNew st.2.2 st.1 ((strKind prog w).hash x) (.str x t)
  let t2 := lastOff L.2.1
  if (!L.2.2.1 && t2.tooFull) = true then
    let R := relayAll t2 L.1 (SetTable.grown L.1.size)
    (R.1, st.2.1 + 2, R.2.1)
  else (L.1, st.2.1 + 1, t2)
theorem lastOff_fits {t : SetTable} {n : Nat} (h : t.fits n = true) : (lastOff t).fits n = true := by
  unfold lastOff; split
  · exact SetTable.fits_plain_off h
  · exact h
theorem inv_add {L : List Str} {st : SetSt} {x : Str} {t : Tok} (I : SInvT prog w L st) (hx : x ∉ L) (hl : L.length < 100) : SInvT prog w (x :: L) (addF prog w st x t) := by
  obtain ⟨hel, hmem, hn, hb, hf⟩ := I
  have hkey := strKind_is prog w x t
  have hperm := layNew_perm st.2.2 st.1 ((strKind prog w).hash x) (.str x t)
  have hfits := layNew_fits st.2.2 st.1 ((strKind prog w).hash x) (.str x t)
  unfold addF
  generalize layNew st.2.2 st.1 ((strKind prog w).hash x) (.str x t) = LL at hperm hfits ⊢
  obtain ⟨es1, t1, wasDummy, gave⟩ := LL
  dsimp only at hperm hfits ⊢
  rw [Array.toList_push] at hperm
  have hel1 : ElemsOf (strKind prog w) es1.toList := (hel.push hkey rfl).perm hperm
  have hsz1 : es1.size = L.length + 1 := by rw [← Array.length_toList, hperm.length_eq, List.length_append, Array.length_toList, hn]; rfl
  have hm1 : ∀ k, k ∈ x :: L ↔ ∃ e ∈ es1.toList, (strKind prog w).is k e.2 = true := by
    intro k
    rw [List.mem_cons, hmem k]
    constructor
    · rintro (rfl | ⟨e, he, hp⟩)
      · exact ⟨_, hperm.mem_iff.mpr (List.mem_append_right _ (List.mem_singleton.mpr rfl)), hkey⟩
      · exact ⟨e, hperm.mem_iff.mpr (List.mem_append_left _ he), hp⟩
    · rintro ⟨e, he, hp⟩
      rcases List.mem_append.mp (hperm.mem_iff.mp he) with he | he
      · exact .inr ⟨e, he, hp⟩
      · obtain rfl := List.mem_singleton.mp he
        exact .inl ((strKind prog w).inj _ k x hp hkey)
  have hf2 := lastOff_fits hfits
  split
  · have hp := relayAll_perm (lastOff t1) es1 (SetTable.grown es1.size)
    have hfr := relayAll_fits (lastOff t1) es1 (SetTable.grown es1.size)
    generalize relayAll (lastOff t1) es1 (SetTable.grown es1.size) = R at hp hfr ⊢
    obtain ⟨es2, t3, gave2⟩ := R
    dsimp only at hp hfr ⊢
    have hsz2 : es2.size = L.length + 1 := by rw [← Array.length_toList, hp.length_eq, Array.length_toList, hsz1]
    exact ⟨hel1.perm hp, fun k => (hm1 k).trans ⟨fun ⟨e, he, q⟩ => ⟨e, hp.mem_iff.mpr he, q⟩, fun ⟨e, he, q⟩ => ⟨e, hp.mem_iff.mp he, q⟩⟩, hsz2, by dsimp only; omega, hfr⟩
  · exact ⟨hel1, hm1, hsz1, by dsimp only; omega, hf2⟩
theorem SInvT.find {L : List Str} {st : SetSt} {x : Str} (I : SInvT prog w L st) (hx : x ∉ L) : List.findIdx? (fun e => (strKind prog w).is x e.2) st.1.toList = none := by
  rw [List.findIdx?_eq_none_iff]
  intro e he
  rw [Bool.eq_false_iff]
  intro hp
  exact hx ((I.2.1 x).mpr ⟨e, he, hp⟩)
theorem f_addH {A : Around} {E : Value → Shared → Prop} {s : Shared} {a : Addr} {L : List Str} {st : SetSt} {x : Str} {t : Tok} {Q : Bool → Shared → Prop} (I : SInvT prog w L st) (hx : x ∉ L) (hl : L.length < 100) (ho : s.heap.get? a = some (fsObj st))
    (h : Q true { s with heap := s.heap.update a (fun _ => fsObj (addF prog w st x t)) }) : wpAny (model prog w) A (setAddHashed a (.str x t) ((strKind prog w).hash x)) Q E s := by
  have I0 := I
  obtain ⟨es, ep, tb⟩ := st
  obtain ⟨hel, hmem, hn, hb, hf⟩ := I
  dsimp only at hel hmem hn hb hf
  have hkey := strKind_is prog w x t
  have hb0 : es.size < scanBound := by unfold scanBound; omega
  have hd : (fsObj (es, ep, tb)).data = .set es ep tb := rfl
  unfold setAddHashed setAddHashedIn
  refine wpAny_holding (wpAny_bind (wpAny_setState_of ho hd hf ?_))
  dsimp only
  rw [byScan_of (x := .str x t) rfl hb0 hel]
  simp only [↓reduceIte]
  unfold setAddByScan
  refine wpAny_bind (wpAny_bind (wpAny_rule (wpAny_bind (wpAny_setScan_of hkey ho hd hf hel ?_))))
  rw [I0.find hx]
  dsimp only
  have hgw : ∀ (b : Bool) {s₁ : Shared} {Q' : Unit → Shared → Prop}, Q' () s₁ → wpAny (model prog w) A (match b with | true => rule "set.scan.the-table-gave-way" | false => pure ()) Q' E s₁ :=
    fun b s₁ Q' hq => by cases b <;> first | exact wpAny_pure hq | exact wpAny_rule hq
  have hI := inv_add (t := t) I0 hx hl
  unfold addF at h hI
  dsimp only at h hI
  have hperm := layNew_perm tb es ((strKind prog w).hash x) (.str x t)
  generalize layNew tb es ((strKind prog w).hash x) (.str x t) = LL at h hI hperm ⊢
  obtain ⟨es1, t1, wasDummy, gave⟩ := LL
  dsimp only at h hI hperm ⊢
  rw [Array.toList_push] at hperm
  have hsz1 : es1.size = L.length + 1 := by rw [← Array.length_toList, hperm.length_eq, List.length_append, Array.length_toList, hn]; rfl
  have hz1 : es1.size ≤ sizeLine := by rw [sizeLine_eq]; omega
  refine wpAny_bind (hgw _ ?_)
  have tail : ∀ (t2 : SetTable), t2 = lastOff t1 → wpAny (model prog w) A (do
        storeSet a es1 t2
        if (!wasDummy && t2.tooFull) = true then do
            (match (relayAll t2 es1 (SetTable.grown es1.size)).2.2 with | true => rule "set.scan.the-table-gave-way" | false => pure ())
            storeSet a (relayAll t2 es1 (SetTable.grown es1.size)).1 (relayAll t2 es1 (SetTable.grown es1.size)).2.1
            pure (some true)
          else pure (some true)) (fun r s' => r = some true ∧ Q true s') E s := by
    rintro t2 rfl
    refine wpAny_bind (wpAny_storeSet_of ho hd ?_ hz1)
    have hg : (s.heap.update a (Obj.putSet es1 (lastOff t1))).get? a = some { fsObj (es, ep, tb) with data := .set es1 (ep + 1) (lastOff t1) } := by
      have := Heap.get?_update_self (Obj.putSet es1 (lastOff t1)) ho (by rw [putSet_of es1 (lastOff t1) hd]; rfl)
      rw [putSet_of es1 (lastOff t1) hd] at this; exact this
    split
    · rename_i hc
      rw [if_pos hc] at h hI
      have hp := relayAll_perm (lastOff t1) es1 (SetTable.grown es1.size)
      generalize hR : relayAll (lastOff t1) es1 (SetTable.grown es1.size) = R at h hI hp ⊢
      obtain ⟨es2, t3, gave2⟩ := R
      dsimp only at h hI hp ⊢
      have hz2 : es2.size ≤ sizeLine := by
        have : es2.size = es1.size := by rw [← Array.length_toList, hp.length_eq, Array.length_toList]
        omega
      refine wpAny_bind (hgw _ ?_)
      refine wpAny_bind (wpAny_storeSet_of hg rfl ?_ hz2)
      refine wpAny_pure ⟨rfl, ?_⟩
      rw [upd_upd, upd_congr (g := fun _ => fsObj (es2, ep + 2, t3)) ho (by rw [putSet_of es1 (lastOff t1) hd]; rfl)]
      exact h
    · rename_i hc
      rw [if_neg hc] at h hI
      refine wpAny_pure ⟨rfl, ?_⟩
      rw [upd_congr (g := fun _ => fsObj (es1, ep + 1, lastOff t1)) ho (by rw [putSet_of es1 (lastOff t1) hd]; rfl)]
      exact h
  split
  · rename_i hp
    refine wpAny_bind ?_
    rw [hashByValue_scannable 8 rfl]
    refine wpAny_pure ?_
    refine wpAny_mono (tail { t1 with plain := false } (by unfold lastOff; rw [if_pos hp])) ?_ fun _ _ h => h
    rintro r s' ⟨rfl, hq⟩
    exact wpAny_pure hq
  · rename_i hp
    refine wpAny_bind (wpAny_pure ?_)
    simp only [↓reduceIte]
    refine wpAny_mono (tail t1 (by unfold lastOff; rw [if_neg hp])) ?_ fun _ _ h => h
    rintro r s' ⟨rfl, hq⟩
    exact wpAny_pure hq
theorem f_add {A : Around} {E : Value → Shared → Prop} {s : Shared} {a : Addr} {L : List Str} {st : SetSt} {x : Str} {t : Tok} {Q : Bool → Shared → Prop} (I : SInvT prog w L st) (hx : x ∉ L) (hl : L.length < 100) (ho : s.heap.get? a = some (fsObj st))
    (h : Q true { s with heap := s.heap.update a (fun _ => fsObj (addF prog w st x t)), toks := s.toks + 1 }) : wpAny (model prog w) A (setAdd a (.str x t)) Q E s := by
  unfold setAdd
  refine wpAny_holding (wpAny_bind ((strKind prog w).pyHash (strKind_is prog w x t) ?_))
  exact f_addH (s := { s with toks := s.toks + 1 }) I hx hl ho h
end
section
open PySem.SetTable
noncomputable def lcg (i : Nat) : Nat := (i * 5 + 1) % 128
noncomputable def lcgIt : Nat → Nat → Nat
  | 0, x => x
  | n + 1, x => lcgIt n (lcg x)
noncomputable def orbit : Nat → Nat → List Nat
  | 0, _ => []
  | n + 1, x => x :: orbit n (lcg x)
theorem orbit_mem : ∀ {n x y : Nat}, y ∈ orbit n x → ∃ a, a < n ∧ lcgIt a x = y
  | n + 1, x, y, h => by
    rcases List.mem_cons.mp h with rfl | h
    · exact ⟨0, by omega, rfl⟩
    · obtain ⟨a, ha, e⟩ := orbit_mem h
      exact ⟨a + 1, by omega, e⟩
theorem orbit_all : ((List.range 128).all fun x => (orbit 128 0).contains x) = true := by decide +kernel
theorem lcg_back : lcgIt 128 0 = 0 := by decide +kernel
theorem lcgIt_add : ∀ (a b x : Nat), lcgIt (a + b) x = lcgIt b (lcgIt a x)
  | 0, b, x => by rw [Nat.zero_add]; rfl
  | a + 1, b, x => by rw [show a + 1 + b = (a + b) + 1 by omega]; exact lcgIt_add a b (lcg x)
theorem lcg_reach {x y : Nat} (hx : x < 128) (hy : y < 128) : ∃ a, a < 128 ∧ lcgIt a x = y := by
  have all : ∀ z, z < 128 → ∃ a, a < 128 ∧ lcgIt a 0 = z := fun z hz => by
    have := List.all_eq_true.mp orbit_all z (List.mem_range.mpr hz)
    exact orbit_mem (by simpa using this)
  obtain ⟨a, ha, ea⟩ := all x hx
  obtain ⟨b, hb, eb⟩ := all y hy
  rcases Nat.lt_or_ge b a with q | q
  · refine ⟨128 - a + b, by omega, ?_⟩
    have e : lcgIt (128 - a) x = 0 := by
      rw [← ea, ← lcgIt_add, show a + (128 - a) = 128 by omega]; exact lcg_back
    rw [lcgIt_add, e, eb]
  · refine ⟨b - a, by omega, ?_⟩
    rw [← ea, ← lcgIt_add, show a + (b - a) = b by omega]; exact eb
/-- the places that the search meets -/
noncomputable def meet : Nat → Nat → Nat → Nat
  | 0, i, _ => i
  | t + 1, i, p => meet t (leap 127 i p).1 (leap 127 i p).2
theorem meet_zero : ∀ (t i : Nat), meet t i 0 = lcgIt t i
  | 0, _ => rfl
  | t + 1, i => by
    show meet t ((i * 5 + 1 + 0 / 32) % 128) (0 / 32) = lcgIt t (lcg i)
    rw [Nat.zero_div, Nat.add_zero]; exact meet_zero t _
theorem meet_lt : ∀ (t i p : Nat), i < 128 → meet t i p < 128
  | 0, _, _, h => h
  | t + 1, i, p, _ => meet_lt t _ _ (Nat.mod_lt _ (by decide))
theorem meet_add : ∀ (a b i p : Nat), meet (a + b) i p = meet b (meet a i p) (p / 32 ^ a)
  | 0, b, i, p => by rw [Nat.zero_add]; simp [meet]
  | a + 1, b, i, p => by
    rw [show a + 1 + b = (a + b) + 1 by omega]
    show meet (a + b) (leap 127 i p).1 (p / 32) = meet b (meet a (leap 127 i p).1 (p / 32)) _
    rw [meet_add a b, Nat.div_div_eq_div_mul, Nat.pow_succ, Nat.mul_comm]
theorem meet_reach {i p y : Nat} (hi : i < 128) (hp : p < 2 ^ 64) (hy : y < 128) : ∃ t, t < 142 ∧ meet t i p = y := by
  obtain ⟨a, ha, e⟩ := lcg_reach (meet_lt 13 i p hi) hy
  refine ⟨13 + a, by omega, ?_⟩
  rw [meet_add]
  have : p / 32 ^ 13 = 0 := Nat.div_eq_of_lt (Nat.lt_of_lt_of_le hp (by decide))
  rw [this, meet_zero]; exact e
theorem free_none {owner : Array (Option Nat)} : ∀ (fuel i p : Nat), layClean.free 127 owner fuel i p = none → ∀ t, t < fuel → (owner.getD (meet t i p) (some 0)).isNone = false
  | 0, _, _, _, t, ht => absurd ht (Nat.not_lt_zero _)
  | fuel + 1, i, p, h, t, ht => by
    rw [layClean.free] at h
    split at h
    · cases h
    · rename_i hf
      cases t with
      | zero =>
        have := List.find?_eq_none.mp hf 0 (List.mem_range.mpr (by unfold runEnd; split <;> omega))
        exact Bool.eq_false_iff.mpr fun hN => this (by simpa [meet] using hN)
      | succ t => exact free_none fuel _ _ h t (by omega)
theorem free_some {owner : Array (Option Nat)} {j : Nat} : ∀ (fuel i p : Nat), i < 128 → layClean.free 127 owner fuel i p = some j → j < 128 ∧ (owner.getD j (some 0)).isNone = true
  | 0, _, _, _, h => by cases h
  | fuel + 1, i, p, hi, h => by
    rw [layClean.free] at h
    split at h
    · rename_i k hf
      cases h
      have h1 := List.find?_some hf
      have h2 := List.mem_range.mp (List.mem_of_find?_eq_some hf)
      refine ⟨?_, h1⟩
      have : runEnd 127 i ≤ 127 := by unfold runEnd; split <;> omega
      omega
    · exact free_some fuel _ _ (Nat.mod_lt _ (by decide)) h
theorem bits_lt (h : Int) : bits h < 2 ^ 64 := by
  unfold bits
  have h1 := Int.emod_nonneg h (show (2 ^ 64 : Int) ≠ 0 by decide)
  have h2 := Int.emod_lt_of_pos h (show (0 : Int) < 2 ^ 64 by decide)
  omega
/-- the owners, in the order of the places -/
noncomputable def ownL (owner : Array (Option Nat)) : List Nat := (List.range 128).filterMap fun j => owner.getD j none
theorem fm_congr {α β : Type} {f g : α → Option β} : ∀ {l : List α}, (∀ x ∈ l, f x = g x) → l.filterMap f = l.filterMap g
  | [], _ => rfl
  | x :: l, h => by
    have e := h x (.head _)
    have ih := fm_congr (l := l) fun y hy => h y (.tail _ hy)
    cases hv : g x with
    | none => rw [List.filterMap_cons_none (e.trans hv), List.filterMap_cons_none hv, ih]
    | some v => rw [List.filterMap_cons_some (e.trans hv), List.filterMap_cons_some hv, ih]
theorem filterMap_set {f g : Nat → Option Nat} {j v : Nat} (hf : f j = none) (hg : g j = some v) (hne : ∀ i, i ≠ j → g i = f i) : ∀ l : List Nat, l.Nodup → j ∈ l → (l.filterMap g).Perm (v :: l.filterMap f)
  | [], _, h => nomatch h
  | x :: l, hn, h => by
    have hn' := List.nodup_cons.mp hn
    rcases List.mem_cons.mp h with rfl | h
    · rw [List.filterMap_cons_some hg, List.filterMap_cons_none hf]
      have : l.filterMap g = l.filterMap f := fm_congr fun i hi => hne i (fun e => hn'.1 (e ▸ hi))
      rw [this]
    · have hx : x ≠ j := fun e => hn'.1 (e ▸ h)
      have ih := filterMap_set hf hg hne l hn'.2 h
      cases hv : f x with
      | none => rw [List.filterMap_cons_none hv, List.filterMap_cons_none (by rw [hne x hx]; exact hv)]; exact ih
      | some u => rw [List.filterMap_cons_some hv, List.filterMap_cons_some (by rw [hne x hx]; exact hv)]; exact (ih.cons u).trans (List.Perm.swap _ _ _)
theorem lay_fold : ∀ (hs : List Int) (owner : Array (Option Nat)) (k : Nat), owner.size = 128 → (ownL owner).Perm (List.range k) → k + hs.length ≤ 100 →
    ∃ owner', (hs.foldl (fun (acc : Option (Array (Option Nat) × Nat)) h => do
      let (owner, k) ← acc
      let j ← layClean.free 127 owner (turns 127) (bits h % (127 + 1)) (bits h)
      pure (owner.setIfInBounds j (some k), k + 1)) (some (owner, k))) = some (owner', k + hs.length) ∧ owner'.size = 128 ∧ (ownL owner').Perm (List.range (k + hs.length))
  | [], owner, k, h1, h2, _ => ⟨owner, rfl, h1, h2⟩
  | h :: hs, owner, k, h1, h2, h3 => by
    simp only [List.length_cons] at h3
    have hi : bits h % 128 < 128 := Nat.mod_lt _ (by decide)
    cases hfr : layClean.free 127 owner (turns 127) (bits h % (127 + 1)) (bits h) with
    | none =>
      exfalso
      have hall : ∀ y, y < 128 → (owner.getD y (some 0)).isNone = false := fun y hy => by
        obtain ⟨t, ht, e⟩ := meet_reach hi (bits_lt h) hy
        rw [← e]; exact free_none _ _ _ hfr t ht
      have hlen : (ownL owner).length = 128 := by
        unfold ownL
        have : ∀ l : List Nat, (∀ y ∈ l, y < 128) → (l.filterMap fun j => owner.getD j none).length = l.length := by
          intro l
          induction l with
          | nil => intro _; rfl
          | cons y l ih =>
            intro hl
            have hy := hl y (.head _)
            have hsz : y < owner.size := by omega
            have := hall y hy
            rw [Array.getD_eq_getD_getElem?, Array.getElem?_eq_getElem hsz] at this
            cases hv : owner[y] with
            | none => rw [hv] at this; cases this
            | some u =>
              rw [List.filterMap_cons_some (b := u) (by rw [Array.getD_eq_getD_getElem?, Array.getElem?_eq_getElem hsz, hv]; rfl), List.length_cons, ih fun z hz => hl z (.tail _ hz), List.length_cons]
        rw [this _ fun y hy => List.mem_range.mp hy]; simp
      rw [h2.length_eq] at hlen
      simp at hlen; omega
    | some j =>
      obtain ⟨hj, hn⟩ := free_some _ _ _ hi hfr
      have hsz : j < owner.size := by omega
      have hjn : owner[j] = none := by
        rw [Array.getD_eq_getD_getElem?, Array.getElem?_eq_getElem hsz] at hn
        exact Option.isNone_iff_eq_none.mp hn
      have hp : (ownL (owner.setIfInBounds j (some k))).Perm (k :: ownL owner) := by
        unfold ownL
        refine filterMap_set (j := j) ?_ ?_ ?_ _ List.nodup_range (List.mem_range.mpr hj)
        · rw [Array.getD_eq_getD_getElem?, Array.getElem?_eq_getElem hsz, hjn]; rfl
        · rw [Array.getD_eq_getD_getElem?, Array.getElem?_setIfInBounds_self_of_lt hsz]; rfl
        · intro i hi'
          rw [Array.getD_eq_getD_getElem?, Array.getD_eq_getD_getElem?, Array.getElem?_setIfInBounds_ne (Ne.symm hi')]
      have hp2 : (ownL (owner.setIfInBounds j (some k))).Perm (List.range (k + 1)) := by
        refine hp.trans ((h2.cons k).trans ?_)
        rw [List.range_succ]
        exact (List.perm_append_comm (l₁ := [k]) (l₂ := List.range k))
      obtain ⟨owner', e1, e2, e3⟩ := lay_fold hs (owner.setIfInBounds j (some k)) (k + 1) (by simp [h1]) hp2 (by omega)
      refine ⟨owner', ?_, e2, by rw [show k + (h :: hs).length = k + 1 + hs.length by simp; omega]; exact e3⟩
      rw [List.foldl_cons]
      show List.foldl _ (do let j ← layClean.free 127 owner (turns 127) (bits h % (127 + 1)) (bits h); pure (owner.setIfInBounds j (some k), k + 1)) hs = _
      rw [hfr]
      show List.foldl _ (some (owner.setIfInBounds j (some k), k + 1)) hs = _
      rw [e1]
      congr 2
      simp; omega
theorem laid_ok (f m : Nat) (led plain : Bool) (hashes : Array Int) (h : hashes.size ≤ 100) : ∃ t order, SetTable.laid 127 f m led plain hashes = some (t, order) ∧ t.mask = 127 ∧ t.dummies = #[] ∧ t.place.size = hashes.size ∧ order.toList.Perm (List.range hashes.size) := by
  obtain ⟨owner, e1, e2, e3⟩ := lay_fold hashes.toList (Array.replicate 128 none) 0 (by simp) (by
    have : ownL (Array.replicate 128 none) = [] := by decide +kernel
    rw [this]; exact List.Perm.refl _) (by simpa using h)
  have hc : layClean 127 hashes = some owner := by
    unfold layClean
    rw [← Array.foldl_toList]
    show Option.map _ (hashes.toList.foldl _ (some (Array.replicate 128 none, 0))) = _
    rw [e1]; rfl
  rw [Nat.zero_add, Array.length_toList] at e3
  have hord : (((List.range (127 + 1)).filterMap fun j => (owner.getD j none).map (j, ·)).map (·.2)) = ownL owner := by
    unfold ownL
    rw [List.map_filterMap]
    refine fm_congr fun j _ => ?_
    cases owner.getD j none <;> rfl
  have hpl : (((List.range (127 + 1)).filterMap fun j => (owner.getD j none).map (j, ·)).map (·.1)).length = hashes.size := by
    have := congrArg List.length hord
    rw [List.length_map] at this ⊢
    rw [this, e3.length_eq]; simp
  refine ⟨_, _, by unfold laid; rw [hc]; rfl, rfl, rfl, ?_, ?_⟩
  · simpa using hpl
  · show (List.map _ _).Perm _
    rw [hord]; exact e3
end
section
open PySem.Builtin
variable {w : World} {prog : Program}
theorem upd_push {h : Heap} {o : Obj} {f : Obj → Obj} : (h.push o).update h.objs.size f = h.push (f o) := by
  cases h
  simp only [Heap.update, Heap.push]
  congr 1
  apply Array.ext
  · simp
  · intro i h1 h2
    simp only [Array.getElem_modify, Array.getElem_push]
    simp only [Array.size_modify, Array.size_push] at h1
    split <;> split <;> first | rfl | omega
theorem fm_range {α : Type} (l : List α) : ∀ (k : Nat), (List.range' k (l.length - k)).filterMap (l[·]?) = l.drop k := by
  intro k
  generalize hn : l.length - k = n
  induction n generalizing k with
  | zero => rw [List.drop_of_length_le (by omega)]; rfl
  | succ n ih =>
    have hk : k < l.length := by omega
    rw [List.range'_succ, List.filterMap_cons_some (List.getElem?_eq_getElem hk), ih (k + 1) (by omega), List.drop_eq_getElem_cons hk]
theorem filterMap_perm {α : Type} (es : Array α) (order : Array Nat) (h : order.toList.Perm (List.range es.size)) : (order.filterMap (es[·]?)).toList.Perm es.toList := by
  rw [Array.toList_filterMap]
  refine (h.filterMap _).trans ?_
  have := fm_range es.toList 0
  rw [Nat.sub_zero, ← List.range_eq_range', Array.length_toList, List.drop_zero] at this
  have e : (List.range es.size).filterMap (es[·]?) = (List.range es.size).filterMap (es.toList[·]?) := fm_congr fun i _ => by simp
  rw [e, this]
end
section
open PySem.Builtin
variable {w : World} {prog : Program}
theorem sub_fs_set : isSubtype (.type "frozenset") (.type "set") = pure false := by rw [isSubtype_type]; kernel_rfl
theorem sub_fs_fs : isSubtype (.type "frozenset") (.type "frozenset") = pure true := by rw [isSubtype_type]; kernel_rfl
theorem isi_fs {A : Around} {E : Value → Shared → Prop} {s : Shared} {l : Addr} {st : SetSt} {b : Bool} {nm : String} {Q : Bool → Shared → Prop} (ho : s.heap.get? l = some (fsObj st)) (hs : isSubtype (.type "frozenset") (.type nm) = pure b) (h : Q b s) : wpAny (model prog w) A (isInstance (.ref l) (.type nm)) Q E s := by
  unfold isInstance
  have hT : s.TypeIs (.ref l) "frozenset" := ⟨_, ho, rfl⟩
  refine wpAny_bind (wpAny_typeOf hT ?_)
  rw [hs]; exact wpAny_pure h
theorem relay_new {A : Around} {E : Value → Shared → Prop} {s : Shared} {a : Addr} {ep wanted : Nat} {t t1 : SetTable} {order : Array Nat} {Q : Unit → Shared → Prop} (ho : s.heap.get? a = some (fsObj (#[], ep, t))) (hf : t.fits 0 = true) (hw : SetTable.sizeAbove wanted ≤ sizeLine) (hr : t.relaid #[] wanted = some (t1, order)) (hord : order = #[])
    (h : Q () { s with heap := s.heap.update a (fun _ => fsObj (#[], ep + 1, t1)) }) : wpAny (model prog w) A (setRelay a wanted) Q E s := by
  subst hord
  unfold setRelay
  refine wpAny_bind (wpAny_setState_of ho rfl hf ?_)
  dsimp only
  rw [if_neg (Nat.not_lt.mpr hw)]
  rw [show (#[] : Array (Int × Value)).map (·.1) = #[] by simp, hr]
  refine wpAny_bind ?_
  refine wpAny_pure ?_
  refine wpAny_storeSet_of ho rfl ?_ (by simp)
  rw [upd_congr (g := fun _ => fsObj (#[], ep + 1, t1)) ho (by rw [putSet_of _ _ rfl]; rfl)]
  exact h
/-- the table of a new set that was given room -/
theorem copy_ex (w : World) {L : List Str} {st : SetSt} (I : SInvT prog w L st) (hL : L.length = 32 ∨ L.length = 33) : ∃ st' : SetSt, SInvT prog w L st' ∧ st'.2.2.mask = 127 ∧ st'.2.2.dummies = #[] ∧
    ∀ {A : Around} {E : Value → Shared → Prop} {s : Shared} {l : Addr} {Q : Value → Shared → Prop}, s.heap.get? l = some (fsObj st) → Q (.ref s.heap.objs.size) { s with heap := s.heap.push (fsObj st') } → wpAny (model prog w) A (Frozenset.copyOf l) Q E s := by
  have I0 := I
  obtain ⟨es, ep, to⟩ := st
  obtain ⟨hel, hmem, hn, hb, hf⟩ := I
  dsimp only at hel hmem hn hb hf
  generalize hled : (!w.params.followText "set-order") = led
  have hwant : (SetTable.fresh 0 0 led).roomFor es.size = some (es.size * 2) := by
    unfold SetTable.roomFor SetTable.fill SetTable.fresh
    rw [hn]
    dsimp only
    rw [if_pos (by simp; omega)]; simp
  have hsz : SetTable.sizeAbove (es.size * 2) = 128 := by rw [hn]; rcases hL with e | e <;> rw [e] <;> decide +kernel
  obtain ⟨t1, o1, q1, q2, q3, q4, q5⟩ := laid_ok 0 ((SetTable.fresh 0 0 led).movedTo 127) led true #[] (by decide)
  have ho1 : o1 = #[] := by
    have := q5.length_eq
    exact Array.eq_empty_of_size_eq_zero (by simpa using this)
  subst ho1
  have hrel : (SetTable.fresh 0 0 led).relaid #[] (es.size * 2) = some (t1, #[]) := by
    unfold SetTable.relaid
    rw [hsz]; exact q1
  have hp1 : t1.place = #[] := Array.eq_empty_of_size_eq_zero (by simpa using q4)
  have hf1 : t1.fits 0 = true := by unfold SetTable.fits SetTable.fill; rw [hp1, q3, q2]; rfl
  have hfill : t1.fill = 0 := by unfold SetTable.fill; rw [hp1, q3]; rfl
  have hne : es.isEmpty = false := by rw [Bool.eq_false_iff]; intro z; have := Array.size_eq_zero_iff.mpr (by simpa using z); omega
  have hz : es.size ≤ sizeLine := by rw [sizeLine_eq]; omega
  have hf0 : (SetTable.fresh 0 0 led).fits 0 = true := by cases led <;> rfl
  have hled' : (!(model prog w).w.params.followText "set-order") = led := hled
  cases hroad : t1.road to with
  | oneByOne =>
    exfalso
    unfold SetTable.road at hroad
    rw [hfill] at hroad
    simp at hroad
    split at hroad <;> cases hroad
  | slotForSlot =>
    have hcond : (t1.mask == to.mask && to.dummies.isEmpty) = true := by
      unfold SetTable.road at hroad
      rw [hfill] at hroad
      rw [if_neg (by decide)] at hroad
      split at hroad
      · rename_i hh; exact hh
      · cases hroad
    simp only [Bool.and_eq_true, beq_iff_eq] at hcond
    refine ⟨(es, 2, { to with finger := t1.finger, led := t1.led && to.led, moves := t1.moves, plain := t1.plain && to.plain }), ⟨hel, hmem, hn, hb, hf⟩, by rw [← hcond.1]; exact q2, by simpa using hcond.2, ?_⟩
    intro A E s l Q ho h
    have hl : @LT.lt Nat _ l s.heap.objs.size := Heap.lt_size ho
    unfold Frozenset.copyOf Frozenset.baseOf
    refine wpAny_bind (wpAny_bind (isi_fs ho sub_fs_set ?_))
    refine wpAny_pure ?_
    unfold newSet setsByText
    refine wpAny_bind (wpAny_bind (wpAny_bind (wpAny_askSetting (wpAny_pure ?_))))
    dsimp only
    simp only [Bool.false_eq_true, ↓reduceIte, newObj]
    rw [hled']
    refine wpAny_bind (wpAny_alloc (wpAny_pure ?_))
    unfold Frozenset.addrOf
    refine wpAny_bind (wpAny_pure ?_)
    refine wpAny_bind ?_
    unfold setMerge
    have hnl : (s.heap.objs.size == l) = false := beq_eq_false_iff_ne.mpr (Nat.ne_of_gt hl)
    rw [hnl]
    have g1 : (s.heap.push (fsObj (#[], 0, SetTable.fresh 0 0 led))).get? s.heap.objs.size = some (fsObj (#[], 0, SetTable.fresh 0 0 led)) := Heap.get?_push_size _ rfl
    have g2 : (s.heap.push (fsObj (#[], 0, SetTable.fresh 0 0 led))).get? l = some (fsObj (es, ep, to)) := Heap.get?_push_of_some _ ho
    simp only [Bool.false_eq_true, ↓reduceIte]
    refine wpAny_bind (wpAny_setState_of g2 rfl hf ?_)
    dsimp only
    rw [hne]
    simp only [Bool.false_eq_true, ↓reduceIte]
    unfold setRoomFor
    refine wpAny_bind (wpAny_bind (wpAny_setState_of g1 rfl hf0 ?_))
    dsimp only
    rw [hwant]
    dsimp only
    refine relay_new g1 hf0 (by rw [hsz, sizeLine_eq]; decide) hrel rfl ?_
    dsimp only
    rw [upd_push]
    have g3 : (s.heap.push (fsObj (#[], 1, t1))).get? s.heap.objs.size = some (fsObj (#[], 1, t1)) := Heap.get?_push_size _ rfl
    refine wpAny_bind (wpAny_setState_of g3 rfl hf1 ?_)
    dsimp only
    rw [hroad]
    dsimp only
    refine wpAny_storeSet_of g3 rfl ?_ hz
    refine wpAny_pure ?_
    dsimp only
    rw [upd_push, putSet_of _ _ rfl]
    exact h
  | clean =>
    obtain ⟨t2, order, r1, r2, r3, r4, r5⟩ := laid_ok t1.finger t1.moves (t1.led && to.led) (t1.plain && to.plain) (es.map (·.1)) (by simp; omega)
    rw [Array.size_map] at r4 r5
    have hperm := filterMap_perm es order r5
    have hsz2 : (order.filterMap (es[·]?)).size = es.size := by rw [← Array.length_toList, hperm.length_eq, Array.length_toList]
    have hfill2 : t2.fits es.size = true := by
      unfold SetTable.fits SetTable.fill; rw [r4, r3, r2, hn]; simp; omega
    refine ⟨(order.filterMap (es[·]?), 2, t2), ⟨hel.perm hperm, fun k => (hmem k).trans ⟨fun ⟨e, he, q⟩ => ⟨e, hperm.mem_iff.mpr he, q⟩, fun ⟨e, he, q⟩ => ⟨e, hperm.mem_iff.mp he, q⟩⟩, by dsimp only; rw [hsz2]; exact hn, by dsimp only; omega, by dsimp only; rw [hsz2]; exact hfill2⟩, r2, r3, ?_⟩
    intro A E s l Q ho h
    have hl : @LT.lt Nat _ l s.heap.objs.size := Heap.lt_size ho
    unfold Frozenset.copyOf Frozenset.baseOf
    refine wpAny_bind (wpAny_bind (isi_fs ho sub_fs_set ?_))
    refine wpAny_pure ?_
    unfold newSet setsByText
    refine wpAny_bind (wpAny_bind (wpAny_bind (wpAny_askSetting (wpAny_pure ?_))))
    dsimp only
    simp only [Bool.false_eq_true, ↓reduceIte, newObj]
    rw [hled']
    refine wpAny_bind (wpAny_alloc (wpAny_pure ?_))
    unfold Frozenset.addrOf
    refine wpAny_bind (wpAny_pure ?_)
    refine wpAny_bind ?_
    unfold setMerge
    have hnl : (s.heap.objs.size == l) = false := beq_eq_false_iff_ne.mpr (Nat.ne_of_gt hl)
    rw [hnl]
    have g1 : (s.heap.push (fsObj (#[], 0, SetTable.fresh 0 0 led))).get? s.heap.objs.size = some (fsObj (#[], 0, SetTable.fresh 0 0 led)) := Heap.get?_push_size _ rfl
    have g2 : (s.heap.push (fsObj (#[], 0, SetTable.fresh 0 0 led))).get? l = some (fsObj (es, ep, to)) := Heap.get?_push_of_some _ ho
    simp only [Bool.false_eq_true, ↓reduceIte]
    refine wpAny_bind (wpAny_setState_of g2 rfl hf ?_)
    dsimp only
    rw [hne]
    simp only [Bool.false_eq_true, ↓reduceIte]
    unfold setRoomFor
    refine wpAny_bind (wpAny_bind (wpAny_setState_of g1 rfl hf0 ?_))
    dsimp only
    rw [hwant]
    dsimp only
    refine relay_new g1 hf0 (by rw [hsz, sizeLine_eq]; decide) hrel rfl ?_
    dsimp only
    rw [upd_push]
    have g3 : (s.heap.push (fsObj (#[], 1, t1))).get? s.heap.objs.size = some (fsObj (#[], 1, t1)) := Heap.get?_push_size _ rfl
    refine wpAny_bind (wpAny_setState_of g3 rfl hf1 ?_)
    dsimp only
    rw [hroad]
    dsimp only
    rw [q2, r1]
    refine wpAny_bind ?_
    show wpAny _ _ (if ((order.filterMap (es[·]?)).size != es.size) = true then _ else _) _ _ _
    rw [hsz2, if_neg (by simp)]
    refine wpAny_pure ?_
    refine wpAny_storeSet_of g3 rfl ?_ (by rw [hsz2]; exact hz)
    refine wpAny_pure ?_
    dsimp only
    rw [upd_push, putSet_of _ _ rfl]
    exact h
end
section
open PySem.Builtin
variable {w : World} {prog : Program}
theorem f_entry_or : entryFor table "frozenset.__or__" = some Builtin.«frozenset.__or__» := entryFor_of_tree (by kernel_rfl)
theorem f_entry_sub : entryFor table "frozenset.__sub__" = some Builtin.«frozenset.__sub__» := entryFor_of_tree (by kernel_rfl)
theorem one_inv {y : Str} {st : SetSt} (I : SInvT prog w [y] st) : ∃ t, st.1 = #[((strKind prog w).hash y, .str y t)] := by
  obtain ⟨hel, hmem, hn, hb, hf⟩ := I
  have hn' : st.1.size = 1 := hn
  obtain ⟨e, he⟩ : ∃ e, st.1 = #[e] := ⟨st.1[0], by
    apply Array.ext
    · simp [hn']
    · intro i h1 h2
      have : i = 0 := by omega
      subst this; rfl⟩
  rw [he] at hel hmem ⊢
  obtain ⟨e', he', hp⟩ := (hmem y).mp (List.mem_singleton.mpr rfl)
  have : e' = e := by simpa using he'
  subst this
  obtain ⟨⟨k, hk, hh⟩, _⟩ := hel e' (by simp)
  have hky : k = y := (strKind prog w).inj _ k y hk hp
  subst hky
  obtain ⟨t, ht⟩ := Value.isStrOf_shape hp
  refine ⟨t, ?_⟩
  obtain ⟨h, v⟩ := e'
  dsimp only at ht hh
  rw [ht, hh]
theorem pick_one {α : Type} (next : Nat → Nat) (x : α) : pickOrder next #[x] = #[x] := by
  unfold pickOrder
  show pickOrder.go next 1 0 [x] #[] = #[x]
  rw [pickOrder.go]
  have : next 0 % [x].length = 0 := Nat.mod_one _
  rw [this]
  rfl
theorem walk_one {A : Around} {E : Value → Shared → Prop} {s : Shared} {a : Addr} {e : Int × Value} {ep : Nat} {t : SetTable} {others : List Addr} {f : Option Addr} {Q : Array (Int × Value) → Shared → Prop} (ho : s.heap.get? a = some (fsObj (#[e], ep, t))) (hf : t.fits 1 = true)
    (h : Q #[e] s) : wpAny (model prog w) A (setWalkUnseen a others f) Q E s := by
  unfold setWalkUnseen setsByText
  refine wpAny_bind (wpAny_setState_of ho rfl hf ?_)
  dsimp only
  refine wpAny_bind (wpAny_bind (wpAny_askSetting (wpAny_pure ?_)))
  have hc : ((model prog w).w.params.followText "set-order" || t.led && t.plain || decide ((#[e] : Array (Int × Value)).size ≤ 1)) = true := by simp
  rw [if_pos hc]
  unfold setWalk setsByText
  refine wpAny_bind (wpAny_setState_of ho rfl hf ?_)
  dsimp only
  refine wpAny_bind (wpAny_bind (wpAny_askSetting (wpAny_pure ?_)))
  split
  · refine wpAny_bind (wpAny_askSetting ?_)
    refine wpAny_pure ?_
    rw [pick_one]
    exact h
  · show wpAny _ _ (if (!t.plain && decide ((#[e] : Array (Int × Value)).size > 1)) = true then _ else _) _ _ _
    rw [if_neg (by simp)]
    refine wpAny_bind ?_
    show wpAny _ _ (if (!t.led && decide ((#[e] : Array (Int × Value)).size > 1)) = true then _ else _) _ _ _
    rw [if_neg (by simp)]
    exact wpAny_pure (wpAny_pure h)
end
section
open PySem.Builtin
variable {w : World} {prog : Program}
theorem isAny_fs {A : Around} {E : Value → Shared → Prop} {s : Shared} {l : Addr} {st : SetSt} {Q : Bool → Shared → Prop} (ho : s.heap.get? l = some (fsObj st)) (h : Q true s) : wpAny (model prog w) A (Frozenset.isAnySet (.ref l)) Q E s := by
  unfold Frozenset.isAnySet
  refine wpAny_bind (isi_fs ho sub_fs_set ?_)
  exact isi_fs ho sub_fs_fs h
theorem slot_two {A : Around} {E : Value → Shared → Prop} {s : Shared} {a b : Value} {nm : String} {Q : Value × Value → Shared → Prop} (h : Q (a, b) s) : wpAny (model prog w) A (Frozenset.slot1 nm ⟨[a, b], []⟩) Q E s := by
  unfold Frozenset.slot1 slotArgs
  simp only [List.isEmpty_nil, Bool.not_true, Bool.false_eq_true, ↓reduceIte, List.length_cons, List.length_nil]
  exact wpAny_bind (wpAny_pure (wpAny_pure h))
theorem merge_one {A : Around} {E : Value → Shared → Prop} {s : Shared} {n r : Addr} {L : List Str} {y : Str} {st sr : SetSt} {ty : Tok} {id : String} {Q : Unit → Shared → Prop} (I : SInvT prog w L st) (J : SInvT prog w [y] sr) (hm : st.2.2.mask = 127) (hd : st.2.2.dummies = #[]) (hL : L.length = 32) (hy : y ∉ L) (hnr : n ≠ r)
    (ht : sr.1 = #[((strKind prog w).hash y, .str y ty)]) (h1 : s.heap.get? n = some (fsObj st)) (h2 : s.heap.get? r = some (fsObj sr)) (h : Q () { s with heap := s.heap.update n (fun _ => fsObj (addF prog w st y ty)) }) :
    wpAny (model prog w) A (Frozenset.merge id n r) Q E s := by
  have I0 := I
  obtain ⟨es, ep, t⟩ := st
  obtain ⟨er, epr, tr⟩ := sr
  dsimp only at ht hm hd
  subst ht
  obtain ⟨hel, hmem, hn, hb, hf⟩ := I
  obtain ⟨_, _, hn2, hb2, hf2⟩ := J
  dsimp only at hel hmem hn hb hf hn2 hb2 hf2
  have hfill : t.fill = 32 := by
    unfold SetTable.fits at hf
    simp only [Bool.and_eq_true, beq_iff_eq] at hf
    unfold SetTable.fill
    rw [hf.1, hd, hn, hL]; rfl
  have hroom : t.roomFor 1 = none := by
    unfold SetTable.roomFor
    rw [hfill, hm]; rfl
  have hroad : t.road tr = .oneByOne := by
    unfold SetTable.road
    rw [hfill]; rfl
  unfold Frozenset.merge
  refine wpAny_bind (wpAny_setEpoch_of h2 rfl hf2 ?_)
  unfold setMerge
  have hnl : (n == r) = false := beq_eq_false_iff_ne.mpr hnr
  rw [hnl]
  simp only [Bool.false_eq_true, ↓reduceIte]
  refine wpAny_bind (wpAny_setState_of h2 rfl hf2 ?_)
  dsimp only
  have he : (#[((strKind prog w).hash y, Value.str y ty)] : Array (Int × Value)).isEmpty = false := rfl
  rw [he]
  simp only [Bool.false_eq_true, ↓reduceIte]
  unfold setRoomFor
  refine wpAny_bind (wpAny_bind (wpAny_setState_of h1 rfl hf ?_))
  dsimp only
  have hs1 : (#[((strKind prog w).hash y, Value.str y ty)] : Array (Int × Value)).size = 1 := rfl
  rw [hs1, hroom]
  refine wpAny_pure ?_
  refine wpAny_bind (wpAny_setState_of h1 rfl hf ?_)
  dsimp only
  rw [hroad]
  dsimp only
  refine wpAny_bind (walk_one h2 hf2 ?_)
  simp only [List.forIn_cons, List.forIn_nil, ← Array.forIn_toList]
  have h2' : (s.heap.update n (fun _ => fsObj (addF prog w (es, ep, t) y ty))).get? r = some (fsObj (#[((strKind prog w).hash y, .str y ty)], epr, tr)) := (Heap.get?_update_ne _ _ _ _ (Ne.symm hnr)).trans h2
  refine wpAny_bind (wpAny_bind (wpAny_bind (wpAny_holding (f_addH I0 hy (by omega) h1 ?_))))
  unfold Frozenset.unchanged
  have hee : (epr != epr) = false := by simp
  refine wpAny_bind (wpAny_bind (wpAny_setEpoch_of h2' rfl hf2 ?_))
  rw [hee]
  refine wpAny_pure ?_
  refine wpAny_bind (wpAny_setState_of h2' rfl hf2 ?_)
  dsimp only
  rw [hee]
  refine wpAny_pure ?_
  exact wpAny_pure (wpAny_pure h)
theorem or_ex (w : World) {L1 L2 : List Str} {s1 s2 : SetSt} (I : SInvT prog w L1 s1) (J : SInvT prog w L2 s2) (hL1 : L1.length = 32) (hL2 : L2.length = 1) (hdis : ∀ x ∈ L2, x ∉ L1) : ∃ st' : SetSt, SInvT prog w (L1 ++ L2) st' ∧
    ∀ {A : Around} {s : Shared} {l r : Addr} {R : Result → Shared → Prop}, s.heap.get? l = some (fsObj s1) → s.heap.get? r = some (fsObj s2) → R (.ok (.ret (.ref s.heap.objs.size))) { s with heap := s.heap.push (fsObj st') } →
      codeAny (model prog w) A (.builtin "frozenset.__or__" ⟨[.ref l, .ref r], []⟩) R s := by
  obtain ⟨y, rfl⟩ : ∃ y, L2 = [y] := by
    match L2, hL2 with
    | [y], _ => exact ⟨y, rfl⟩
  have hy : y ∉ L1 := hdis y (.head _)
  obtain ⟨ty, hty⟩ := one_inv J
  obtain ⟨c, K, k1, k2, kw⟩ := copy_ex w I (.inl hL1)
  have K2 := inv_add (t := ty) K hy (by omega)
  refine ⟨addF prog w c y ty, ⟨K2.1, fun k => ?_, ?_, K2.2.2.2.1, K2.2.2.2.2⟩, ?_⟩
  · rw [← K2.2.1 k]; simp [or_comm]
  · rw [K2.2.2.1]; simp
  · intro A s l r R h1 h2 h
    have hlr : l ≠ r := fun e => by
      subst e
      rw [h1] at h2
      have := congrArg (fun o : Obj => match o.data with | .set es _ _ => es.size | _ => 0) (Option.some.inj h2)
      have e2 : s1.1.size = s2.1.size := this
      rw [I.2.2.1, J.2.2.1, hL1] at e2
      cases e2
    have hl : @LT.lt Nat _ l s.heap.objs.size := Heap.lt_size h1
    have hr : @LT.lt Nat _ r s.heap.objs.size := Heap.lt_size h2
    refine codeAny_builtin f_entry_or ?_
    show wpAny _ _ (Frozenset.slot1 "__or__" ⟨[.ref l, .ref r], []⟩ >>= fun x => _) _ _ _
    refine wpAny_bind (slot_two ?_)
    dsimp only
    simp only [Bool.false_eq_true, ↓reduceIte]
    refine wpAny_bind ?_
    show wpAny _ _ (Frozenset.isAnySet (.ref l) >>= fun b => _) _ _ _
    refine wpAny_bind (isAny_fs h1 ?_)
    refine isAny_fs h2 ?_
    simp only [Bool.not_true, Bool.false_eq_true, ↓reduceIte]
    unfold Frozenset.addrOf
    refine wpAny_bind (wpAny_pure ?_)
    refine wpAny_bind ?_
    show wpAny _ _ (Frozenset.copyOf l >>= fun result => _) _ _ _
    refine wpAny_bind (kw h1 ?_)
    have hne : (Value.ref r != Value.ref l) = true := bne_iff_ne.mpr fun e => by injection e with e; exact hlr e.symm
    rw [hne]
    simp only [↓reduceIte]
    have g1 : (s.heap.push (fsObj c)).get? s.heap.objs.size = some (fsObj c) := Heap.get?_push_size _ rfl
    have g2 : (s.heap.push (fsObj c)).get? r = some (fsObj s2) := Heap.get?_push_of_some _ h2
    have hnr : s.heap.objs.size ≠ r := Nat.ne_of_gt hr
    show wpAny _ _ (pure s.heap.objs.size >>= fun a => _) _ _ _
    refine wpAny_bind (wpAny_pure ?_)
    refine wpAny_bind (wpAny_holding ?_)
    unfold Frozenset.updateFrom
    refine wpAny_bind (isAny_fs g2 ?_)
    simp only [↓reduceIte]
    show wpAny _ _ (pure r >>= fun a => _) _ _ _
    refine wpAny_bind (wpAny_pure ?_)
    refine merge_one K J k1 k2 hL1 hy hnr hty g1 g2 ?_
    refine wpAny_pure ?_
    refine wpAny_pure ?_
    dsimp only
    rw [upd_push]
    exact h
end
section
open PySem.Builtin
variable {w : World} {prog : Program}
noncomputable def keyOf (v : Value) : Str := match v with | .str x _ => x | _ => Str.empty
theorem erase_perm {α : Type} : ∀ {l : List α} {i : Nat} (h : i < l.length), (l[i] :: l.eraseIdx i).Perm l
  | x :: l, 0, _ => List.Perm.refl _
  | x :: l, i + 1, h => by
    have h' : i < l.length := by simpa using h
    have ih := erase_perm (l := l) (i := i) h'
    show (l[i] :: x :: l.eraseIdx i).Perm (x :: l)
    exact (List.Perm.swap _ _ _).trans (ih.cons x)
theorem perm_of_sub : ∀ {L keys : List Str}, L.Nodup → (∀ k ∈ L, k ∈ keys) → keys.length ≤ L.length → keys.Perm L
  | [], keys, _, _, h => by rw [List.length_eq_zero_iff.mp (Nat.le_zero.mp h)]
  | x :: L, keys, hn, hs, h => by
    have hn' := List.nodup_cons.mp hn
    have hx := hs x (.head _)
    have ih := perm_of_sub (keys := keys.erase x) hn'.2 (fun k hk => (List.mem_erase_of_ne (fun e : k = x => hn'.1 (e ▸ hk))).mpr (hs k (.tail _ hk))) (by
      rw [List.length_erase_of_mem hx]; simp at h; omega)
    exact (List.perm_cons_erase hx).trans (ih.cons x)
/-- the walk of `-` -/
theorem f_discard (w : World) {L : List Str} {st : SetSt} {y : Str} {ty : Tok} (I : SInvT prog w L st) (hd : st.2.2.dummies = #[]) (hy : y ∈ L) (hn : L.Nodup) :
    ∃ st' : SetSt, SInvT prog w (L.filter fun x => !([y].contains x)) st' ∧ st'.2.2.mask = st.2.2.mask ∧ st'.2.2.dummies.size ≤ 1 ∧
      ∀ {A : Around} {E : Value → Shared → Prop} {s : Shared} {a : Addr} {Q : Bool → Shared → Prop}, s.heap.get? a = some (fsObj st) → Q true { s with heap := s.heap.update a (fun _ => fsObj st') } → wpAny (model prog w) A (setDiscardHashed a (.str y ty) ((strKind prog w).hash y)) Q E s := by
  have I0 := I
  obtain ⟨es, ep, t⟩ := st
  obtain ⟨hel, hmem, hsz, hb, hf⟩ := I
  dsimp only at hel hmem hsz hb hf hd ⊢
  have hkey := strKind_is prog w y ty
  have hb0 : es.size < scanBound := by unfold scanBound; omega
  cases hr : List.findIdx? (fun e => (strKind prog w).is y e.2) es.toList with
  | none =>
    exfalso
    obtain ⟨e, he, hp⟩ := (hmem y).mp hy
    have := List.findIdx?_eq_none_iff.mp hr e he
    rw [hp] at this; cases this
  | some i =>
    obtain ⟨hi, hpi, hbef⟩ := List.findIdx?_eq_some_iff_getElem.mp hr
    have hi' : i < es.size := by simpa using hi
    have hfs := hf
    unfold SetTable.fits at hfs
    simp only [Bool.and_eq_true, beq_iff_eq, decide_eq_true_eq] at hfs
    have hpl : i < t.place.size := by omega
    have hdrop : t.drop i = { t with place := SetTable.eraseAt t.place i, dummies := SetTable.insertAt t.dummies (SetTable.below t.dummies t.place[i]) t.place[i] } := by
      unfold SetTable.drop; rw [Array.getElem?_eq_getElem hpl]
    have her : (SetTable.eraseAt es i).toList = es.toList.eraseIdx i := by
      unfold SetTable.eraseAt
      rw [Array.toList_append, Array.toList_extract, Array.toList_extract, List.eraseIdx_eq_take_drop_succ]
      simp
      exact List.take_of_length_le (by simp)
    have herp : (SetTable.eraseAt t.place i).size = es.size - 1 := by
      unfold SetTable.eraseAt; simp; omega
    have hers : (SetTable.eraseAt es i).size = es.size - 1 := by
      unfold SetTable.eraseAt; simp; omega
    have hins : (SetTable.insertAt t.dummies (SetTable.below t.dummies t.place[i]) t.place[i]).size ≤ 1 := by
      rw [hd]; unfold SetTable.insertAt; simp
    have hkeys : ∀ e ∈ es.toList, ∀ k, (strKind prog w).is k e.2 = true ↔ k = keyOf e.2 := fun e he k => by
      obtain ⟨⟨k', hk', _⟩, _⟩ := hel e he
      obtain ⟨t', ht'⟩ := Value.isStrOf_shape hk'
      rw [ht']
      exact ⟨fun h => (strKind prog w).inj _ k k' h (strKind_is prog w k' t'), fun h => by rw [h]; exact strKind_is prog w k' t'⟩
    have hyi : y = keyOf es.toList[i].2 := (hkeys _ (List.getElem_mem hi) y).mp hpi
    have hperm : (es.toList.map fun e => keyOf e.2).Perm L := perm_of_sub hn (fun k hk => by
      obtain ⟨e, he, hp⟩ := (hmem k).mp hk
      exact List.mem_map.mpr ⟨e, he, ((hkeys e he k).mp hp).symm⟩) (by simp; omega)
    have hrest : ((es.toList.eraseIdx i).map fun e => keyOf e.2).Perm (L.filter fun x => !([y].contains x)) := by
      have h1 := (erase_perm hi).map fun e => keyOf e.2
      rw [List.map_cons, ← hyi] at h1
      have h2 := h1.trans hperm
      have h3 := h2.filter fun x => !([y].contains x)
      rw [List.filter_cons_of_neg (by simp)] at h3
      have h4 : y ∉ (es.toList.eraseIdx i).map fun e => keyOf e.2 := (List.nodup_cons.mp (h2.nodup_iff.mpr hn)).1
      rw [List.filter_eq_self.mpr (fun x hx => by
        simp only [Bool.not_eq_true', List.contains_eq_mem, decide_eq_false_iff_not, List.mem_singleton]
        exact fun e => h4 (e ▸ hx))] at h3
      exact h3
    refine ⟨(SetTable.eraseAt es i, ep + 1, t.drop i), ⟨?_, ?_, ?_, ?_, ?_⟩, by rw [hdrop], by rw [hdrop]; exact hins, ?_⟩
    · rw [her]; exact fun e he => hel e (List.mem_of_mem_eraseIdx he)
    · intro k
      rw [← hrest.mem_iff, her]
      constructor
      · intro hk
        obtain ⟨e, he, rfl⟩ := List.mem_map.mp hk
        exact ⟨e, he, (hkeys e (List.mem_of_mem_eraseIdx he) _).mpr rfl⟩
      · rintro ⟨e, he, hp⟩
        rw [(hkeys e (List.mem_of_mem_eraseIdx he) _).mp hp]
        exact List.mem_map.mpr ⟨e, he, rfl⟩
    · dsimp only
      rw [← hrest.length_eq, List.length_map, ← her, Array.length_toList]
    · dsimp only; omega
    · unfold SetTable.fits SetTable.fill
      rw [hdrop]
      dsimp only
      have : t.fill = t.place.size := by unfold SetTable.fill; rw [hd]; rfl
      simp only [Bool.and_eq_true, beq_iff_eq, decide_eq_true_eq]
      omega
    · intro A E s a Q ho h
      unfold setDiscardHashed setFind setFindIn
      refine wpAny_bind (wpAny_bind (wpAny_setState_of ho rfl hf ?_))
      dsimp only
      rw [byScan_of (x := .str y ty) rfl hb0 hel]
      simp only [↓reduceIte]
      refine wpAny_bind (wpAny_rule (wpAny_bind (wpAny_setScan_of hkey ho rfl hf hel ?_)))
      rw [hr]
      dsimp only
      refine wpAny_pure ?_
      (try dsimp only)
      rw [Nat.zero_add]
      refine wpAny_bind (wpAny_setState_of ho rfl hf ?_)
      dsimp only
      refine wpAny_bind (wpAny_storeSet_of ho rfl ?_ (by rw [hers, sizeLine_eq]; omega))
      refine wpAny_bind (wpAny_point ?_)
      refine wpAny_pure ?_
      (try dsimp only)
      rw [upd_congr (g := fun _ => fsObj (SetTable.eraseAt es i, ep + 1, t.drop i)) ho (by rw [putSet_of _ _ rfl]; rfl)]
      exact h
end
section
open PySem.Builtin
variable {w : World} {prog : Program}
theorem size_of {A : Around} {E : Value → Shared → Prop} {s : Shared} {a : Addr} {st : SetSt} {n : Nat} {Q : Nat → Shared → Prop} (ho : s.heap.get? a = some (fsObj st)) (hf : st.2.2.fits st.1.size = true) (hn : st.1.size = n) (h : Q n s) : wpAny (model prog w) A (Frozenset.sizeOf a) Q E s := by
  unfold Frozenset.sizeOf
  refine wpAny_bind (wpAny_setEntries_of (es := st.1) (ep := st.2.1) (t := st.2.2) ho rfl hf ?_)
  rw [hn]; exact wpAny_pure h
theorem sub_ex (w : World) {L1 L2 : List Str} {s1 s2 : SetSt} (I : SInvT prog w L1 s1) (J : SInvT prog w L2 s2) (hL1 : L1.length = 33) (hL2 : L2.length = 1) (hin : ∀ x ∈ L2, x ∈ L1) (hnd : L1.Nodup) : ∃ st' : SetSt, SInvT prog w (L1.filter fun x => !L2.contains x) st' ∧
    ∀ {A : Around} {s : Shared} {l r : Addr} {R : Result → Shared → Prop}, s.heap.get? l = some (fsObj s1) → s.heap.get? r = some (fsObj s2) → R (.ok (.ret (.ref s.heap.objs.size))) { s with heap := s.heap.push (fsObj st') } →
      codeAny (model prog w) A (.builtin "frozenset.__sub__" ⟨[.ref l, .ref r], []⟩) R s := by
  obtain ⟨y, rfl⟩ : ∃ y, L2 = [y] := by
    match L2, hL2 with
    | [y], _ => exact ⟨y, rfl⟩
  have hy : y ∈ L1 := hin y (.head _)
  obtain ⟨ty, hty⟩ := one_inv J
  obtain ⟨c, K, k1, k2, kw⟩ := copy_ex w I (.inr hL1)
  obtain ⟨d, D, d1, d2, dw⟩ := f_discard w (ty := ty) K k2 hy hnd
  refine ⟨d, D, ?_⟩
  intro A s l r R h1 h2 h
  have hlr : l ≠ r := fun e => by
    subst e
    rw [h1] at h2
    have := congrArg (fun o : Obj => match o.data with | .set es _ _ => es.size | _ => 0) (Option.some.inj h2)
    have e2 : s1.1.size = s2.1.size := this
    rw [I.2.2.1, J.2.2.1, hL1] at e2
    cases e2
  have hl : @LT.lt Nat _ l s.heap.objs.size := Heap.lt_size h1
  have hr : @LT.lt Nat _ r s.heap.objs.size := Heap.lt_size h2
  have hnr : s.heap.objs.size ≠ r := Nat.ne_of_gt hr
  refine codeAny_builtin f_entry_sub ?_
  show wpAny _ _ (Frozenset.slot1 "__sub__" ⟨[.ref l, .ref r], []⟩ >>= fun x => _) _ _ _
  refine wpAny_bind (slot_two ?_)
  dsimp only
  simp only [Bool.false_eq_true, ↓reduceIte]
  refine wpAny_bind ?_
  show wpAny _ _ (Frozenset.isAnySet (.ref l) >>= fun b => _) _ _ _
  refine wpAny_bind (isAny_fs h1 ?_)
  refine isAny_fs h2 ?_
  simp only [Bool.not_true, Bool.false_eq_true, ↓reduceIte]
  show wpAny _ _ (pure l >>= fun a => _) _ _ _
  refine wpAny_bind (wpAny_pure ?_)
  refine wpAny_bind ?_
  unfold Frozenset.difference
  refine wpAny_bind (isAny_fs h2 ?_)
  simp only [Bool.not_true, Bool.false_eq_true, ↓reduceIte, Bool.false_and]
  show wpAny _ _ (pure r >>= fun a => _) _ _ _
  refine wpAny_bind (wpAny_pure ?_)
  refine wpAny_bind (size_of h2 J.2.2.2.2 (n := 1) J.2.2.1 ?_)
  refine wpAny_bind (size_of h1 I.2.2.2.2 (n := 33) (I.2.2.1.trans hL1) ?_)
  rw [if_pos (by decide)]
  refine wpAny_bind (wpAny_rule ?_)
  refine wpAny_bind (kw h1 ?_)
  have g1 : (s.heap.push (fsObj c)).get? s.heap.objs.size = some (fsObj c) := Heap.get?_push_size _ rfl
  have g2 : (s.heap.push (fsObj c)).get? r = some (fsObj s2) := Heap.get?_push_of_some _ h2
  show wpAny _ _ (pure s.heap.objs.size >>= fun a => _) _ _ _
  refine wpAny_bind (wpAny_pure ?_)
  refine wpAny_bind (wpAny_holding ?_)
  unfold Frozenset.differenceUpdate
  have hne : (Value.ref r == Value.ref s.heap.objs.size) = false := beq_eq_false_iff_ne.mpr fun e => by injection e with e; exact hnr e.symm
  rw [hne]
  simp only [Bool.false_eq_true, ↓reduceIte]
  refine wpAny_bind (isAny_fs g2 ?_)
  simp only [↓reduceIte]
  show wpAny _ _ (pure r >>= fun a => _) _ _ _
  refine wpAny_bind (wpAny_pure ?_)
  refine wpAny_bind (size_of g2 J.2.2.2.2 (n := 1) J.2.2.1 ?_)
  refine wpAny_bind (size_of g1 K.2.2.2.2 (n := 33) (K.2.2.1.trans hL1) ?_)
  rw [if_neg (by decide)]
  obtain ⟨er, epr, tr⟩ := s2
  dsimp only at hty
  subst hty
  have hf2 : tr.fits 1 = true := J.2.2.2.2
  refine wpAny_bind (wpAny_setEpoch_of g2 rfl hf2 ?_)
  refine wpAny_bind (wpAny_holding (wpAny_bind (walk_one g2 hf2 ?_)))
  simp only [List.forIn_cons, List.forIn_nil, ← Array.forIn_toList]
  have g2' : ((s.heap.push (fsObj c)).update s.heap.objs.size (fun _ => fsObj d)).get? r = some (fsObj (#[((strKind prog w).hash y, .str y ty)], epr, tr)) := (Heap.get?_update_ne _ _ _ _ (Ne.symm hnr)).trans g2
  have g1' : ((s.heap.push (fsObj c)).update s.heap.objs.size (fun _ => fsObj d)).get? s.heap.objs.size = some (fsObj d) := by rw [upd_push]; exact Heap.get?_push_size _ rfl
  refine wpAny_bind (wpAny_bind (wpAny_bind (wpAny_holding (dw g1 ?_))))
  unfold Frozenset.unchanged
  have hee : (epr != epr) = false := by simp
  refine wpAny_bind (wpAny_bind (wpAny_setEpoch_of g2' rfl hf2 ?_))
  rw [hee]
  refine wpAny_pure ?_
  refine wpAny_pure ?_
  refine wpAny_pure ?_
  refine wpAny_pure ?_
  unfold setTidy
  refine wpAny_bind (wpAny_setState_of (es := d.1) (ep := d.2.1) (t := d.2.2) g1' rfl D.2.2.2.2 ?_)
  dsimp only
  have htm : d.2.2.tooManyDummies = false := by
    unfold SetTable.tooManyDummies
    rw [d1, k1]
    simp; omega
  rw [htm]
  simp only [Bool.false_eq_true, ↓reduceIte]
  refine wpAny_pure ?_
  refine wpAny_pure ?_
  refine wpAny_pure ?_
  dsimp only
  rw [upd_push]
  exact h
end
section
open PySem.Builtin
variable {w : World} {prog : Program}
theorem wp_pos {α : Type} {M : Model} {Γ : Ctx} {Q : α → Shared → Prop} : ∀ (t : Sem α) (p : Pos) (s : Shared), Sem.wp M Γ t (fun a _ s' => Q a s') (fun _ _ _ => False) p s → ∃ p', Sem.wp M Γ t (fun a p₂ s₂ => p₂ = p' ∧ Q a s₂) (fun _ _ _ => False) p s := by
  intro t
  induction t with
  | pure a => exact fun p s h => ⟨p, rfl, h⟩
  | raise e => exact fun p s h => h.elim
  | unsupported | finish | «yield» | fork | await | register => exact fun p s h => h.elim
  | rule _ k ih => exact fun p s h => ih () p s h
  | «at» q k ih => exact fun p s h => ih () q s h
  | point _ k ih => exact fun p s h => ih () p s h
  | loadIfAlive a k ih => exact fun p s h => ih _ p s h
  | alloc o k ih => exact fun p s h => ih _ p _ h
  | fresh k ih => exact fun p s h => ih _ p _ h
  | ask k ih => exact fun p s h => ih _ p s h
  | os q l k ih => exact fun p s h => ih _ p _ h
  | handled own k ih => exact fun p s h => ih _ p s h
  | newGen c k ih => exact fun p s h => ih _ p _ h
  | stack k ih => exact fun p s h => ih _ p s h
  | thread k ih => exact fun p s h => ih _ p s h
  | load a _ k ih =>
    rintro p s ⟨o, ho, h⟩
    obtain ⟨p', h'⟩ := ih o p s h
    exact ⟨p', o, ho, h'⟩
  | genState a k ih =>
    rintro p s ⟨o, ho, h⟩
    obtain ⟨p', h'⟩ := ih _ p s h
    exact ⟨p', o, ho, h'⟩
  | update a _ f k ih =>
    rintro p s ⟨ho, h⟩
    obtain ⟨p', h'⟩ := ih () p _ h
    exact ⟨p', ho, h'⟩
  | choose src n k ih =>
    rintro p s ⟨hn, h⟩
    obtain ⟨p', h'⟩ := ih _ p _ h
    exact ⟨p', hn, h'⟩
  | call c hh g l k ih =>
    rintro p s ⟨r, s₁, hr, h⟩
    obtain ⟨p', h'⟩ := ih r p s₁ h
    exact ⟨p', r, s₁, hr, h'⟩
  | resume g r l k ih =>
    rintro p s ⟨r, s₁, hr, h⟩
    obtain ⟨p', h'⟩ := ih r p s₁ h
    exact ⟨p', r, s₁, hr, h'⟩
noncomputable def roundOf (Γ : Ctx) : Around := ⟨Γ.handled, frameCount Γ.below + Γ.code.weight, none, none, Γ.units⟩
theorem in_round (Γ : Ctx) : Γ.In (roundOf Γ) := ⟨rfl, Nat.le_refl _, fun l h => (nomatch h), fun g h => (nomatch h), Nat.le_refl _⟩
noncomputable def belowOf (Γ : Ctx) : Around := ⟨Γ.handled, frameCount Γ.below, none, none, unitsOf Γ.below⟩
theorem below_round (Γ : Ctx) : Γ.Below (belowOf Γ) := ⟨rfl, Nat.le_refl _, fun l h => (nomatch h), fun g h => (nomatch h), Nat.le_refl _⟩
theorem runs_of_code {M : Model} {Γ : Ctx} {p : Pos} {s s' : Shared} {c : Code} {r : Result} (hc : Γ.code = c) (h : ∀ (A : Around) (R : Result → Shared → Prop), R r s' → codeAny M A c R s) : Runs M Γ p (M.den Γ.code) [] s (.ret r) s' := by
  obtain ⟨r₂, s₂, hr, rfl, rfl⟩ := h (belowOf Γ) (fun r₂ s₂ => r₂ = r ∧ s₂ = s') ⟨rfl, rfl⟩ Γ p hc (below_round Γ)
  exact hr
theorem SInvT.move {L L' : List Str} {st : SetSt} (I : SInvT prog w L st) (h : ∀ k, k ∈ L ↔ k ∈ L') (hl : L.length = L'.length) : SInvT prog w L' st := ⟨I.1, fun k => (h k).symm.trans (I.2.1 k), I.2.2.1.trans hl, I.2.2.2.1, I.2.2.2.2⟩
theorem SInvT.same {L L' : List Str} {st : SetSt} (I : SInvT prog w L st) (J : SInvT prog w L' st) (k : Str) : k ∈ L ↔ k ∈ L' := (I.2.1 k).trans (J.2.1 k).symm
structure OrHyp (prog : Program) (w : World) (s1 s2 : SetSt) (L1 L2 : List Str) : Prop where
  i1 : SInvT prog w L1 s1
  i2 : SInvT prog w L2 s2
  l1 : L1.length = 32
  l2 : L2.length = 1
  no : ∀ x ∈ L2, x ∉ L1
structure SubHyp (prog : Program) (w : World) (s1 s2 : SetSt) (L1 L2 : List Str) : Prop where
  i1 : SInvT prog w L1 s1
  i2 : SInvT prog w L2 s2
  l1 : L1.length = 33
  l2 : L2.length = 1
  yes : ∀ x ∈ L2, x ∈ L1
  nd : L1.Nodup
theorem or_fun (prog : Program) (w : World) (s1 s2 : SetSt) : ∃ st' : SetSt, ∀ L1 L2, OrHyp prog w s1 s2 L1 L2 → SInvT prog w (L1 ++ L2) st' ∧
    ∀ {A : Around} {s : Shared} {l r : Addr} {R : Result → Shared → Prop}, s.heap.get? l = some (fsObj s1) → s.heap.get? r = some (fsObj s2) → R (.ok (.ret (.ref s.heap.objs.size))) { s with heap := s.heap.push (fsObj st') } →
      codeAny (model prog w) A (.builtin "frozenset.__or__" ⟨[.ref l, .ref r], []⟩) R s := by
  by_cases h : ∃ L1 L2, OrHyp prog w s1 s2 L1 L2
  · obtain ⟨L1, L2, h⟩ := h
    obtain ⟨st', i, k⟩ := or_ex w h.i1 h.i2 h.l1 h.l2 h.no
    refine ⟨st', fun M1 M2 g => ⟨i.move (fun x => ?_) (by simp [h.l1, h.l2, g.l1, g.l2]), k⟩⟩
    rw [List.mem_append, List.mem_append, h.i1.same g.i1, h.i2.same g.i2]
  · exact ⟨s1, fun L1 L2 g => absurd ⟨L1, L2, g⟩ h⟩
theorem sub_fun (prog : Program) (w : World) (s1 s2 : SetSt) : ∃ st' : SetSt, ∀ L1 L2, SubHyp prog w s1 s2 L1 L2 → SInvT prog w (L1.filter fun x => !L2.contains x) st' ∧
    ∀ {A : Around} {s : Shared} {l r : Addr} {R : Result → Shared → Prop}, s.heap.get? l = some (fsObj s1) → s.heap.get? r = some (fsObj s2) → R (.ok (.ret (.ref s.heap.objs.size))) { s with heap := s.heap.push (fsObj st') } →
      codeAny (model prog w) A (.builtin "frozenset.__sub__" ⟨[.ref l, .ref r], []⟩) R s := by
  by_cases h : ∃ L1 L2, SubHyp prog w s1 s2 L1 L2
  · obtain ⟨L1, L2, h⟩ := h
    obtain ⟨st', i, k⟩ := sub_ex w h.i1 h.i2 h.l1 h.l2 h.yes h.nd
    refine ⟨st', fun M1 M2 g => ⟨i.move (fun x => ?_) ?_, k⟩⟩
    · simp only [List.mem_filter, Bool.not_eq_true', List.contains_eq_mem, decide_eq_false_iff_not]
      rw [h.i1.same g.i1, h.i2.same g.i2]
    · have hp : L1.Perm M1 := perm_of_sub g.nd (fun k hk => (h.i1.same g.i1 k).mpr hk) (by rw [h.l1, g.l1]; exact Nat.le_refl _)
      have e : (fun x => !L2.contains x) = fun x => !M2.contains x := by
        funext x
        congr 1
        rw [Bool.eq_iff_iff]
        simp only [List.contains_eq_mem, decide_eq_true_eq]
        exact h.i2.same g.i2 x
      rw [e]
      exact (hp.filter _).length_eq
  · exact ⟨s1, fun L1 L2 g => absurd ⟨L1, L2, g⟩ h⟩
open Classical in
noncomputable def ops (prog : Program) (w : World) : Ops where
  pos Γ p s a x t := if h : ∃ p', ∃ st, s.heap.get? a = some (fsObj st) ∧ Sem.wp (model prog w) Γ (setAdd a (.str x t)) (fun _ p₂ s₂ => p₂ = p' ∧ s₂ = { s with heap := s.heap.update a (fun _ => fsObj (addF prog w st x t)), toks := s.toks + 1 }) (fun _ _ _ => False) p s then h.choose else p
  add := addF prog w
  or s1 s2 := (or_fun prog w s1 s2).choose
  sub s1 s2 := (sub_fun prog w s1 s2).choose
theorem fsObj_inj {a b : SetSt} (h : fsObj a = fsObj b) : a = b := by
  have hd : Data.set a.1 a.2.1 a.2.2 = Data.set b.1 b.2.1 b.2.2 := congrArg Obj.data h
  injection hd with q1 q2 q3
  obtain ⟨a1, a2, a3⟩ := a
  obtain ⟨b1, b2, b3⟩ := b
  dsimp only at q1 q2 q3
  rw [q1, q2, q3]
theorem ops_ok (prog : Program) (w : World) : OpsOk prog w (ops prog w) where
  empty ep t h := ⟨fun e he => by simp at he, fun k => by simp, rfl, by show (0 : Nat) < 200; decide, h⟩
  addI L st x t I hx hl := inv_add I hx hl
  add L st x t Γ p s a I hx hl ho := by
    have h0 : wpAny (model prog w) (roundOf Γ) (setAdd a (.str x t)) (fun _ s₂ => s₂ = { s with heap := s.heap.update a (fun _ => fsObj (addF prog w st x t)), toks := s.toks + 1 }) (fun _ _ => False) s := f_add I hx hl ho rfl
    obtain ⟨p', h1⟩ := wp_pos _ p s (h0 Γ p (in_round Γ))
    have hex : ∃ p', ∃ st, s.heap.get? a = some (fsObj st) ∧ Sem.wp (model prog w) Γ (setAdd a (.str x t)) (fun _ p₂ s₂ => p₂ = p' ∧ s₂ = { s with heap := s.heap.update a (fun _ => fsObj (addF prog w st x t)), toks := s.toks + 1 }) (fun _ _ _ => False) p s := ⟨p', st, ho, h1⟩
    have e : (ops prog w).pos Γ p s a x t = hex.choose := dif_pos hex
    rw [e]
    obtain ⟨st2, ho2, h2⟩ := hex.choose_spec
    have : st2 = st := fsObj_inj (Option.some.inj (ho2.symm.trans ho))
    subst this
    exact h2
  orI L1 L2 s1 s2 I J h1 h2 h3 := ((or_fun prog w s1 s2).choose_spec L1 L2 ⟨I, J, h1, h2, h3⟩).1
  or L1 L2 s1 s2 Γ p s l r I J h1 h2 h3 g1 g2 hc := runs_of_code hc fun A R h => ((or_fun prog w s1 s2).choose_spec L1 L2 ⟨I, J, h1, h2, h3⟩).2 g1 g2 h
  subI L1 L2 s1 s2 I J h1 h2 h3 h4 := ((sub_fun prog w s1 s2).choose_spec L1 L2 ⟨I, J, h1, h2, h3, h4⟩).1
  sub L1 L2 s1 s2 Γ p s l r I J h1 h2 h3 h4 g1 g2 hc := runs_of_code hc fun A R h => ((sub_fun prog w s1 s2).choose_spec L1 L2 ⟨I, J, h1, h2, h3, h4⟩).2 g1 g2 h
end
open PySem.W in
abbrev prg0 : Program := PySem.Challenge.rw_in0014_01.row.prog
noncomputable def ctx0 : Ctx := ⟨.builtin "claim.caller" {}, none, none, [], none⟩
noncomputable def st0 (w : World) (os : OsState) : Shared := ⟨PySem.W.boot_heap w.params, Array.mk [], PySem.W.boot_drawn, PySem.W.boot_toks, os⟩
noncomputable def run0 (w : World) (O : Ops) (os : OsState) (n : Nat) : Option (Out × Shared × Trace) := ev (denote treeTable) ⟨prg0, w.params⟩ O n (.fin ctx0 default (PySem.W.topStub prg0).cur) (st0 w os) []
open PySem.W in
noncomputable def keep0 : List Nat := [1, 2, 3, 4, 5, 6, 7, 9, 10, 13, 14, 15, 16]
noncomputable def q0 : Program := PySem.W.view prg0 keep0
noncomputable def loose0 : List Str := [Str.ofString "ASCII_CTRL", Str.ofString "ILLEGAL_BASIC_STR_CHARS", Str.ofString "ILLEGAL_LITERAL_STR_CHARS", Str.ofString "_initial_missing", Str.ofString "reduce"]
noncomputable def tabs0 : List Addr := [65, 72, 76, 107]
noncomputable def okOut (o : Out) : Bool := match o with | .fin (.ret (.ok _)) => true | _ => false
noncomputable def framed (h : Heap) : List (Option Obj) := (List.range 11).map fun b => if b == mainNs || b == cStatics then none else h.get? b
noncomputable def chars36 : List Nat := [31, 30, 29, 28, 27, 26, 25, 24, 23, 22, 21, 20, 19, 18, 17, 16, 15, 14, 13, 12, 11, 10, 8, 7, 6, 5, 4, 3, 2, 1, 0, 127]
noncomputable def view0 (w : World) (r : Out × Shared × Trace) :=
  ((okOut r.1, r.2.1.os, PySem.W.gensDone r.2.1),
    (PySem.W.staticsOk (importedModules prg0.main.body) (PySem.W.boot_heap w.params) r.2.1.heap && PySem.W.namesBound prg0 r.2.1.heap && PySem.W.gensDone r.2.1 && PySem.W.laidKept (PySem.W.boot_heap w.params) r.2.1.heap),
    PySem.W.openSeen q0 loose0 (importedModules prg0.main.body) (fun _ => true) false r.2.1,
    ((KY w.params).map fun p => r.2.1.heap.get? p.1),
    [r.2.1.heap.get? 65, r.2.1.heap.get? 72, r.2.1.heap.get? 107],
    framed r.2.1.heap, (elemsAt 36 r.2.2).map (fun x => x.cps.toList), (setAt r.2.1 36).isSome)
noncomputable def good0 (w : World) (os : OsState) :=
  ((true, os, true), true, PySem.W.openGood q0 loose0, ((KY w.params).map fun p => some p.2),
    [some (PySem.W.tabObj #[]), some (PySem.W.tabObj #[]), some (PySem.W.tabObj #[])], framed (PySem.W.boot_heap w.params), chars36.map (fun c => [c]), true)
noncomputable def flg (a b : Bool) (w : World) : World := (w.withFollow "comprehension-iter-twice" a).withFollow "special-get-raises" b
theorem tryV_ff (w : World) (O : Ops) (os : OsState) : (run0 (flg false false w) O os 20000).map (view0 (flg false false w)) = some (good0 (flg false false w) os) := by kernel_rfl
theorem tryV_ft (w : World) (O : Ops) (os : OsState) : (run0 (flg false true w) O os 20000).map (view0 (flg false true w)) = some (good0 (flg false true w) os) := by kernel_rfl
theorem tryV_tf (w : World) (O : Ops) (os : OsState) : (run0 (flg true false w) O os 20000).map (view0 (flg true false w)) = some (good0 (flg true false w) os) := by kernel_rfl
theorem tryV_tt (w : World) (O : Ops) (os : OsState) : (run0 (flg true true w) O os 20000).map (view0 (flg true true w)) = some (good0 (flg true true w) os) := by kernel_rfl
theorem forget_done {a b : Array GenState} (h : a.map GenState.forget = b.map GenState.forget) (hb : ∀ g ∈ b, g = GenState.finished) : a = b := by
  have hs : a.size = b.size := by simpa using congrArg Array.size h
  refine Array.ext hs fun i h1 h2 => ?_
  have e := congrArg (fun x : Array GenState => x[i]?) h
  simp only [Array.getElem?_map, Array.getElem?_eq_getElem h1, Array.getElem?_eq_getElem h2, Option.map_some, Option.some.injEq] at e
  have hf := hb _ (Array.getElem_mem h2)
  rw [hf] at e ⊢
  cases hg : a[i] <;> rw [hg] at e <;> first | rfl | cases e
theorem done_gens {s : Shared} (h : PySem.W.gensDone s = true) : ∀ g ∈ s.gens, g = GenState.finished := fun g hg => by
  have := List.all_eq_true.mp h g (Array.mem_toList_iff.mpr hg)
  revert this
  cases g <;> simp
theorem done_clean {s : Shared} (h : PySem.W.gensDone s = true) : leftWithCleanup s.gens = false := by
  unfold leftWithCleanup
  rw [Array.any_eq_false]
  intro i hi
  rw [done_gens h _ (Array.getElem_mem hi)]
  simp
theorem top_runs {prog : Program} {w : World} {t : Sem PySem.Fin} {s s' : Shared} {f : PySem.Flow} (hz : s.asleep) (h : Runs (model prog w) ctx0 default t [] s (.ret (.ok f)) s') (hd : PySem.W.gensDone s' = true) :
    (∃ n t₁, schedN (denote table) prog w n (.single s ⟨t, .builtin "claim.caller" {}, default, []⟩) = .running (.single s' t₁) ∧ PySem.W.through t₁ = true) ∧ s'.heap.life = s.heap.life := by
  have same : ∀ σ : Shared, σ.forget = s'.forget → σ = s' := fun σ hf => by
    obtain ⟨e1, e2, e3, e4, e5⟩ := σ
    obtain ⟨d1, d2, d3, d4, d5⟩ := s'
    have q1 := congrArg Shared.heap hf
    have q2 := congrArg Shared.gens hf
    have q3 := congrArg Shared.drawn hf
    have q4 := congrArg Shared.toks hf
    have q5 := congrArg Shared.os hf
    have q6 := forget_done q2 (done_gens hd)
    dsimp only [Shared.forget] at q1 q3 q4 q5
    dsimp only at q6
    rw [q1, q3, q4, q5, q6]
  obtain ⟨n, hn⟩ := halts_iff.mpr ⟨h, done_clean hd⟩
  have hn' : runNI (denote table) prog w n s ⟨t, .builtin "claim.caller" {}, default, []⟩ = .halted (.done f) s' := hn
  obtain ⟨s'', hr, hf, hc⟩ := runNI_real (denote table) prog w hn' (by rfl)
  have hl : s''.heap.life = s.heap.life := runN_life _ _ _ hr
  rw [same s'' hf] at hl
  have hq : Sequential (denote table) prog w s ⟨t, .builtin "claim.caller" {}, default, []⟩ := ⟨hc, fun m s₃ hm => by
    have a := runN_mono (denote table) prog w n m s _ _ _ hr
    have b := runN_mono (denote table) prog w m n s _ _ _ hm
    rw [Nat.add_comm, b] at a
    cases a⟩
  obtain ⟨k, t', c', p', pre', hk, ht, hp⟩ := (runs_reach h [] ⟨rfl, rfl, rfl, rfl⟩).runN
  subst ht; subst hp
  have hk' : runNK (denote table) prog w k s ⟨t, .builtin "claim.caller" {}, default, []⟩ = .running s' ⟨leafOf (.ok f), c', p', []⟩ := runNI_running hk
  have e := runNK_same (denote table) prog w k (s₁ := s) (s₂ := s) (t₁ := ⟨t, .builtin "claim.caller" {}, default, []⟩) (t₂ := ⟨t, .builtin "claim.caller" {}, default, []⟩) rfl rfl
  rw [hk'] at e
  refine ⟨?_, hl⟩
  cases hrk : runN (denote table) prog w k s ⟨t, .builtin "claim.caller" {}, default, []⟩ with
  | halted o σ => rw [hrk] at e; cases e
  | running σ th =>
    rw [hrk] at e
    obtain ⟨cur, code, pos, stack⟩ := th
    have e1 : s'.forget = σ.forget := by injection e
    have e2 : (⟨leafOf (.ok f), c', p', []⟩ : Thread).forget = (⟨cur, code, pos, stack⟩ : Thread).forget := by injection e
    have e3 : leafOf (.ok f) = cur := congrArg Thread.cur e2
    have e4 : forgetAll [] = forgetAll stack := congrArg Thread.stack e2
    have hst : stack = [] := by cases stack with | nil => rfl | cons x xs => cases e4
    subst hst; subst e3
    have e5 := same σ e1.symm
    subst e5
    exact ⟨k, _, by rw [schedN_eq_runN (denote table) prog w s _ hz hq k, hrk]; rfl, rfl⟩
open PySem.W in
theorem flg_self (w : World) : flg (w.params.followText "comprehension-iter-twice") (w.params.followText "special-get-raises") w = w := by
  have e1 := World.withFollow_self w "comprehension-iter-twice"
  unfold flg; rw [e1]; exact World.withFollow_self w "special-get-raises"
theorem tryV (w : World) (O : Ops) (os : OsState) : (run0 w O os 20000).map (view0 w) = some (good0 w os) := by
  have e := flg_self w
  cases h1 : w.params.followText "comprehension-iter-twice" <;> cases h2 : w.params.followText "special-get-raises" <;> rw [h1, h2] at e
  · have h := tryV_ff w O os; rw [e] at h; exact h
  · have h := tryV_ft w O os; rw [e] at h; exact h
  · have h := tryV_tf w O os; rw [e] at h; exact h
  · have h := tryV_tt w O os; rw [e] at h; exact h
theorem sinv0 (prog : Program) (w : World) (os : OsState) : SInv prog w (st0 w os) [] := by
  refine ⟨fun a o e hn => ?_, fun q hq => (nomatch hq)⟩
  have key : (PySem.W.boot_heap w.params).objs.toList.all noSet = true := by kernel_rfl
  have e' : (PySem.W.boot_heap w.params).get? a = some o := e
  obtain ⟨e1, _⟩ := Heap.get?_some_iff.mp e'
  have hm : o ∈ (PySem.W.boot_heap w.params).objs.toList := Array.mem_toList_iff.mpr (Array.mem_of_getElem? e1)
  have := List.all_eq_true.mp key o hm
  rw [hn] at this; cases this
theorem okOut_inv {o : Out} (h : okOut o = true) : ∃ f, o = .fin (.ret (.ok f)) := by
  unfold okOut at h; split at h
  · exact ⟨_, rfl⟩
  · cases h
open PySem.W in
/-- all that is known of the state behind the top -/
structure HeadAt (w : World) (s₀ s : Shared) : Prop where
  ran : TopRan prg0 w s₀ s
  asleep : s.asleep
  gens : leftWithCleanup s.gens = false
  ns : s.heap.isNs mainGlobals = true
  ground : Ground q0 loose0 [] (fun _ _ => True) w s (s.heap.nsMap mainGlobals) (s.heap.nsMap builtinsNs) s.heap
  ky : (KY w.params : Frag).In s.heap
  tabs : s.heap.get? 65 = some (tabObj #[]) ∧ s.heap.get? 72 = some (tabObj #[]) ∧ s.heap.get? 107 = some (tabObj #[])
  fs : FS prg0 w s.heap 36 SSx
open PySem.W in
theorem in_of_map {K : Frag} {h : Heap} (e : K.map (fun p => h.get? p.1) = K.map fun p => some p.2) : K.In h := fun a o hl => by
  have hm := mem_of_lookupK hl
  have := List.map_inj_left.mp e (a, o) hm
  exact this
theorem chars_iff (c : Nat) : ((decide (c < 32) && c != 9) || c == 127) = chars36.contains c := by
  by_cases h : c < 128
  · have key : ∀ d : Fin 128, ((decide (d.val < 32) && d.val != 9) || d.val == 127) = chars36.contains d.val := by decide +kernel
    exact key ⟨c, h⟩
  · have h1 : (decide (c < 32) && c != 9 || c == 127) = false := by
      have a : decide (c < 32) = false := decide_eq_false (by omega)
      have b : (c == 127) = false := beq_eq_false_iff_ne.mpr (by omega)
      rw [a, b]; rfl
    have h2 : chars36.contains c = false := by
      rw [Bool.eq_false_iff]
      intro q
      have hm := List.contains_iff_mem.mp q
      have key : ∀ x ∈ chars36, x < 128 := by decide
      exact h (key c hm)
    rw [h1, h2]
theorem ssx_iff (k : Str) : SSx k = true ↔ k.cps.toList ∈ chars36.map fun c => [c] := by
  unfold SSx
  generalize k.cps.toList = l
  match l with
  | [] => simp
  | [c] =>
    show (decide (c < 32) && c != 9 || c == 127) = true ↔ _
    rw [chars_iff, List.contains_iff_mem]; simp
  | a :: b :: r => simp
theorem fs_of {w : World} {s : Shared} {tr : Trace} (I : SInv prg0 w s tr) (h : (elemsAt 36 tr).map (fun x => x.cps.toList) = chars36.map fun c => [c]) (hs : (setAt s 36).isSome = true) : FS prg0 w s.heap 36 SSx := by
  obtain ⟨st, hst⟩ := Option.isSome_iff_exists.mp hs
  obtain ⟨h1, _, h3, h4, _, h5, h6⟩ := setAt_inv I hst
  refine ⟨st.1, st.2.1, st.2.2, h1, h3, fun k => ?_, Nat.lt_of_lt_of_le h5 (by decide), h6⟩
  rw [← h4 k, ssx_iff, ← h]
  constructor
  · intro q
    obtain ⟨x, hx, e⟩ := List.mem_map.mp q
    have : x = k := by cases x; cases k; simp only [Str.mk.injEq]; exact Array.toList_inj.mp e
    rw [← this]; exact hx
  · intro q; exact List.mem_map.mpr ⟨k, q, rfl⟩
theorem run_sound (w : World) (os : OsState) : ∃ f s tr, ev (denote table) ⟨prg0, w.params⟩ (ops prg0 w) 20000 (.fin ctx0 default (PySem.W.topStub prg0).cur) (st0 w os) [] = some (.fin (.ret (.ok f)), s, tr) ∧ view0 w (.fin (.ret (.ok f)), s, tr) = good0 w os := by
  obtain ⟨r, h1, h2⟩ := Option.map_eq_some_iff.mp (tryV w (ops prg0 w) os)
  obtain ⟨o, s, tr⟩ := r
  obtain ⟨f, rfl⟩ := okOut_inv (congrArg (fun x => x.1.1) h2)
  refine ⟨f, s, tr, ?_, h2⟩
  unfold run0 at h1
  rw [← table_eq_tree] at h1
  exact h1
open PySem.W in
theorem frames_kept {w : World} {s : Shared} (hf : framed s.heap = framed (boot_heap w.params)) (b : Addr) (o : Obj) (e : (boot_heap w.params).get? b = some o) (h1 : b ≠ mainNs) (h2 : b ≠ cStatics) : s.heap.get? b = some o := by
  have hb : b < 11 := by have := Heap.lt_size e; exact this
  have := List.map_inj_left.mp hf b (List.mem_range.mpr hb)
  have hc : (b == mainNs || b == cStatics) = false := by
    rw [Bool.or_eq_false_iff]; exact ⟨beq_eq_false_iff_ne.mpr h1, beq_eq_false_iff_ne.mpr h2⟩
  rw [hc] at this
  simp only [Bool.false_eq_true, if_false] at this
  rw [this, e]
open PySem.W in
theorem head_at {w : World} {s₀ : Shared} (hs : s₀ = st0 w s₀.os) (hz : s₀.asleep) : ∃ s, HeadAt w s₀ s := by
  obtain ⟨f, s, tr, hev, hv⟩ := run_sound w s₀.os
  obtain ⟨I, m⟩ := ev_sound (ops_ok prg0 w) _ _ _ _ _ _ _ hev (sinv0 prg0 w s₀.os)
  have hos : s.os = s₀.os := congrArg (fun x => x.1.2.1) hv
  have hgd : gensDone s = true := congrArg (fun x => x.1.2.2) hv
  have hch : (staticsOk (importedModules prg0.main.body) (boot_heap w.params) s.heap && namesBound prg0 s.heap && gensDone s && laidKept (boot_heap w.params) s.heap) = true := congrArg (fun x => x.2.1) hv
  have hseen : openSeen q0 loose0 (importedModules prg0.main.body) (fun _ => true) false s = openGood q0 loose0 := congrArg (fun x => x.2.2.1) hv
  have hky : ((KY w.params).map fun p => s.heap.get? p.1) = (KY w.params).map fun p => some p.2 := congrArg (fun x => x.2.2.2.1) hv
  have htab : [s.heap.get? 65, s.heap.get? 72, s.heap.get? 107] = [some (tabObj #[]), some (tabObj #[]), some (tabObj #[])] := congrArg (fun x => x.2.2.2.2.1) hv
  have hfr : framed s.heap = framed (boot_heap w.params) := congrArg (fun x => x.2.2.2.2.2.1) hv
  have hel : (elemsAt 36 tr).map (fun x => x.cps.toList) = chars36.map fun c => [c] := congrArg (fun x => x.2.2.2.2.2.2.1) hv
  have hst : (setAt s 36).isSome = true := congrArg (fun x => x.2.2.2.2.2.2.2) hv
  obtain ⟨h1, hlk⟩ := Bool.and_eq_true_iff.mp hch
  obtain ⟨h1, _⟩ := Bool.and_eq_true_iff.mp h1
  obtain ⟨hso, hnb⟩ := Bool.and_eq_true_iff.mp h1
  rw [← hs] at m
  obtain ⟨hrun, hlife⟩ := top_runs hz m hgd
  have hheap : s₀.heap = boot_heap w.params := by rw [hs]; rfl
  obtain ⟨G, g0, g1, g2, g3, g4, g5⟩ := ground_of_open (w := w) (XP := fun _ _ => True) (fun _ _ => trivial) (by kernel_rfl) hseen
  have hrun2 : ∃ n t, schedN (denote table) prg0 w n (.single s₀ (topStub prg0)) = .running (.single s t) ∧ through t = true := hrun
  refine ⟨s, ⟨hrun2, hlife, Shared.rest_eq hos, ?_, g2, ?_, g3, g4, g5, gens_of_done hgd, names_of_bound hnb, ?_⟩, Shared.asleep_of_life hlife hz, done_clean hgd, g1, G, in_of_map hky, ?_, fs_of I hel hst⟩
  · intro b o e hn
    rw [hheap] at e
    exact frames_kept hfr b o e (fun q => hn (.inl q)) (fun q => hn (.inr (.inl q)))
  · rw [hheap]; exact statics_of_ok hso
  · rw [hheap]; exact laid_of_kept hlk
  · injection htab with a1 a2
    injection a2 with a2 a3
    injection a3 with a3 _
    exact ⟨a1, a2, a3⟩
open PySem.W in
theorem opening0 : opening prg0 = plainProg prg0.main.scope.names := by rfl
open PySem.W in
theorem fence0 (s : Shared) : fenceModules? prg0 s = some s := by rfl
theorem shared_eta {s : Shared} {h : Heap} {g : Array GenState} {d : Drawn} {t : Nat} (h1 : s.heap = h) (h2 : s.gens = g) (h3 : s.drawn = d) (h4 : s.toks = t) : s = ⟨h, g, d, t, s.os⟩ := by subst h1 h2 h3 h4; rfl
open PySem.W in
theorem after_boot (w : World) : (∃ s, AfterRun (opening prg0) w s) ∧ ∀ s, AfterRun (opening prg0) w s → s = st0 w s.os ∧ s.asleep := by
  have h := boot_open (p := prg0) (N := 600) opening0 (by rfl) fence0 w
  rw [← table_eq_tree] at h
  obtain ⟨s₀, h2, hv⟩ := Option.map_eq_some_iff.mp h
  obtain ⟨s, h4, h5⟩ := Option.bind_eq_some_iff.mp h2
  have A := AfterImport.of_importEnds h4
  rw [fence0] at h5
  have h6 : s = s₀ := Option.some.inj h5
  have hv' := hv
  refine ⟨⟨s, A⟩, fun s' hs' => ?_⟩
  have h7 : s' = s := AfterImport.unique hs' A
  rw [h7, h6]
  refine ⟨?_, ?_⟩
  · exact shared_eta (congrArg Prod.fst hv') (congrArg (fun x => x.2.1) hv') (congrArg (fun x => x.2.2.1) hv') (congrArg (fun x => x.2.2.2) hv')
  · rw [← h6]; exact A.life
open PySem.W
noncomputable abbrev tabs3 : List (Addr × Addr) := [(69, 65), (76, 72), (109, 107)]
theorem ky_code {w : World} {h : Heap} (Y : (KY w.params : Frag).In h) : CodeHd h 69 65 ∧ CodeHd h 76 72 ∧ CodeHd h 109 107 :=
  ⟨⟨_, _, _, _, _, _, _, _, _, Y 69 _ (by rfl), rfl, rfl, rfl, rfl, rfl, rfl, rfl, rfl, by decide⟩,
   ⟨_, _, _, _, _, _, _, _, _, Y 76 _ (by rfl), rfl, rfl, rfl, rfl, rfl, rfl, rfl, rfl, by decide⟩,
   ⟨_, _, _, _, _, _, _, _, _, Y 109 _ (by rfl), rfl, rfl, rfl, rfl, rfl, rfl, rfl, rfl, by decide⟩⟩
theorem ky_tabs {w : World} {h : Heap} (Y : (KY w.params : Frag).In h) (t : h.get? 65 = some (tabObj #[]) ∧ h.get? 72 = some (tabObj #[]) ∧ h.get? 107 = some (tabObj #[])) : TabsAt tabs3 h := by
  obtain ⟨c1, c2, c3⟩ := ky_code Y
  intro q hq
  simp only [List.mem_cons, List.not_mem_nil, or_false] at hq
  rcases hq with rfl | rfl | rfl
  · exact ⟨c1, t.1⟩
  · exact ⟨c2, t.2.1⟩
  · exact ⟨c3, t.2.2⟩
theorem ghost_in {K : Frag} {h : Heap} (X : K.In h) (hK : (K.all fun p => !([65, 72, 107] : List Nat).contains p.1) = true) : K.In (ghostOf h tabs3) := fun a o e => by
  refine ghost_ne (X a o e) fun q => ?_
  have h2 := List.all_eq_true.mp hK (a, o) (mem_of_lookupK e)
  have : ([65, 72, 107] : List Nat).contains a = true := List.contains_iff_mem.mpr q
  rw [this] at h2; cases h2
theorem k0_of_ky {w : World} {h : Heap} (Y : (KY w.params : Frag).In h) (hk : (K0 w.params).all (fun p => ((K1 w.params : Frag).lookup p.1).isNone) = true) : (K0 w.params).In h := fun a o e => by
  refine Y a o ?_
  have h2 := List.all_eq_true.mp hk (a, o) (mem_of_lookupK e)
  have h3 : (K1 w.params : Frag).lookup a = none := Option.isNone_iff_eq_none.mp h2
  show List.lookup a (K1 w.params ++ K0 w.params) = some o
  rw [List.lookup_append, h3]; exact e
theorem call_law {w : World} {s : Shared} {S : Addr} {vs : List Value} {ns : List Int} {loose : List Str} {mean : ExcName → Option Value} {mg mb : Str → Option Value} {p : Program} (hi : IntsAre vs ns) (hns : ns.length ≤ 63) (hl : s.heap.IsList S vs.toArray)
  (T : Top p loose mean mg mb s.heap) (Y : (KY w.params : Frag).In s.heap) (t : s.heap.get? 65 = some (tabObj #[]) ∧ s.heap.get? 72 = some (tabObj #[]) ∧ s.heap.get? 107 = some (tabObj #[])) (fs : FS prg0 w s.heap 36 SSx) :
  codeAny (model prg0 w) callerA (.call (.ref 110) ⟨[.ref S], []⟩) (fun r s' => r = .ok (.ret (.bool true)) ∧ (∀ b o, (ghostOf s.heap tabs3).get? b = some o → s'.heap.get? b = some o) ∧ GrownAll tabs3 s'.heap ∧ s'.os = s.os ∧ s'.gens = s.gens) s := by
  have hT := ky_tabs Y t
  have X : (K0 w.params).In s.heap := k0_of_ky Y (by kernel_rfl)
  obtain ⟨_, _, c3⟩ := ky_code Y
  have ho := Y 110 _ (by rfl)
  refine call_cellsN (by decide) ho (fd_plain rfl) T.nolimit (codeRec_of Y (by kernel_rfl)) rfl (kinds_of (by kinds_ok)) (by decide) fun h₁ tk cells F N C => ?_
  obtain ⟨oW, hcE, hW⟩ := CellsAre.one C
  subst hcE
  have F' := ghost_fr hT F
  have N' := ghost_news hT F N
  have hc := ghost_code hT
  refine law_body (SS := SSx) (S := S) (vs := vs) (ns := ns) (oW := oW) hi hns (law_pure (good_src ns)) (ghost_below hT) (ghost_list hT hl) ?_ (ghost_in X (by kernel_rfl)) (ghost_in Y (by kernel_rfl)) hc.1 hc.2.2.1 ?_ ?_ hW ?_ (ghost_top hT T) ?_ ?_
  · exact F'
  · obtain ⟨es, ep, tt, e, r⟩ := fs
    exact ⟨es, ep, tt, ghost_get hT e (fun q => by cases q), r⟩
  · exact Heap.lt_size ho
  · exact N'
  · passes_own
  · intro h' tk' hk g1 g2 g3
    exact ⟨rfl, hk, ⟨g1, g2, g3, trivial⟩, rfl, rfl⟩
abbrev row0 : OpenRow := PySem.Challenge.rw_in0014_01.row
theorem args_given {w : World} {s s₂ : Shared} {args : List WData} {vals : List Value} {as : List Addr} (hpre : row0.toRowW.claim.pre args = true) (hlay : WData.layableAll args = true) (hrd : ReadsAllW row0.toRowW.records (classAt s.heap) s₂.heap vals args as)
  (hwl : WellAll w.params s₂.heap vals args) (hlo : ∀ a ∈ as, (a == sysModules) = false) : ∃ S xs ns, vals = [.ref S] ∧ s₂.heap.IsList S xs.toArray ∧ IntsAre xs ns ∧ ns.length ≤ 63 := by
  wrow_args hpre hlay hrd hwl hlo
  exact ⟨_, _, _, rfl, by assumption, by assumption, by omega⟩
theorem claim_ends {s s₂ s' : Shared} {args : List WData} {vs : List Value} {as : List Addr} (T : TabsAt tabs3 s₂.heap) (hrd : ReadsAllW [] (classAt s.heap) s₂.heap vs args as) (hpost : row0.toRowW.claim.post args (.bool true) args = true)
  (hk : ∀ b o, (ghostOf s₂.heap tabs3).get? b = some o → s'.heap.get? b = some o) (hg : GrownAll tabs3 s'.heap) : row0.toRowW.claim.Ends s args vs s₂ (.ok (.ret (.bool true))) s' := by
  have keep : ∀ b o, b ∉ tabs3.map (·.2) → s₂.heap.get? b = some o → s'.heap.get? b = some o := fun b o hb e => hk b o (ghost_ne e hb)
  have grown : ∀ b o, b ∈ tabs3.map (·.2) → s₂.heap.get? b = some o → isCodeTable s₂.heap b ∧ o = tabObj #[] ∧ ∃ ps, s'.heap.get? b = some (tabObj ps) := fun b o hb e => by
    obtain ⟨q, hq, rfl⟩ := List.mem_map.mp hb
    have e2 := (T q hq).2
    rw [e] at e2
    exact ⟨((T q hq).1.tab (T q hq).2).isCodeTable, Option.some.inj e2, hg.get q hq⟩
  have old : OldK s₂.heap s'.heap := by
    refine ⟨fun b o e => ?_, fun b o e => ?_⟩
    · by_cases hb : b ∈ tabs3.map (·.2)
      · obtain ⟨ht, rfl, ps, hP⟩ := grown b o hb e
        exact .inr (.inl ⟨ht, rfl, #[], ps, rfl, by rw [Array.empty_append]; exact hP⟩)
      · exact .inl (keep b o hb e)
    · by_cases hb : b ∈ tabs3.map (·.2)
      · obtain ⟨_, _, ps, hP⟩ := grown b o hb e
        exact ⟨_, hP⟩
      · exact ⟨o, keep b o hb e⟩
  refine .inl ⟨.bool true, rfl, fun _ => rfl, ⟨.bool true, args, [], as, .bool true, ?_, hpost, fun _ => ⟨List.nodup_nil, fun a ha => (nomatch ha), fun a ha => (nomatch ha)⟩, fun as₀ _ => ?_⟩, ?_, ?_, ?_⟩
  · exact hrd.keepsK fun b o e hc => old.get_of_cls e hc
  · exact ident_freeW (r := row0.toRowW) rfl rfl rfl _ _
  · intro i hi; cases hi
  · intro b o hb _ _; exact old.old b o hb
  · intro i hi; cases hi
theorem law_post (args : List WData) : row0.toRowW.claim.post args (.bool true) args = true := by wrow_post
theorem claim_from {w : World} {s₀ s : Shared} (H : HeadAt w s₀ s) (free : Addr → Prop) (gens : Prop) (kept : Heap → Prop) (hkept : ∀ h, kept h) : row0.toRowW.claim.CallFrom (callStub row0.name) w free gens kept s := by
  have G := H.ground
  refine ClaimW.callFrom_of_specN (c := row0.toRowW.claim) H.asleep H.gens fun args hpre hlay ord hord => ?_
  obtain ⟨⟨vs, s₂⟩, hlaid⟩ := Option.isSome_iff_exists.mp (layAllW_isSome (R := row0.toRowW.records) (cl := classAt s.heap) (P := w.params) (ord := ord) G.has args row0.toRowW.args s (pre_splitW hpre).1)
  have keeps := layAllW_keeps _ _ _ hlaid
  have hal := layAllW_rest _ _ _ hlaid
  obtain ⟨as, hrd, hin, hold⟩ := reads_layAllW hord _ _ _ hlaid hlay s₂.heap (fun _ _ e => e)
  have hwl := well_layAllW hord args s _ hlaid s₂.heap fun _ _ e => e
  obtain ⟨S, xs, ns, rfl, hl, hi, hns⟩ := args_given hpre hlay hrd hwl (fun a ha => beq_eq_false_iff_ne.mpr fun e => by have := (hin.2.2 a ha).1; subst e; exact absurd G.low (Nat.not_lt.mpr this))
  refine ⟨_, s₂, hlaid, ?_⟩
  have T := G.T.keeps keeps
  have Y : (KY w.params : Frag).In s₂.heap := H.ky.keeps keeps
  have t : s₂.heap.get? 65 = some (tabObj #[]) ∧ s₂.heap.get? 72 = some (tabObj #[]) ∧ s₂.heap.get? 107 = some (tabObj #[]) := ⟨keeps _ _ H.tabs.1, keeps _ _ H.tabs.2.1, keeps _ _ H.tabs.2.2⟩
  have hf : s.heap.nsMap mainGlobals row0.name = some (.ref 110) := mg_of Y T.g (by kernel_rfl)
  have main := call_law (s := { s₂ with gens := #[] }) hi hns hl T Y t (H.fs.keeps keeps)
  refine wpAny_bind (wpAny_nsGet (s := { s₂ with gens := #[] }) T.g ?_)
  rw [hf]
  refine wpAny_bind (wpAny_call (codeAny_mono main ?_))
  rintro r s' ⟨rfl, hk, hg, hos, hgn⟩
  exact wpAny_pure ⟨_, rfl, claim_ends (ky_tabs Y t) hrd (law_post args) hk hg, hos.trans hal.2.2.1, hgn, hkept _⟩
theorem law_defs {w : World} {s₀ s : Shared} (H : HeadAt w s₀ s) : ∀ n ∈ [row0.name], isTheDefsW row0.prog s.heap n := by
  intro n hn
  obtain rfl : n = row0.name := by simpa using hn
  exact pinned_of_view H.ns H.ground (by rfl) (by rfl) (by rfl)
theorem law_promised : row0.toRowW.promised := by w_witness2
theorem law_bare : row0.prog.bare := ⟨rfl, rfl, rfl, rfl, rfl, by decide +kernel⟩
theorem law_opens : opensWell row0.prog = true := by decide +kernel
theorem law_open : row0.toRowW.claim.HoldsOpenBy (callStub row0.name) [row0.name] row0.keeps false := by
  refine ⟨⟨law_bare, law_opens, rfl⟩, law_promised.witness, fun w => ⟨(after_boot w).1, fun s hs => ?_⟩⟩
  obtain ⟨e, hz⟩ := (after_boot w).2 s hs
  obtain ⟨s₁, H⟩ := head_at e hz
  refine ⟨s, fence0 s, ?_, s₁, H.ran, law_defs H, fun x hx => (nomatch hx), fun x hx => (nomatch hx), claim_from H _ _ _ fun h q => (by cases q)⟩
  rw [e]; rfl
theorem law_row : row0.wellSaid = true → row0.Holds := fun h => ⟨h, law_promised, law_open⟩
theorem law_said : PySem.Challenge.rw_in0014_01.wellSaid = true := by kernel_rfl
end
end Mine
theorem PySem.Challenge.cw_in0014_01_holds : PySem.Challenge.rw_in0014_01.Holds :=
  holds_law Mine.law_said Mine.law_row
